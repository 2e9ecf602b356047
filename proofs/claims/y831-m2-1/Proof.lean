import JvmDerived
import JvmDerived.Pilot.@@N@@Statement
import JvmDerived.Pilot.@@N@@Code
set_option linter.unusedVariables false
set_option linter.unusedSimpArgs false
@@BLOCK:NumsL.lean.txt@@
namespace Jvm.Pilot.@@N@@
open Jvm Jvm.ClassFile Sem Op Lib Jvm.Free Jvm.Stand Jvm.LawKit Jvm.RoadKit Bundle Jvm.Pilot.@@N@@.Jvm.D
theorem own_w {ws : List Jvm.Cond} {a0 : Array Value} {Z : State} (hw : ∀ d ∈ ws, d.before a0 Z = true) (i : Nat) {d : Jvm.Cond} (h : ws[i]? = some d) : d.before a0 Z = true := hw d (List.mem_of_getElem? h)
/-! the run from a frame comes to an end of which A holds: one walk a body, branches by cases -/
def own_Go (tb : Tables) (e : Env) (below : List Frame) (A : State → Prop) (T : State) (g : JFrame) : Prop := ∃ t, Steps tb e below (T.setTop g) t ∧ A t
theorem own_st {tb : Tables} {e : Env} {below : List Frame} {A : State → Prop} {T T1 : State} {g g1 : JFrame} (k : ∀ t, Steps tb e below (T1.setTop g1) t → Steps tb e below (T.setTop g) t) (h : own_Go tb e below A T1 g1) : own_Go tb e below A T g := by
  obtain ⟨t, a, b⟩ := h
  exact ⟨t, k t a, b⟩
def own_End (s : State) (below : List Frame) (Q : Option Value → Heap → List Loc → Prop) (k n : Nat) (t : State) : Prop := ∃ o, t.status = .running ∧ Ended t below o ∧ ∃ v L, o = .returned v ∧ Q v t.heap L ∧ FrameEnd s o t L k n
theorem own_open {tb : Tables} {e : Env} {below : List Frame} {s₁ s : State} {g g' : JFrame} {Q : Option Value → Heap → List Loc → Prop} {k n : Nat} (hg : g = g') (h : own_Go tb e below (own_End s below Q k n) s₁ g') : ∃ s₂ o, Steps tb e below (s₁.setTop g) s₂ ∧ s₂.status = .running ∧ Ended s₂ below o ∧ ∃ v L, o = .returned v ∧ Q v s₂.heap L ∧ FrameEnd s o s₂ L k n := by
  subst hg
  obtain ⟨t, a, o, b, c, d⟩ := h
  exact ⟨t, o, a, b, c, d⟩
theorem own_nar {t : FieldType} {w : Value} (hw : w.isRef = true) : narrow t w = w := by cases w <;> first | (cases t <;> rfl) | simp [Value.isRef] at hw
section OwnEnds
variable {p : Program} {l : Launch} {e : Env} {R : Room} {s : State} {m : MethodId} {args : Array Value} {below : List Frame} {meth : Method} {c : Code} {T : State} {locs : List Loc} {cells slots : Nat} {Q : Option Value → Heap → List Loc → Prop} {k n : Nat} {h : Heap}
theorem own_end (X : Stand p l e R s m args below meth c T locs cells slots) (hlk : meth.locks = false) (v : Option Value) (hv : meth.sig.returnType = none → v = none) (hk : cells ≤ k) (hn : slots ≤ n) (eT : T.heap = h) (hq : Q v h locs) {g : JFrame}
    (hs : ∀ fs, (∀ (f : JFrame) (acts : List Action), f.method = m → f.locked = none → f.entered = [] → (doReturn e (T.setTop f) acts v).1 = T.setFrames fs) → Steps p.tables e below (T.setTop g) (T.setFrames fs)) : own_Go p.tables e below (own_End s below Q k n) T g := by
  obtain ⟨fs, hr, hrun, hended, hW, hsame⟩ := X.leave (v := v) hv
  exact ⟨_, hs fs hr, _, hrun, hended, v, locs, rfl, (by show Q v T.heap locs; rw [eT]; exact hq), ⟨_, rfl⟩, hW, hsame.mono hk hn⟩
theorem own_retZ (X : Stand p l e R s m args below meth c T locs cells slots) (hx : p.tables.exec = Jvm.exec) (hlk : meth.locks = false) {pc : Nat} {Ls : Array Slot} {z : Int32} {rest : List Value} {t : FieldType} (hret : meth.sig.returnType = some t) (ht : t = .boolean ∨ t = .byte ∨ t = .char ∨ t = .short) (hd : decode c.code pc = .ok (.ireturn, 1)) (hk : cells ≤ k) (hn : slots ≤ n) (eT : T.heap = h) (hq : Q (some (.int (nar t z))) h locs) :
    own_Go p.tables e below (own_End s below Q k n) T (mkF m pc Ls (.int z :: rest)) :=
  own_end X hlk _ (fun q => by rw [hret] at q; cases q) hk hn eT hq (fun fs hr => retN X hx hret ht hd hr)
theorem own_retI (X : Stand p l e R s m args below meth c T locs cells slots) (hx : p.tables.exec = Jvm.exec) (hlk : meth.locks = false) {pc : Nat} {Ls : Array Slot} {z : Int32} {rest : List Value} (hret : meth.sig.returnType = some .int) (hd : decode c.code pc = .ok (.ireturn, 1)) (hk : cells ≤ k) (hn : slots ≤ n) (eT : T.heap = h) (hq : Q (some (.int z)) h locs) :
    own_Go p.tables e below (own_End s below Q k n) T (mkF m pc Ls (.int z :: rest)) :=
  own_end X hlk _ (fun q => by rw [hret] at q; cases q) hk hn eT hq (fun fs hr => retOut X hx hret rfl (Or.inl ⟨rfl, Or.inl rfl, z, rfl⟩) hd hr)
theorem own_retJ (X : Stand p l e R s m args below meth c T locs cells slots) (hx : p.tables.exec = Jvm.exec) (hlk : meth.locks = false) {pc : Nat} {Ls : Array Slot} {z : Int64} {rest : List Value} (hret : meth.sig.returnType = some .long) (hd : decode c.code pc = .ok (.lreturn, 1)) (hk : cells ≤ k) (hn : slots ≤ n) (eT : T.heap = h) (hq : Q (some (.long z)) h locs) :
    own_Go p.tables e below (own_End s below Q k n) T (mkF m pc Ls (.long z :: rest)) :=
  own_end X hlk _ (fun q => by rw [hret] at q; cases q) hk hn eT hq (fun fs hr => retOut X hx hret rfl (Or.inr (Or.inl ⟨rfl, rfl, z, rfl⟩)) hd hr)
theorem own_retA (X : Stand p l e R s m args below meth c T locs cells slots) (hx : p.tables.exec = Jvm.exec) (hlk : meth.locks = false) {pc : Nat} {Ls : Array Slot} {w : Value} {rest : List Value} {t : FieldType} (hret : meth.sig.returnType = some t) (ht : t.isReference = true) (hw : w.isRef = true) (hd : decode c.code pc = .ok (.areturn, 1)) (hk : cells ≤ k) (hn : slots ≤ n) (eT : T.heap = h) (hq : Q (some w) h locs) :
    own_Go p.tables e below (own_End s below Q k n) T (mkF m pc Ls (w :: rest)) :=
  own_end X hlk _ (fun q => by rw [hret] at q; cases q) hk hn eT hq (fun fs hr => retOut X hx hret (own_nar hw) (Or.inr (Or.inr (Or.inr (Or.inr ⟨rfl, ht, hw⟩)))) hd hr)
theorem own_retV (X : Stand p l e R s m args below meth c T locs cells slots) (hx : p.tables.exec = Jvm.exec) (hlk : meth.locks = false) {pc : Nat} {Ls : Array Slot} (hret : meth.sig.returnType = none) (hd : decode c.code pc = .ok (.return_, 1)) (hk : cells ≤ k) (hn : slots ≤ n) (eT : T.heap = h) (hq : Q none h locs) :
    own_Go p.tables e below (own_End s below Q k n) T (mkF m pc Ls []) :=
  own_end X hlk _ (fun _ => rfl) hk hn eT hq (fun fs hr => X.returnOut hx hret hd hr)
end OwnEnds
section OwnWords
variable {args : Array Value} {first s : State} {o : Option Outcome} {idx : List Nat} {a b : Jvm.Term}
theorem own_eqI {k : Int32} (h : (Jvm.Cond.eq a b).value args first o s idx = some true) (hb : b.eval args first o idx s = some (.int k)) : a.eval args first o idx s = some (.int k) := by
  cases ha : a.eval args first o idx s with
  | none => simp [Cond.value, ha] at h
  | some x => cases x <;> simp [Cond.value, ha, hb] at h ⊢; exact h
theorem own_eqR {y : Addr} (h : (Jvm.Cond.eq a b).value args first o s idx = some true) (hb : b.eval args first o idx s = some (.ref y)) : a.eval args first o idx s = some (.ref y) := by
  cases ha : a.eval args first o idx s with
  | none => simp [Cond.value, ha] at h
  | some x => cases x <;> simp [Cond.value, ha, hb] at h ⊢; exact h
end OwnWords
theorem own_nei {i j : Int32} (h : i ≠ j) : Value.int i ≠ Value.int j := fun q => h (Value.int.inj q)
theorem own_plE {Z : State} {h : Heap} {a : Addr} {C : String} (F : Exa Z h a C) : ∃ c : Cell, h[a]? = some c ∧ c.vm.isStatics = false := by
  obtain ⟨c, -, h1, -, -, h2, -⟩ := F
  exact ⟨c, h1, h2⟩
theorem own_plV {Z : State} {h : Heap} {a : Addr} {k : ClassId} {ty : FieldType} {n : Int32} {vs : List Value} {d : Value} (F : Arv Z h a k ty n vs d) : ∃ c : Cell, h[a]? = some c ∧ c.vm.isStatics = false := by
  obtain ⟨c, A, -⟩ := F
  exact ⟨c, A.1, A.plain⟩
theorem own_stak {Z : State} {h h' : Heap} {C n d : String} {v : Value} {ws : List Addr} (F : Sta Z h C n d v) (K : Keep h h' ws) (q : ∀ x ∈ ws, ∃ c : Cell, h[x]? = some c ∧ c.vm.isStatics = false) : Sta Z h' C n d v := by
  obtain ⟨cf, i, k, f, st, cell, h1, h2, h3, h4, h5, h6, h7⟩ := F
  refine ⟨cf, i, k, f, st, cell, h1, h2, h3, h4, K.2.1 _ _ h5 (fun m => ?_), h6, h7⟩
  obtain ⟨c, e1, e2⟩ := q _ m
  cases h5.symm.trans e1
  rw [h6] at e2; cases e2
theorem own_nev {Z : State} {h : Heap} {a b : Addr} {C : String} {k : ClassId} {ty : FieldType} {n : Int32} {vs : List Value} {d : Value} {a0 : Array Value} {kk : Nat} (F : Exa Z h a C) (wi : (Jvm.Cond.instantiable C kk).before a0 Z = true) (G : Arv Z h b k ty n vs d) : a ≠ b := by
  obtain ⟨c, A, -⟩ := G
  exact ne_arr F wi A
section OwnArrays
variable {p : Program} {l : Launch} {e : Env} {R : Room} {s : State} {m : MethodId} {args : Array Value} {below : List Frame} {meth : Method} {c : Code} {T : State} {locs : List Loc} {cells slots : Nat} {Z : State} {h : Heap} {a : Addr} {k : ClassId} {ty : FieldType} {n j : Int32} {vs : List Value} {d v : Value} {rest : List Value}
theorem own_aaload (X : Stand p l e R s m args below meth c T locs cells slots) (hx : p.tables.exec = Jvm.exec) (hZ : Z.Warmed39 s.vm) (eT : T.heap = h) (F : Arv Z h a k ty n vs d) (hty : ty.isReference = true) (hj : ¬ j < 0 ∧ j < n) (hv : vs.getD j.toNatClampNeg d = v) {g : JFrame} (hg : g.method = m) (hs : g.stack = .int j :: .ref a :: rest) (hd : decode c.code g.pc = .ok (.aaload, 1)) :
    ∀ target, Steps p.tables e below (T.setTop { g with pc := g.pc + 1, stack := v :: rest }) target → Steps p.tables e below (T.setTop g) target := by
  obtain ⟨cl, A, -, S, -, H, -⟩ := F
  exact X.aaload hx (by rw [eT]; exact A.1) (State.isArrayOf_alike hZ.alike A.2.1) hty A.2.2 (inb_of S hj) (H.at (inb_of S hj) hv) hg hs hd
theorem own_iaload (X : Stand p l e R s m args below meth c T locs cells slots) (hx : p.tables.exec = Jvm.exec) (hZ : Z.Warmed39 s.vm) (eT : T.heap = h) (F : Arv Z h a k .int n vs d) (hj : ¬ j < 0 ∧ j < n) (hv : vs.getD j.toNatClampNeg d = v) {g : JFrame} (hg : g.method = m) (hs : g.stack = .int j :: .ref a :: rest) (hd : decode c.code g.pc = .ok (.iaload, 1)) :
    ∀ target, Steps p.tables e below (T.setTop { g with pc := g.pc + 1, stack := v :: rest }) target → Steps p.tables e below (T.setTop g) target := by
  obtain ⟨cl, A, -, S, -, H, -⟩ := F
  exact X.iaload hx (by rw [eT]; exact A.1) (State.isArrayOf_alike hZ.alike A.2.1) A.2.2 (inb_of S hj) (H.at (inb_of S hj) hv) hg hs hd
theorem own_laload (X : Stand p l e R s m args below meth c T locs cells slots) (hx : p.tables.exec = Jvm.exec) (hZ : Z.Warmed39 s.vm) (eT : T.heap = h) (F : Arv Z h a k .long n vs d) (hj : ¬ j < 0 ∧ j < n) (hv : vs.getD j.toNatClampNeg d = v) {g : JFrame} (hg : g.method = m) (hs : g.stack = .int j :: .ref a :: rest) (hd : decode c.code g.pc = .ok (.laload, 1)) :
    ∀ target, Steps p.tables e below (T.setTop { g with pc := g.pc + 1, stack := v :: rest }) target → Steps p.tables e below (T.setTop g) target := by
  obtain ⟨cl, A, -, S, -, H, -⟩ := F
  exact X.laload hx (by rw [eT]; exact A.1) (State.isArrayOf_alike hZ.alike A.2.1) A.2.2 (inb_of S hj) (H.at (inb_of S hj) hv) hg hs hd
theorem own_baloadB (X : Stand p l e R s m args below meth c T locs cells slots) (hx : p.tables.exec = Jvm.exec) (hZ : Z.Warmed39 s.vm) (eT : T.heap = h) (F : Arv Z h a k .byte n vs d) (hj : ¬ j < 0 ∧ j < n) (hv : vs.getD j.toNatClampNeg d = v) {g : JFrame} (hg : g.method = m) (hs : g.stack = .int j :: .ref a :: rest) (hd : decode c.code g.pc = .ok (.baload, 1)) :
    ∀ target, Steps p.tables e below (T.setTop { g with pc := g.pc + 1, stack := v :: rest }) target → Steps p.tables e below (T.setTop g) target := by
  obtain ⟨cl, A, -, S, -, H, -⟩ := F
  exact X.baloadBytes hx (by rw [eT]; exact A.1) (State.isArrayOf_alike hZ.alike A.2.1) A.2.2 (inb_of S hj) (H.at (inb_of S hj) hv) hg hs hd
theorem own_baloadZ (X : Stand p l e R s m args below meth c T locs cells slots) (hx : p.tables.exec = Jvm.exec) (hZ : Z.Warmed39 s.vm) (eT : T.heap = h) (F : Arv Z h a k .boolean n vs d) (hj : ¬ j < 0 ∧ j < n) (hv : vs.getD j.toNatClampNeg d = v) {g : JFrame} (hg : g.method = m) (hs : g.stack = .int j :: .ref a :: rest) (hd : decode c.code g.pc = .ok (.baload, 1)) :
    ∀ target, Steps p.tables e below (T.setTop { g with pc := g.pc + 1, stack := v :: rest }) target → Steps p.tables e below (T.setTop g) target := by
  obtain ⟨cl, A, -, S, -, H, -⟩ := F
  exact X.baloadBooleans hx (by rw [eT]; exact A.1) (State.isArrayOf_alike hZ.alike A.2.1) A.2.2 (inb_of S hj) (H.at (inb_of S hj) hv) hg hs hd
theorem own_alen (X : Stand p l e R s m args below meth c T locs cells slots) (hx : p.tables.exec = Jvm.exec) (hZ : Z.Warmed39 s.vm) (eT : T.heap = h) (F : Arv Z h a k ty n vs d) {g : JFrame} (hg : g.method = m) (hs : g.stack = .ref a :: rest) (hd : decode c.code g.pc = .ok (.arraylength, 1)) :
    ∀ target, Steps p.tables e below (T.setTop { g with pc := g.pc + 1, stack := .int n :: rest }) target → Steps p.tables e below (T.setTop g) target := by
  obtain ⟨cl, A, -, S, N, -, -⟩ := F
  have q := X.arraylength hx (by rw [eT]; exact A.1) (State.isArrayOf_alike hZ.alike A.2.1) hg hs hd
  rw [len_of S N] at q
  exact q
end OwnArrays
theorem own_psel {Z s : State} {a0 args : Array Value} {y : MethodName} {n : Nat} (hZ : Z.Warmed39 s.vm) (wi : (Jvm.Cond.instantiable y.cls n).before a0 Z = true) (wp : (Jvm.Cond.privateMethod y).before a0 Z = true) (wm : (Jvm.Cond.instanceMethod y).before a0 Z = true) (hy : y.cls ≠ "java/lang/invoke/MethodHandle" ∧ y.cls ≠ "java/lang/invoke/VarHandle") : (Jvm.Cond.selects y.cls y y).before args s = true := by
  have wi' : (Jvm.Cond.instantiable y.cls n).before args s = true := mvT hZ wi
  obtain ⟨c2, k2, i1, i2, -, i4, -⟩ := Cond.instantiable_spec wi'
  simp only [Bool.or_eq_false_iff] at i4
  exact selects_self_of_private i1 i2 i4.1 (Cond.privateMethod_at (mvP hZ wp (args := args))) (mvT hZ wm) hy
section OwnMore
variable {args : Array Value} {s : State} {t u : Jvm.Term} {x y : Addr} {cl : Cell} {ty : FieldType} {n j : Int32}
theorem own_len (h : (Jvm.Cond.eq (Jvm.Term.length t) (Jvm.Term.int n)).value args s none s [] = some true) (ht : t.eval args s none [] s = some (.ref x)) (A : Jvm.RoadKit.Arr s s.heap x cl ty) : cl.slots.size < 2 ^ 31 ∧ cl.slots.size.toInt32 = n := by
  have e := own_eqI h (Term.int_eval _)
  have ha : s.arrayAt? x = some cl := A.fin (Vm.Alike.refl _)
  by_cases hl : cl.slots.size < 2 ^ 31
  · refine ⟨hl, ?_⟩
    rw [len_f ht ha hl] at e
    exact Value.int.inj (Option.some.inj e)
  · simp [Term.eval, ht, ha, hl] at e
theorem own_elem (h : (Jvm.Cond.eq (Jvm.Term.elem t (Jvm.Term.int j)) u).value args s none s [] = some true) (hu : u.eval args s none [] s = some (.ref y)) (ht : t.eval args s none [] s = some (.ref x)) (A : Jvm.RoadKit.Arr s s.heap x cl ty) : cl.slots[j.toNatClampNeg]? = some (.ref y) :=
  (elem_in (own_eqR h hu) ht (Term.int_eval _) A.1).2
end OwnMore
theorem own_sto {Z : State} {h : Heap} {a y : Addr} {k : ClassId} {ty : FieldType} {n : Int32} {vs : List Value} {d : Value} {C : String} (F : Arv Z h a k ty n vs d) (O : Ovr Z k C) (I : Ins Z h y C true) : Sto Z h a (.ref y) := by
  obtain ⟨c, A, q, -⟩ := F
  exact Sto.ofV A q O I
theorem own_cp0 {p : Program} {l : Launch} {e : Env} {R : Room} {s : State} {m : MethodId} {args : Array Value} {below : List Frame} {meth : Method} {c : Code} {T : State} {locs : List Loc} {cells slots : Nat} {Z : State} {h : Heap} {a b : Addr} {k k' : ClassId} {ty ty' : FieldType} {z z' : Int32} {vs vd : List Value} {dv dd : Value}
    (X : Stand p l e R s m args below meth c T locs cells slots) (hx : p.tables.exec = Jvm.exec) (hZ : Z.Warmed39 s.vm) {a0 : Array Value} {own : String} {index : Nat} (hown : s.vm.findClass own = some m.cls)
    (w1 : (Jvm.Cond.methodLink own index Jvm.Stand.acN).before a0 Z = true) (w2 : (Jvm.Cond.native Jvm.Stand.acN).before a0 Z = true) (w3 : (Jvm.Cond.static Jvm.Stand.acN).before a0 Z = true) (w4 : (Jvm.Cond.initialized "java/lang/System").before a0 Z = true) (eT : T.heap = h)
    {sp dp nn : Int32} (A : Arv Z h a k ty z vs dv) (B : Arv Z h b k' ty' z' vd dd) (h0 : nn = 0) (hty : (ty = ty' ∧ refKind ty = false) ∨ (refKind ty = true ∧ refKind ty' = true))
    (h1 : ¬ sp < 0) (h2 : ¬ dp < 0) (h4 : sp.toNatClampNeg ≤ z.toNatClampNeg) (h5 : dp.toNatClampNeg ≤ z'.toNatClampNeg)
    {g : JFrame} (hg : g.method = m) (hsize : g.locals.size = c.maxLocals) {rest : List Value} (hs : g.stack = .int nn :: .int dp :: .ref b :: .int sp :: .ref a :: rest) (hd : decode c.code g.pc = .ok (.invokestatic index, 3))
    (hf : 1 ≤ R.frames) {W : Nat} (hW : 2 * g.monitorRoom + (rest.map fun v => v.category).sum ≤ W) (hlo : W + (nativeFrameWords "java/lang/System" "arraycopy" 5 + 11) ≤ R.locals) :
    ∃ T', Stand p l e R s m args below meth c T' locs cells slots ∧ T'.heap = h ∧ ∀ target, Steps p.tables e below (T'.setTop { g with pc := g.pc + 3, stack := rest }) target → Steps p.tables e below (T.setTop g) target := by
  subst h0
  obtain ⟨cs, As, -, Ss, -, Hs, Gs⟩ := A
  obtain ⟨cd, Ad, qd, Sd, Nd, Hd, Gd⟩ := B
  obtain ⟨os, ks, hks, sc, hsk⟩ := State.isArrayOf_alike hZ.alike As.2.1
  obtain ⟨od, kd, hkd, dc, hdk⟩ := State.isArrayOf_alike hZ.alike Ad.2.1
  have nat : ∀ {x : Int32}, ¬ x < 0 → x.toInt = x.toNatClampNeg := fun {x} q => by
    rw [Int32.lt_iff_toInt_lt] at q; have : (0 : Int32).toInt = 0 := rfl
    simp only [Int32.toNatClampNeg]; omega
  have z0 : (0 : Int32).toInt = 0 := rfl
  obtain ⟨vm₁, hW₁, X', st⟩ := X.arraycopyK (srcPos := sp) (destPos := dp) (n := 0) hx hown (mvT hZ w1) (mvT hZ w2) (mvT hZ w3) (mvT hZ w4) (by rw [eT]; exact As.1) (by rw [eT]; exact Ad.1) os od As.2.2 Ad.2.2 hks hkd hsk hdk
    (by rcases hty with ⟨rfl, r⟩ | ⟨r1, r2⟩; simp [r]; simp [r1, r2]) h1 h2 (by decide) (by rw [nat h1, z0, Ss]; omega) (by rw [nat h2, z0, Sd]; omega) (fun vm₁ hw i hi => absurd hi (Nat.not_lt_zero i)) hg hsize hs hd hf (by omega)
  have ec : copied cs cd sp dp 0 = cd := rfl
  have el : locs ++ copyLocs b dp.toNatClampNeg (0 : Int32).toNatClampNeg = locs := List.append_nil _
  rw [ec] at X' st
  rw [el] at X'
  refine ⟨_, X', ?_, st⟩
  show T.heap.setIfInBounds b cd = h
  rw [eT]
  have hb : b < h.size := Ad.lt
  have hg2 := Ad.1
  apply Array.ext_getElem?
  intro i
  by_cases hi : b = i
  · subst hi; rw [Array.getElem?_setIfInBounds_self_of_lt hb, hg2]
  · rw [Array.getElem?_setIfInBounds_ne hi]
theorem own_nb (x : Int32) : nar .byte (x.toInt8.toInt32) = x.toInt8.toInt32 := by simp [nar]
theorem own_clone {p : Program} {l : Launch} {e : Env} {R : Room} {s : State} {m : MethodId} {args : Array Value} {below : List Frame} {meth : Method} {c : Code} {T : State} {locs : List Loc} {cells slots : Nat} {Z : State} {h : Heap} {a : Addr} {ty : FieldType}
    (X : Stand p l e R s m args below meth c T locs cells slots) (hx : p.tables.exec = Jvm.exec) (hZ : Z.Warmed39 s.vm) {a0 : Array Value} {own ad : String} {index : Nat} (hown : s.vm.findClass own = some m.cls)
    (w1 : (Jvm.Cond.methodLink own index ⟨ad, "clone", "()Ljava/lang/Object;"⟩).before a0 Z = true) (w2 : (Jvm.Cond.sameMethod ad "java/lang/Object" "clone" "()Ljava/lang/Object;").before a0 Z = true) (w3 : (Jvm.Cond.native ⟨"java/lang/Object", "clone", "()Ljava/lang/Object;"⟩).before a0 Z = true)
    (w4 : (Jvm.Cond.instanceMethod ⟨"java/lang/Object", "clone", "()Ljava/lang/Object;"⟩).before a0 Z = true) (w5 : (Jvm.Cond.selects ad ⟨ad, "clone", "()Ljava/lang/Object;"⟩ ⟨"java/lang/Object", "clone", "()Ljava/lang/Object;"⟩).before a0 Z = true) (w6 : (Jvm.Cond.castable ad "java/lang/Cloneable").before a0 Z = true)
    (eT : T.heap = h) {k : ClassId} {z : Int32} {vs : List Value} {dv : Value} (F : Arv Z h a k ty z vs dv) (E : Exa Z h a ad) {g : JFrame} (hg : g.method = m) (hsize : g.locals.size = c.maxLocals) {rest : List Value} (hst : g.stack = .ref a :: rest) (hd : decode c.code g.pc = .ok (.invokevirtual index, 3))
    (hf : 1 ≤ R.frames) {W cap : Nat} (hW : 2 * g.monitorRoom + (rest.map fun v => v.category).sum ≤ W) (hl : W + 14 ≤ R.locals) (hcap : z.toNatClampNeg ≤ cap) (hc : cells + 1 ≤ R.cells) (hsl : slots + cap ≤ R.slots) :
    ∃ T' h', Stand p l e R s m args below meth c T' locs (cells + 1) (slots + cap) ∧ T'.heap = h' ∧ Ext h h' ∧ Arv Z h' h.size k ty z vs dv ∧ Exa Z h' h.size ad ∧
      ∀ target, Steps p.tables e below (T'.setTop { g with pc := g.pc + 3, stack := .ref h.size :: rest }) target → Steps p.tables e below (T.setTop g) target := by
  obtain ⟨cl, A, q1, S, q3, H, G⟩ := F
  have FC : FitC Z cl := fitC_of A fun i hi v hv => by rw [H i hi] at hv; cases hv; exact G i hi
  obtain ⟨T', h', X', e', ex, A', E', st⟩ := cloneA X hx hZ hown w1 w2 w3 w4 w5 w6 eT A E FC hg hsize hst hd hf hW hl (by rw [S]; exact hcap) hc hsl
  exact ⟨T', h', X', e', ex, ⟨cloneOf cl, A', q1, S, q3, H, G⟩, E', st⟩
def own_lt (pa ia pb ib : Int64) : Prop := pa.toInt < pb.toInt ∨ (pa.toInt = pb.toInt ∧ ia.toInt < ib.toInt)
theorem own_and3 (x : Int32) : x &&& (3 : Int32) = (0 : Int32) ∨ x &&& (3 : Int32) = (1 : Int32) ∨ x &&& (3 : Int32) = (2 : Int32) ∨ x &&& (3 : Int32) = (3 : Int32) := by
  have e1 : (x &&& (3 : Int32)).toInt = x.toInt % 2 ^ 2 := Jvm.Kit.i32_mask x 3 (k := 2) (by decide) (by decide)
  have z0 : (0 : Int32).toInt = 0 := rfl
  have z1 : (1 : Int32).toInt = 1 := rfl
  have z2 : (2 : Int32).toInt = 2 := rfl
  have z3 : (3 : Int32).toInt = 3 := rfl
  simp only [← Int32.toInt_inj]
  omega
theorem own_mvLN {Z s : State} {a0 args : Array Value} {own host : String} {index : Nat} {y : MethodName} (hZ : Z.Warmed39 s.vm) (w : (Jvm.Cond.methodLinkNest own index y host).before a0 Z = true) : (Jvm.Cond.methodLinkNest own index y host).before args s = true := (Cond.methodLinkNest_wide hZ w :)
theorem own_nf {args : Array Value} {s : State} {C : String} {x y z : MethodName} (hsel : (Jvm.Cond.selects C x z).before args s = true) (hc : z.cls = y.cls) : NotFace s y := fun r0 h0 => by
  obtain ⟨c2, r2, m2, q1, q2, q3, q4, kP, hkP, hkPi⟩ := Cond.selects_spec hsel
  have e1 := findClass_of_methodNamed h0
  have e2 := findClass_of_methodNamed q3
  rw [hc, e1] at e2
  have e3 := Option.some.inj e2
  exact ⟨kP, by rw [e3]; exact hkP, hkPi⟩
section OwnCalls
variable {p : Program} {l : Launch} {e : Env} {R : Room} {s : State} {m : MethodId} {args : Array Value} {below : List Frame} {meth : Method} {c : Code} {T : State} {locs : List Loc} {cells slots : Nat}
theorem own_callSN (X : Stand p l e R s m args below meth c T locs cells slots) (hexec : p.tables.exec = Jvm.exec) {own host : String} {index : Nat} {y : MethodName} {bytes : ByteArray} {maxL : Nat} {ret : Option FieldType}
    (hown : s.vm.findClass own = some m.cls) (hlink : (Jvm.Cond.methodLinkNest own index y host).before args s = true) (hstat : (Jvm.Cond.static y).before args s = true) (hinit : (Jvm.Cond.initialized y.cls).before args s = true)
    (hcode : (Jvm.Cond.code y bytes maxL ret).before args s = true) (hy : y.cls ≠ "java/lang/invoke/MethodHandle" ∧ y.cls ≠ "java/lang/invoke/VarHandle")
    {W : Nat} {Pre : Pt → Array Value → Prop} {Post : Pt → Array Value → Option Value → Pt → Prop} (hK : Back l R p e below s args y 3 W Pre Post)
    {g : JFrame} (hg : g.method = m) (hsize : g.locals.size = c.maxLocals) {argsL rest : List Value} (hlen : ∀ sig, parseMethodDescriptor y.desc = some sig → argsL.length = sig.parameters.length)
    (hstack : g.stack = argsL.reverse ++ rest) (hW : 2 * g.monitorRoom + (rest.map fun v => v.category).sum ≤ W) (hdg : decode c.code g.pc = .ok (.invokestatic index, 3))
    (hpre : ∀ vm₁, s.WarmedH vm₁ → Pre ⟨T.setVm vm₁, locs, cells, slots⟩ argsL.toArray) :
    ∃ (v : Option Value) (vm₁ : Vm) (B : Pt), s.WarmedH vm₁ ∧ Stand p l e R s m args below meth c B.U B.locs B.cells B.slots ∧ Post ⟨T.setVm vm₁, locs, cells, slots⟩ argsL.toArray v B ∧
      ∀ target, Steps p.tables e below (B.U.setTop { g with pc := g.pc + 3, stack := v.toList ++ rest }) target → Steps p.tables e below (T.setTop g) target := by
  obtain ⟨mk, hnamed⟩ := Cond.code_named hcode
  obtain ⟨methM, cM, hmethM, -, -, -, -, -, -, hsigM⟩ := Cond.code_spec hnamed hcode
  have hstatic : methM.isStatic = true := Cond.static_spec hnamed hmethM hstat
  obtain ⟨kP, hkP, -⟩ := className_of_methodNamed hnamed
  have hinitP : kP.init = .initialized := Cond.initialized_spec (findClass_of_methodNamed hnamed) hkP hinit
  obtain ⟨vm₁, X₁, hstep₁⟩ := X.invokestaticNest hexec hown hlink hnamed hmethM hstatic hkP hinitP hy (g := g) hg (argsL := argsL) (rest := rest) (hlen _ hsigM) hstack hdg
  obtain ⟨v, B, X', hpost, hsteps⟩ := hK m meth c ⟨T.setVm vm₁, locs, cells, slots⟩ { g with stack := rest } (.invokestatic index) mk argsL.toArray X₁ hg hsize hdg hW (X₁.named hnamed) (hpre vm₁ X₁.warmed)
  exact ⟨v, vm₁, B, X₁.warmed, X', hpost, fun target h => hstep₁ _ fun acts => by rw [doInvoke_state]; exact hsteps.trans h⟩
theorem own_specialRef {Z : State} {a0 : Array Value} (X : Stand p l e R s m args below meth c T locs cells slots) (hexec : p.tables.exec = Jvm.exec) (hZ : Z.Warmed39 s.vm) {own : String} {index : Nat} {y : MethodName} (hy1 : y.name = "<init>")
    (hown : s.vm.findClass own = some m.cls) (hlink : (Jvm.Cond.methodRef own index y).before a0 Z = true) (hinst : (Jvm.Cond.instanceMethod y).before a0 Z = true)
    {bytes : ByteArray} {maxL : Nat} (hcode : (Jvm.Cond.code y bytes maxL none).before a0 Z = true)
    (hy : y.cls ≠ "java/lang/invoke/MethodHandle" ∧ y.cls ≠ "java/lang/invoke/VarHandle")
    {W : Nat} {Pre : Pt → Array Value → Prop} {Post : Pt → Array Value → Option Value → Pt → Prop} (hK : Back l R p e below s args y 3 W Pre Post)
    {g : JFrame} (hg : g.method = m) (hsize : g.locals.size = c.maxLocals) {s₀ : State} (hcome : Steps p.tables e below s₀ (T.setTop g)) {a : Addr} {argsL rest : List Value}
    (hlen : ∀ sig, parseMethodDescriptor y.desc = some sig → argsL.length = sig.parameters.length) (hstack : g.stack = argsL.reverse ++ .ref a :: rest) (hW : 2 * g.monitorRoom + (rest.map fun v => v.category).sum ≤ W)
    (hdg : decode c.code g.pc = .ok (.invokespecial index, 3)) (hpre : ∀ vm₁, s.WarmedH vm₁ → Pre ⟨T.setVm vm₁, locs, cells, slots⟩ (.ref a :: argsL).toArray) :
    ∃ (v : Option Value) (vm₁ : Vm) (B : Pt), s.WarmedH vm₁ ∧ Stand p l e R s m args below meth c B.U B.locs B.cells B.slots ∧ Post ⟨T.setVm vm₁, locs, cells, slots⟩ (.ref a :: argsL).toArray v B ∧
      Steps p.tables e below s₀ (B.U.setTop { g with pc := g.pc + 3, stack := v.toList ++ rest }) := by
  have hinstS : (Jvm.Cond.instanceMethod y).before args s = true := mvT hZ hinst
  have hcodeS : (Jvm.Cond.code y bytes maxL none).before args s = true := mvT hZ hcode
  obtain ⟨objZ, methZ, hnZ, -⟩ := Cond.instanceMethod_spec hinst
  obtain ⟨obj, methO, hnO, hmO, hstO, habO⟩ := Cond.instanceMethod_spec hinstS
  obtain ⟨methO', cO, hmO', hcO, hbO, hlO, -, hlockO, -, hsigO⟩ := Cond.code_spec hnO hcodeS
  cases hmO.symm.trans hmO'
  obtain ⟨kO, hkO, hnameO⟩ := className_of_methodNamed hnO
  obtain ⟨hnameMO, hdescO⟩ := name_of_methodNamed hnO hmO
  have hS : (Jvm.Cond.methodRef own index y).before a0 (Z.setVm s.vm) = true := Cond.methodRef_warmed39 hZ hnZ hy hlink
  have hnS : (Z.setVm s.vm).methodNamed? y = some obj := hnO
  have hT : (Jvm.Cond.methodRef own index y).before a0 ((Z.setVm s.vm).setVm T.vm) = true := Cond.methodRef_warmed (s := Z.setVm s.vm) X.warmed hnS hy hS
  have hal := X.warmed.alike
  have hownT : ((Z.setVm s.vm).setVm T.vm).vm.findClass own = some m.cls := by show T.vm.findClass own = _; rw [hal.findClass]; exact hown
  obtain ⟨mm, c', q1, q2, q3, q4⟩ := Cond.methodRef_named e hownT hT
  have hfO : s.methodFound? y.cls y.name y.desc = some obj := State.methodFound?_of_named hnO hy
  have q1' : T.methodFound? y.cls y.name y.desc = some mm := q1
  have hnT : T.methodNamed? y = some obj := X.named hnO
  cases (State.methodFound?_of_named hnT hy).symm.trans q1'
  have hc' : c' = obj.cls := by
    have e1 := findClass_of_methodNamed hnT
    exact Option.some.inj (q3.symm.trans e1)
  subst hc'
  obtain ⟨kT, hkT, -⟩ := hal.2.2 _ _ hkO
  have hmT : T.vm.method? obj = some methO := by rw [hal.method?]; exact hmO
  have hfound : lookupSpecial T.vm obj.cls "<init>" methO.desc = .method obj := by
    rw [hal.lookupSpecial, hdescO, ← hy1]; exact lookupSpecial_of_named hnO hmO hstO
  have X₁ : Stand p l e R s m args below meth c (T.setVm T.vm) locs cells slots := X.noted X.warmed
  obtain ⟨v, B, X', hpost, hsteps⟩ := hK m meth c ⟨T.setVm T.vm, locs, cells, slots⟩ { g with stack := rest } (.invokespecial index) obj (.ref a :: argsL).toArray X₁ hg hsize hdg hW (X₁.named hnO) (hpre T.vm X.warmed)
  refine ⟨v, T.vm, B, X.warmed, X', hpost, (hcome.trans ?_).trans hsteps⟩
  subst hg
  jvm_step X.here [hexec, hdg, invokespecial.wp_init (e := e) (s := T) (k := kT) (meth := methO) (m := obj) (a := a) (args := argsL) (rest := rest) (f := g)
      X.here.top q4 q2 hkT hmT (by rw [hnameMO]; exact hy1) hstO habO hfound (hlen _ hsigO) hstack]
  intro acts
  rw [doInvoke_state]
  exact Steps.refl _
end OwnCalls
theorem own_addne {x a b : Int64} (h : a ≠ b) : (x + a).toInt ≠ (x + b).toInt := fun q => h (by
  have e := Int64.toInt_inj.mp q
  have e2 := congrArg (fun t => t - x) e
  simpa [Int64.add_comm x, Int64.add_sub_cancel] using e2)
abbrev own_s0 : String := "com/example/lonborg/lonborg/ItemTree$Node"
abbrev own_s1 : String := "com/example/lonborg/lonborg/Item"
abbrev own_s2 : String := "com/example/lonborg/lonborg/LeastNeeds"
abbrev own_s3 : String := "com/example/lonborg/lonborg/Resources"
abbrev own_s4 : String := "com/example/lonborg/lonborg/ItemTree"
abbrev own_s5 : String := "com/example/lonborg/lonborg/ItemTree$Leaf"
abbrev own_s6 : String := "Lcom/example/lonborg/lonborg/LeastNeeds;"
abbrev own_s7 : String := "()Lcom/example/lonborg/lonborg/Item;"
abbrev own_s8 : String := "[Lcom/example/lonborg/lonborg/Item;"
abbrev own_s9 : String := "[Lcom/example/lonborg/lonborg/Resources;"
abbrev own_s10 : String := "(Lcom/example/lonborg/lonborg/Item;)Lcom/example/lonborg/lonborg/ItemTree$Node;"
abbrev own_s11 : String := "(Lcom/example/lonborg/lonborg/Resources;)Lcom/example/lonborg/lonborg/LeastNeeds;"
abbrev own_s12 : String := "com/example/lonborg/lonborg/ItemTreeLastPinLaw"
abbrev own_s13 : String := "(Lcom/example/lonborg/lonborg/Resources;)V"
abbrev own_s14 : String := "(Lcom/example/lonborg/lonborg/Item;)V"
abbrev own_y0 : MethodName := ⟨own_s1, "checkedNeeds", "()Lcom/example/lonborg/lonborg/Resources;"⟩
abbrev own_y1 : MethodName := ⟨own_s4, "last", own_s7⟩
abbrev own_y2 : MethodName := ⟨own_s4, "add", own_s14⟩
abbrev own_y3 : MethodName := ⟨own_s12, "after", "(JJJJ)Z"⟩
abbrev own_y4 : MethodName := ⟨own_s5, "placeOf", "(Lcom/example/lonborg/lonborg/Item;)I"⟩
abbrev own_y5 : MethodName := ⟨own_s1, "priority", "()J"⟩
abbrev own_y6 : MethodName := ⟨own_s0, "widen", own_s13⟩
abbrev own_y7 : MethodName := ⟨own_s1, "<init>", "(JJLcom/example/lonborg/lonborg/Resources;)V"⟩
abbrev own_y8 : MethodName := ⟨own_s2, "with", own_s11⟩
abbrev own_y9 : MethodName := ⟨own_s4, "before", "(Lcom/example/lonborg/lonborg/Item;JJ)Z"⟩
abbrev own_y10 : MethodName := ⟨own_s1, "id", "()J"⟩
abbrev own_y11 : MethodName := ⟨own_s5, "add", own_s10⟩
abbrev own_y12 : MethodName := ⟨own_s5, "last", own_s7⟩
abbrev own_y13 : MethodName := ⟨own_s3, "fitsIn", "(Lcom/example/lonborg/lonborg/Resources;)Z"⟩
abbrev own_y14 : MethodName := ⟨own_s5, "widen", own_s13⟩
theorem own_d2_0 : decode prog_1_method_1_code 0 = .ok (.aload_n 0, 1) := by decide +kernel
theorem own_d2_1 : decode prog_1_method_1_code 1 = .ok (.invokespecial 1, 3) := by decide +kernel
theorem own_d2_4 : decode prog_1_method_1_code 4 = .ok (.aload_n 0, 1) := by decide +kernel
theorem own_d2_5 : decode prog_1_method_1_code 5 = .ok (.lload_n 1, 1) := by decide +kernel
theorem own_d2_6 : decode prog_1_method_1_code 6 = .ok (.putfield 7, 3) := by decide +kernel
theorem own_d2_9 : decode prog_1_method_1_code 9 = .ok (.aload_n 0, 1) := by decide +kernel
theorem own_d2_10 : decode prog_1_method_1_code 10 = .ok (.lload_n 3, 1) := by decide +kernel
theorem own_d2_11 : decode prog_1_method_1_code 11 = .ok (.putfield 13, 3) := by decide +kernel
theorem own_d2_14 : decode prog_1_method_1_code 14 = .ok (.aload_n 0, 1) := by decide +kernel
theorem own_d2_15 : decode prog_1_method_1_code 15 = .ok (.aload 5, 2) := by decide +kernel
theorem own_d2_17 : decode prog_1_method_1_code 17 = .ok (.putfield 16, 3) := by decide +kernel
theorem own_d2_20 : decode prog_1_method_1_code 20 = .ok (.aload_n 0, 1) := by decide +kernel
theorem own_d2_21 : decode prog_1_method_1_code 21 = .ok (.aload 6, 2) := by decide +kernel
theorem own_d2_23 : decode prog_1_method_1_code 23 = .ok (.putfield 20, 3) := by decide +kernel
theorem own_d2_26 : decode prog_1_method_1_code 26 = .ok (.return_, 1) := by decide +kernel
theorem own_ef2RJJNR (m : MethodId) (x0 : Addr) (x1 : Int64) (x2 : Int64) (x4 : Addr) : entryFrame m #[(.ref x0), (.long x1), (.long x2), .null, (.ref x4)] 7 = mkF m 0 #[.val (.ref x0), .val (.long x1), .second, .val (.long x2), .second, .val .null, .val (.ref x4)] [] := by first | (simp [entryFrame, mkF, argsToLocals, Value.category]; done) | rfl
theorem own_pn0 : plainName own_s1 = true := by first | (simp [plainName, overriddenIn]; done) | decide +kernel
def own_Q2_6 (Z : State) (b5001 : Addr) (jp1x2_6 : Int64) (jp2x2_6 : Int64) (w_NONE : Addr) (h0 : Heap) (n0 : Nat) (v : Option Value) (h : Heap) (L : List Loc) : Prop := Fr n0 L ∧ Keep h0 h [b5001] ∧ ((v = none ∧ Fld Z h b5001 own_s1 "id" "J" (.long jp1x2_6) ∧ Fld Z h b5001 own_s1 "priority" "J" (.long jp2x2_6) ∧ Fld Z h b5001 own_s1 "payload" "[B" .null ∧ Fld Z h b5001 own_s1 "needs" "Lcom/example/lonborg/lonborg/Resources;" (.ref w_NONE) ∧ True))
set_option maxRecDepth 65536 in
set_option maxHeartbeats 40000000 in
theorem own_rm2_6 (l : Launch) (Z : State) (a0 : Array Value) (hw : ∀ d ∈ tables_1, d.before a0 Z = true) (ws : List Jvm.Cond) (b5001 : Addr) (jp1x2_6 : Int64) (jp2x2_6 : Int64) (w_NONE : Addr) (h0 : Heap) (n0 : Nat) (Z0 : n0 ≤ h0.size) (P0 : Exa Z h0 b5001 own_s1) (P1 : Fld Z h0 b5001 own_s1 "id" "J" (.long (0 : Int64))) (g_b5001 : n0 ≤ b5001) (P3 : Fld Z h0 b5001 own_s1 "priority" "J" (.long (0 : Int64))) (P4 : Fld Z h0 b5001 own_s1 "payload" "[B" .null) (P5 : Fld Z h0 b5001 own_s1 "needs" "Lcom/example/lonborg/lonborg/Resources;" .null) :
    MetFree l (⟨own_s1, "<init>", "(JJ[BLcom/example/lonborg/lonborg/Resources;)V"⟩ : MethodName) (head1 (Jvm.Cond.code (⟨own_s1, "<init>", "(JJ[BLcom/example/lonborg/lonborg/Resources;)V"⟩ : MethodName) prog_1_method_1_code 7 none :: ws) ({ frames := 1, cells := 0, slots := 0, locals := 12 } : Room)) (fun a U => a = #[(.ref b5001), (.long jp1x2_6), (.long jp2x2_6), .null, (.ref w_NONE)] ∧ Z.Warmed39 U.vm ∧ U.heap = h0) (fun _ _ _ _ _ => True) (fun _ U o U' => ∃ v L, o = .returned v ∧ own_Q2_6 Z b5001 jp1x2_6 jp2x2_6 w_NONE h0 n0 v U'.heap L ∧ FrameEnd U o U' L ({ frames := 1, cells := 0, slots := 0, locals := 12 } : Room).cells ({ frames := 1, cells := 0, slots := 0, locals := 12 } : Room).slots) := by
  refine MetFree.of_bodySF (plainFor_of_name own_pn0) hisR ?_
  intro p e s m args below meth c s₁ Bd hml0 hP hK
  obtain ⟨rfl, hZ, hh⟩ := hP
  have hx := Bd.exec
  have hlk := Bd.notSynchronized
  have hret := Bd.returns
  have hby := Bd.bytes
  have hml : c.maxLocals = 7 := hml0
  have hown : s.vm.findClass own_s1 = some m.cls := findClass_of_methodNamed Bd.named
  have hnm := (name_of_methodNamed Bd.named Bd.method).1
  have X0 : Stand p l e ({ frames := 1, cells := 0, slots := 0, locals := 12 } : Room) s m #[(.ref b5001), (.long jp1x2_6), (.long jp2x2_6), .null, (.ref w_NONE)] below meth c s₁ [] 0 0 := Stand.of_body Bd
  have e0 : s₁.heap = h0 := by rw [← hh, Bd.state]; rfl
  have N0 := Fr.nil n0
  refine own_open (Q := own_Q2_6 Z b5001 jp1x2_6 jp2x2_6 w_NONE h0 n0) (own_ef2RJJNR m b5001 jp1x2_6 jp2x2_6 w_NONE) ?_
  refine own_st (fun t k => XS.aloadN X0.here hx rfl (hb hby own_d2_0) rfl rfl k) ?_
  show own_Go _ _ _ _ s₁ (mkF m 1 #[.val (.ref b5001), .val (.long jp1x2_6), .second, .val (.long jp2x2_6), .second, .val .null, .val (.ref w_NONE)] [(.ref b5001)])
  obtain ⟨T1, X1, e1, st1⟩ := initO X0 hx hZ hown (own_w hw 15 rfl) (own_w hw 16 rfl) (own_w hw 17 rfl) e0 (g := (mkF m 1 #[.val (.ref b5001), .val (.long jp1x2_6), .second, .val (.long jp2x2_6), .second, .val .null, .val (.ref w_NONE)] [(.ref b5001)])) rfl (by rw [hml]; rfl) rfl (hb hby own_d2_1) (by decide) (W := 0) (by show 2 * 0 + _ ≤ _; exact Nat.le_of_eq rfl) (by decide)
  refine own_st st1 ?_
  refine own_st (fun t k => XS.aloadN X1.here hx rfl (hb hby own_d2_4) rfl rfl k) ?_
  show own_Go _ _ _ _ T1 (mkF m 5 #[.val (.ref b5001), .val (.long jp1x2_6), .second, .val (.long jp2x2_6), .second, .val .null, .val (.ref w_NONE)] [(.ref b5001)])
  refine own_st (fun t k => XS.lloadN X1.here hx rfl (hb hby own_d2_5) rfl k) ?_
  show own_Go _ _ _ _ T1 (mkF m 6 #[.val (.ref b5001), .val (.long jp1x2_6), .second, .val (.long jp2x2_6), .second, .val .null, .val (.ref w_NONE)] [(.long jp1x2_6), (.ref b5001)])
  obtain ⟨T2, h2, X2, e2, W2, st2⟩ := putF X1 hx hZ hown (host := "") (Or.inl (own_w hw 18 rfl)) Via.refl e1 P1 P0 (Or.inr ⟨(own_w hw 19 rfl), rfl, hnm⟩) (own_w hw 4 rfl) (ty := .long) (by decide) rfl rfl (g := (mkF m 6 #[.val (.ref b5001), .val (.long jp1x2_6), .second, .val (.long jp2x2_6), .second, .val .null, .val (.ref w_NONE)] [(.long jp1x2_6), (.ref b5001)])) rfl rfl (hb hby own_d2_6)
  refine own_st st2 ?_
  have K2 : Keep h0 h2 [b5001] := (Keep.refl h0 [b5001]).wr W2 (Or.inl (List.mem_of_getElem? (i := 0) rfl))
  have Z2 := Nat.le_trans Z0 (Keep.of_wr W2).1
  have N2 := Fr.snoc X2 N0 g_b5001
  have F2 := P1.same W2
  refine own_st (fun t k => XS.aloadN X2.here hx rfl (hb hby own_d2_9) rfl rfl k) ?_
  refine own_st (fun t k => XS.lloadN X2.here hx rfl (hb hby own_d2_10) rfl k) ?_
  show own_Go _ _ _ _ T2 (mkF m 11 #[.val (.ref b5001), .val (.long jp1x2_6), .second, .val (.long jp2x2_6), .second, .val .null, .val (.ref w_NONE)] [(.long jp2x2_6), (.ref b5001)])
  have f3 := (P0.wr W2)
  have f4 := (P3.other W2 (Or.inr (slot_ne (Or.inr (own_w hw 21 rfl)) (Or.inr (own_w hw 19 rfl)) (by decide) (t := .long) (t' := .long) (by decide) (by decide))))
  obtain ⟨T5, h5, X5, e5, W5, st5⟩ := putF X2 hx hZ hown (host := "") (Or.inl (own_w hw 20 rfl)) Via.refl e2 f4 f3 (Or.inr ⟨(own_w hw 21 rfl), rfl, hnm⟩) (own_w hw 4 rfl) (ty := .long) (by decide) rfl rfl (g := (mkF m 11 #[.val (.ref b5001), .val (.long jp1x2_6), .second, .val (.long jp2x2_6), .second, .val .null, .val (.ref w_NONE)] [(.long jp2x2_6), (.ref b5001)])) rfl rfl (hb hby own_d2_11)
  refine own_st st5 ?_
  have K5 : Keep h0 h5 [b5001] := K2.wr W5 (Or.inl (List.mem_of_getElem? (i := 0) rfl))
  have Z5 := Nat.le_trans Z2 (Keep.of_wr W5).1
  have N5 := Fr.snoc X5 N2 g_b5001
  have F5 := f4.same W5
  refine own_st (fun t k => XS.aloadN X5.here hx rfl (hb hby own_d2_14) rfl rfl k) ?_
  refine own_st (fun t k => XS.aload X5.here hx rfl (hb hby own_d2_15) rfl rfl k) ?_
  show own_Go _ _ _ _ T5 (mkF m 17 #[.val (.ref b5001), .val (.long jp1x2_6), .second, .val (.long jp2x2_6), .second, .val .null, .val (.ref w_NONE)] [.null, (.ref b5001)])
  have f6 := (f3.wr W5)
  have f7 := ((P4.other W2 (Or.inr (slot_ne (Or.inr (own_w hw 23 rfl)) (Or.inr (own_w hw 19 rfl)) (by decide) (t := (.array .byte)) (t' := .long) (by decide) (by decide)))).other W5 (Or.inr (slot_ne (Or.inr (own_w hw 23 rfl)) (Or.inr (own_w hw 21 rfl)) (by decide) (t := (.array .byte)) (t' := .long) (by decide) (by decide))))
  obtain ⟨T8, h8, X8, e8, W8, st8⟩ := putF X5 hx hZ hown (host := "") (Or.inl (own_w hw 22 rfl)) Via.refl e5 f7 f6 (Or.inr ⟨(own_w hw 23 rfl), rfl, hnm⟩) (own_w hw 4 rfl) (ty := (.array .byte)) (by decide) rfl rfl (g := (mkF m 17 #[.val (.ref b5001), .val (.long jp1x2_6), .second, .val (.long jp2x2_6), .second, .val .null, .val (.ref w_NONE)] [.null, (.ref b5001)])) rfl rfl (hb hby own_d2_17)
  refine own_st st8 ?_
  have K8 : Keep h0 h8 [b5001] := K5.wr W8 (Or.inl (List.mem_of_getElem? (i := 0) rfl))
  have Z8 := Nat.le_trans Z5 (Keep.of_wr W8).1
  have N8 := Fr.snoc X8 N5 g_b5001
  have F8 := f7.same W8
  show own_Go _ _ _ _ T8 (mkF m 20 #[.val (.ref b5001), .val (.long jp1x2_6), .second, .val (.long jp2x2_6), .second, .val .null, .val (.ref w_NONE)] [])
  refine own_st (fun t k => XS.aloadN X8.here hx rfl (hb hby own_d2_20) rfl rfl k) ?_
  refine own_st (fun t k => XS.aload X8.here hx rfl (hb hby own_d2_21) rfl rfl k) ?_
  show own_Go _ _ _ _ T8 (mkF m 23 #[.val (.ref b5001), .val (.long jp1x2_6), .second, .val (.long jp2x2_6), .second, .val .null, .val (.ref w_NONE)] [(.ref w_NONE), (.ref b5001)])
  have f9 := (f6.wr W8)
  have f10 := (((P5.other W2 (Or.inr (slot_ne (Or.inr (own_w hw 25 rfl)) (Or.inr (own_w hw 19 rfl)) (by decide) (t := (.object own_s3)) (t' := .long) (by decide) (by decide)))).other W5 (Or.inr (slot_ne (Or.inr (own_w hw 25 rfl)) (Or.inr (own_w hw 21 rfl)) (by decide) (t := (.object own_s3)) (t' := .long) (by decide) (by decide)))).other W8 (Or.inr (slot_ne (Or.inr (own_w hw 25 rfl)) (Or.inr (own_w hw 23 rfl)) (by decide) (t := (.object own_s3)) (t' := (.array .byte)) (by decide) (by decide))))
  obtain ⟨T11, h11, X11, e11, W11, st11⟩ := putF X8 hx hZ hown (host := "") (Or.inl (own_w hw 24 rfl)) Via.refl e8 f10 f9 (Or.inr ⟨(own_w hw 25 rfl), rfl, hnm⟩) (own_w hw 4 rfl) (ty := (.object own_s3)) (by decide) rfl rfl (g := (mkF m 23 #[.val (.ref b5001), .val (.long jp1x2_6), .second, .val (.long jp2x2_6), .second, .val .null, .val (.ref w_NONE)] [(.ref w_NONE), (.ref b5001)])) rfl rfl (hb hby own_d2_23)
  refine own_st st11 ?_
  have K11 : Keep h0 h11 [b5001] := K8.wr W11 (Or.inl (List.mem_of_getElem? (i := 0) rfl))
  have Z11 := Nat.le_trans Z8 (Keep.of_wr W11).1
  have N11 := Fr.snoc X11 N8 g_b5001
  have F11 := f10.same W11
  show own_Go _ _ _ _ T11 (mkF m 26 #[.val (.ref b5001), .val (.long jp1x2_6), .second, .val (.long jp2x2_6), .second, .val .null, .val (.ref w_NONE)] [])
  have f12 := (((F2.other W5 (Or.inr (slot_ne (Or.inr (own_w hw 19 rfl)) (Or.inr (own_w hw 21 rfl)) (by decide) (t := .long) (t' := .long) (by decide) (by decide)))).other W8 (Or.inr (slot_ne (Or.inr (own_w hw 19 rfl)) (Or.inr (own_w hw 23 rfl)) (by decide) (t := .long) (t' := (.array .byte)) (by decide) (by decide)))).other W11 (Or.inr (slot_ne (Or.inr (own_w hw 19 rfl)) (Or.inr (own_w hw 25 rfl)) (by decide) (t := .long) (t' := (.object own_s3)) (by decide) (by decide))))
  have f13 := ((F5.other W8 (Or.inr (slot_ne (Or.inr (own_w hw 21 rfl)) (Or.inr (own_w hw 23 rfl)) (by decide) (t := .long) (t' := (.array .byte)) (by decide) (by decide)))).other W11 (Or.inr (slot_ne (Or.inr (own_w hw 21 rfl)) (Or.inr (own_w hw 25 rfl)) (by decide) (t := .long) (t' := (.object own_s3)) (by decide) (by decide))))
  have f14 := (F8.other W11 (Or.inr (slot_ne (Or.inr (own_w hw 23 rfl)) (Or.inr (own_w hw 25 rfl)) (by decide) (t := (.array .byte)) (t' := (.object own_s3)) (by decide) (by decide))))
  exact own_retV X11 hx hlk hret (hb hby own_d2_26) (by decide) (by decide) e11 ⟨N11, K11, ⟨rfl, f12, f13, f14, F11, trivial⟩⟩
theorem own_pd0 : parseMethodDescriptor "(JJ[BLcom/example/lonborg/lonborg/Resources;)V" = some ⟨[.long, .long, (.array .byte), (.object own_s3)], none⟩ := by decide +kernel
theorem own_d1_0 : decode prog_1_method_2_code 0 = .ok (.aload_n 0, 1) := by decide +kernel
theorem own_d1_1 : decode prog_1_method_2_code 1 = .ok (.lload_n 1, 1) := by decide +kernel
theorem own_d1_2 : decode prog_1_method_2_code 2 = .ok (.lload_n 3, 1) := by decide +kernel
theorem own_d1_3 : decode prog_1_method_2_code 3 = .ok (.aconst_null, 1) := by decide +kernel
theorem own_d1_4 : decode prog_1_method_2_code 4 = .ok (.aload 5, 2) := by decide +kernel
theorem own_d1_6 : decode prog_1_method_2_code 6 = .ok (.invokespecial 24, 3) := by decide +kernel
theorem own_d1_9 : decode prog_1_method_2_code 9 = .ok (.return_, 1) := by decide +kernel
theorem own_ef1 (m : MethodId) (x0 : Addr) (x1 : Int64) (x2 : Int64) (x3 : Addr) : entryFrame m #[(.ref x0), (.long x1), (.long x2), (.ref x3)] 6 = mkF m 0 #[.val (.ref x0), .val (.long x1), .second, .val (.long x2), .second, .val (.ref x3)] [] := by first | (simp [entryFrame, mkF, argsToLocals, Value.category]; done) | rfl
def own_Q1_4 (Z : State) (b5001 : Addr) (jp1x1_4 : Int64) (jp2x1_4 : Int64) (w_NONE : Addr) (h0 : Heap) (n0 : Nat) (v : Option Value) (h : Heap) (L : List Loc) : Prop := Fr n0 L ∧ Keep h0 h [b5001] ∧ ((v = none ∧ Fld Z h b5001 own_s1 "id" "J" (.long jp1x1_4) ∧ Fld Z h b5001 own_s1 "priority" "J" (.long jp2x1_4) ∧ Fld Z h b5001 own_s1 "payload" "[B" .null ∧ Fld Z h b5001 own_s1 "needs" "Lcom/example/lonborg/lonborg/Resources;" (.ref w_NONE) ∧ True))
set_option maxRecDepth 65536 in
set_option maxHeartbeats 40000000 in
theorem own_rm1_4 (l : Launch) (Z : State) (a0 : Array Value) (hw : ∀ d ∈ tables_1, d.before a0 Z = true) (ws : List Jvm.Cond) (b5001 : Addr) (jp1x1_4 : Int64) (jp2x1_4 : Int64) (w_NONE : Addr) (h0 : Heap) (n0 : Nat) (Z0 : n0 ≤ h0.size) (P0 : Exa Z h0 b5001 own_s1) (P1 : Fld Z h0 b5001 own_s1 "id" "J" (.long (0 : Int64))) (P2 : Fld Z h0 b5001 own_s1 "priority" "J" (.long (0 : Int64))) (P3 : Fld Z h0 b5001 own_s1 "payload" "[B" .null) (P4 : Fld Z h0 b5001 own_s1 "needs" "Lcom/example/lonborg/lonborg/Resources;" .null) (g_b5001 : n0 ≤ b5001) :
    MetFree l own_y7 (head1 (Jvm.Cond.code own_y7 prog_1_method_2_code 6 none :: ws) ({ frames := 2, cells := 0, slots := 0, locals := 30 } : Room)) (fun a U => a = #[(.ref b5001), (.long jp1x1_4), (.long jp2x1_4), (.ref w_NONE)] ∧ Z.Warmed39 U.vm ∧ U.heap = h0) (fun _ _ _ _ _ => True) (fun _ U o U' => ∃ v L, o = .returned v ∧ own_Q1_4 Z b5001 jp1x1_4 jp2x1_4 w_NONE h0 n0 v U'.heap L ∧ FrameEnd U o U' L ({ frames := 2, cells := 0, slots := 0, locals := 30 } : Room).cells ({ frames := 2, cells := 0, slots := 0, locals := 30 } : Room).slots) := by
  refine MetFree.of_bodySF (plainFor_of_name own_pn0) hisR ?_
  intro p e s m args below meth c s₁ Bd hml0 hP hK
  obtain ⟨rfl, hZ, hh⟩ := hP
  have hx := Bd.exec
  have hlk := Bd.notSynchronized
  have hret := Bd.returns
  have hby := Bd.bytes
  have hml : c.maxLocals = 6 := hml0
  have hown : s.vm.findClass own_s1 = some m.cls := findClass_of_methodNamed Bd.named
  have hnm := (name_of_methodNamed Bd.named Bd.method).1
  have X0 : Stand p l e ({ frames := 2, cells := 0, slots := 0, locals := 30 } : Room) s m #[(.ref b5001), (.long jp1x1_4), (.long jp2x1_4), (.ref w_NONE)] below meth c s₁ [] 0 0 := Stand.of_body Bd
  have e0 : s₁.heap = h0 := by rw [← hh, Bd.state]; rfl
  have N0 := Fr.nil n0
  refine own_open (Q := own_Q1_4 Z b5001 jp1x1_4 jp2x1_4 w_NONE h0 n0) (own_ef1 m b5001 jp1x1_4 jp2x1_4 w_NONE) ?_
  refine own_st (fun t k => XS.aloadN X0.here hx rfl (hb hby own_d1_0) rfl rfl k) ?_
  refine own_st (fun t k => XS.lloadN X0.here hx rfl (hb hby own_d1_1) rfl k) ?_
  refine own_st (fun t k => XS.lloadN X0.here hx rfl (hb hby own_d1_2) rfl k) ?_
  show own_Go _ _ _ _ s₁ (mkF m 3 #[.val (.ref b5001), .val (.long jp1x1_4), .second, .val (.long jp2x1_4), .second, .val (.ref w_NONE)] [(.long jp2x1_4), (.long jp1x1_4), (.ref b5001)])
  refine own_st (fun t k => XS.aconstNull X0.here hx rfl (hb hby own_d1_3) k) ?_
  refine own_st (fun t k => XS.aload X0.here hx rfl (hb hby own_d1_4) rfl rfl k) ?_
  show own_Go _ _ _ _ s₁ (mkF m 6 #[.val (.ref b5001), .val (.long jp1x1_4), .second, .val (.long jp2x1_4), .second, .val (.ref w_NONE)] [(.ref w_NONE), .null, (.long jp2x1_4), (.long jp1x1_4), (.ref b5001)])
  obtain ⟨_, _, ⟨T1, L1, k1, n1⟩, -, X1, ⟨Lc1, hQ1, l1, y1, z1⟩, st1⟩ := X0.specialBack hx (y := (⟨own_s1, "<init>", "(JJ[BLcom/example/lonborg/lonborg/Resources;)V"⟩ : MethodName)) rfl hown (mvT hZ (own_w hw 12 rfl)) (mvT hZ (own_w hw 13 rfl)) (mvT hZ (own_w hw 14 rfl)) (by decide) (backOf (W := 0) (own_rm2_6 l Z a0 hw [] b5001 jp1x1_4 jp2x1_4 w_NONE h0 n0 Z0 P0 P1 g_b5001 P2 P3 P4) hZ (own_w hw 14 rfl) (own_w hw 5 rfl) (by decide) (by decide)) (g := (mkF m 6 #[.val (.ref b5001), .val (.long jp1x1_4), .second, .val (.long jp2x1_4), .second, .val (.ref w_NONE)] [(.ref w_NONE), .null, (.long jp2x1_4), (.long jp1x1_4), (.ref b5001)])) rfl (by rw [hml]; rfl) (Steps.refl _) (a := b5001) (argsL := [(.long jp1x1_4), (.long jp2x1_4), .null, (.ref w_NONE)]) (rest := []) (lenOf own_pd0 rfl) rfl (by show 2 * 0 + _ ≤ _; exact Nat.le_of_eq rfl) (hb hby own_d1_6) (fun _ _ => ⟨rfl, e0, (by decide : 0 + 0 ≤ _), (by decide : 0 + 0 ≤ _)⟩)
  dsimp only [Pt.U, Pt.locs, Pt.cells, Pt.slots] at X1 l1 y1 z1 st1 hQ1
  subst l1 y1 z1
  obtain ⟨N1q, Kq1, hL1⟩ := hQ1
  have N1 := Fr.app N0 N1q
  have K1 : Keep h0 T1.heap [b5001] := (Keep.refl h0 [b5001]).trans Kq1 (allS (Or.inl (List.mem_of_getElem? (i := 0) rfl)) all0)
  have Z1 := Nat.le_trans Z0 Kq1.1
  rcases hL1 with ⟨rfl, Fc1_0_0, Fc1_0_1, Fc1_0_2, Fc1_0_3, -⟩
  · skip
    refine own_st (fun t k => st1.trans k) ?_
    show own_Go _ _ _ _ T1 (mkF m 9 #[.val (.ref b5001), .val (.long jp1x1_4), .second, .val (.long jp2x1_4), .second, .val (.ref w_NONE)] [])
    exact own_retV X1 hx hlk hret (hb hby own_d1_9) (by decide) (by decide) rfl ⟨N1, K1, ⟨rfl, Fc1_0_0, Fc1_0_1, Fc1_0_2, Fc1_0_3, trivial⟩⟩
theorem own_pd1 : parseMethodDescriptor "(JJLcom/example/lonborg/lonborg/Resources;)V" = some ⟨[.long, .long, (.object own_s3)], none⟩ := by decide +kernel
theorem own_d6_0 : decode prog_5_method_1_code 0 = .ok (.aload_n 0, 1) := by decide +kernel
theorem own_d6_1 : decode prog_5_method_1_code 1 = .ok (.invokespecial 1, 3) := by decide +kernel
theorem own_d6_4 : decode prog_5_method_1_code 4 = .ok (.aload_n 0, 1) := by decide +kernel
theorem own_d6_5 : decode prog_5_method_1_code 5 = .ok (.getstatic 7, 3) := by decide +kernel
theorem own_d6_8 : decode prog_5_method_1_code 8 = .ok (.putfield 13, 3) := by decide +kernel
theorem own_d6_11 : decode prog_5_method_1_code 11 = .ok (.return_, 1) := by decide +kernel
theorem own_ef6 (m : MethodId) (x0 : Addr) : entryFrame m #[(.ref x0)] 1 = mkF m 0 #[.val (.ref x0)] [] := by first | (simp [entryFrame, mkF, argsToLocals, Value.category]; done) | rfl
theorem own_pn1 : plainName own_s0 = true := by first | (simp [plainName, overriddenIn]; done) | decide +kernel
def own_Q6_20 (Z : State) (b2x4_14 : Addr) (w_EMPTY : Addr) (h0 : Heap) (n0 : Nat) (v : Option Value) (h : Heap) (L : List Loc) : Prop := Fr n0 L ∧ Keep h0 h [b2x4_14] ∧ ((v = none ∧ Fld Z h b2x4_14 own_s0 "least" own_s6 (.ref w_EMPTY) ∧ Fld Z h b2x4_14 own_s5 "items" own_s8 .null ∧ Fld Z h b2x4_14 own_s0 "count" "I" (.int (0 : Int32)) ∧ Fld Z h b2x4_14 own_s0 "stale" "Z" (.int (0 : Int32)) ∧ True))
set_option maxRecDepth 65536 in
set_option maxHeartbeats 40000000 in
theorem own_rm6_20 (l : Launch) (Z : State) (a0 : Array Value) (hw : ∀ d ∈ tables_1, d.before a0 Z = true) (ws : List Jvm.Cond) (b2x4_14 : Addr) (w_EMPTY : Addr) (h0 : Heap) (n0 : Nat) (Z0 : n0 ≤ h0.size) (P0 : Sta Z h0 own_s2 "EMPTY" own_s6 (.ref w_EMPTY)) (P1 : Exa Z h0 b2x4_14 own_s5) (P2 : Fld Z h0 b2x4_14 own_s0 "least" own_s6 .null) (g_b2x4_14 : n0 ≤ b2x4_14) (P4 : Fld Z h0 b2x4_14 own_s5 "items" own_s8 .null) (P5 : Fld Z h0 b2x4_14 own_s0 "count" "I" (.int (0 : Int32))) (P6 : Fld Z h0 b2x4_14 own_s0 "stale" "Z" (.int (0 : Int32))) :
    MetFree l (⟨own_s0, "<init>", "()V"⟩ : MethodName) (head1 (Jvm.Cond.code (⟨own_s0, "<init>", "()V"⟩ : MethodName) prog_5_method_1_code 1 none :: ws) ({ frames := 1, cells := 0, slots := 0, locals := 12 } : Room)) (fun a U => a = #[(.ref b2x4_14)] ∧ Z.Warmed39 U.vm ∧ U.heap = h0) (fun _ _ _ _ _ => True) (fun _ U o U' => ∃ v L, o = .returned v ∧ own_Q6_20 Z b2x4_14 w_EMPTY h0 n0 v U'.heap L ∧ FrameEnd U o U' L ({ frames := 1, cells := 0, slots := 0, locals := 12 } : Room).cells ({ frames := 1, cells := 0, slots := 0, locals := 12 } : Room).slots) := by
  refine MetFree.of_bodySF (plainFor_of_name own_pn1) hisR ?_
  intro p e s m args below meth c s₁ Bd hml0 hP hK
  obtain ⟨rfl, hZ, hh⟩ := hP
  have hx := Bd.exec
  have hlk := Bd.notSynchronized
  have hret := Bd.returns
  have hby := Bd.bytes
  have hml : c.maxLocals = 1 := hml0
  have hown : s.vm.findClass own_s0 = some m.cls := findClass_of_methodNamed Bd.named
  have hnm := (name_of_methodNamed Bd.named Bd.method).1
  have X0 : Stand p l e ({ frames := 1, cells := 0, slots := 0, locals := 12 } : Room) s m #[(.ref b2x4_14)] below meth c s₁ [] 0 0 := Stand.of_body Bd
  have e0 : s₁.heap = h0 := by rw [← hh, Bd.state]; rfl
  have N0 := Fr.nil n0
  refine own_open (Q := own_Q6_20 Z b2x4_14 w_EMPTY h0 n0) (own_ef6 m b2x4_14) ?_
  refine own_st (fun t k => XS.aloadN X0.here hx rfl (hb hby own_d6_0) rfl rfl k) ?_
  show own_Go _ _ _ _ s₁ (mkF m 1 #[.val (.ref b2x4_14)] [(.ref b2x4_14)])
  obtain ⟨T1, X1, e1, st1⟩ := initO X0 hx hZ hown (own_w hw 44 rfl) (own_w hw 16 rfl) (own_w hw 17 rfl) e0 (g := (mkF m 1 #[.val (.ref b2x4_14)] [(.ref b2x4_14)])) rfl (by rw [hml]; rfl) rfl (hb hby own_d6_1) (by decide) (W := 0) (by show 2 * 0 + _ ≤ _; exact Nat.le_of_eq rfl) (by decide)
  refine own_st st1 ?_
  refine own_st (fun t k => XS.aloadN X1.here hx rfl (hb hby own_d6_4) rfl rfl k) ?_
  show own_Go _ _ _ _ T1 (mkF m 5 #[.val (.ref b2x4_14)] [(.ref b2x4_14)])
  obtain ⟨T2, X2, e2, st2⟩ := getS2 X1 hx hZ hown (host := "") (Or.inl (own_w hw 45 rfl)) Via.refl e1 P0 (g := (mkF m 5 #[.val (.ref b2x4_14)] [(.ref b2x4_14)])) rfl (hb hby own_d6_5)
  refine own_st st2 ?_
  show own_Go _ _ _ _ T2 (mkF m 8 #[.val (.ref b2x4_14)] [(.ref w_EMPTY), (.ref b2x4_14)])
  obtain ⟨T3, h3, X3, e3, W3, st3⟩ := putF X2 hx hZ hown (host := "") (Or.inl (own_w hw 48 rfl)) Via.refl e2 P2 P1 (Or.inl (own_w hw 49 rfl)) (own_w hw 34 rfl) (ty := (.object own_s2)) (by decide) rfl rfl (g := (mkF m 8 #[.val (.ref b2x4_14)] [(.ref w_EMPTY), (.ref b2x4_14)])) rfl rfl (hb hby own_d6_8)
  refine own_st st3 ?_
  have K3 : Keep h0 h3 [b2x4_14] := (Keep.refl h0 [b2x4_14]).wr W3 (Or.inl (List.mem_of_getElem? (i := 0) rfl))
  have Z3 := Nat.le_trans Z0 (Keep.of_wr W3).1
  have N3 := Fr.snoc X3 N0 g_b2x4_14
  have F3 := P2.same W3
  show own_Go _ _ _ _ T3 (mkF m 11 #[.val (.ref b2x4_14)] [])
  have f4 := (P4.other W3 (Or.inr (slot_ne (Or.inr (own_w hw 53 rfl)) (Or.inl (own_w hw 49 rfl)) (by decide) (t := (.array (.object own_s1))) (t' := (.object own_s2)) (by decide) (by decide))))
  have f5 := (P5.other W3 (Or.inr (slot_ne (Or.inl (own_w hw 79 rfl)) (Or.inl (own_w hw 49 rfl)) (by decide) (t := .int) (t' := (.object own_s2)) (by decide) (by decide))))
  have f6 := (P6.other W3 (Or.inr (slot_ne (Or.inl (own_w hw 93 rfl)) (Or.inl (own_w hw 49 rfl)) (by decide) (t := .boolean) (t' := (.object own_s2)) (by decide) (by decide))))
  exact own_retV X3 hx hlk hret (hb hby own_d6_11) (by decide) (by decide) e3 ⟨N3, K3, ⟨rfl, F3, f4, f5, f6, trivial⟩⟩
theorem own_pd2 : parseMethodDescriptor "()V" = some ⟨[], none⟩ := by decide +kernel
theorem own_d5_0 : decode prog_4_method_1_code 0 = .ok (.aload_n 0, 1) := by decide +kernel
theorem own_d5_1 : decode prog_4_method_1_code 1 = .ok (.invokespecial 3, 3) := by decide +kernel
theorem own_d5_4 : decode prog_4_method_1_code 4 = .ok (.aload_n 0, 1) := by decide +kernel
theorem own_d5_5 : decode prog_4_method_1_code 5 = .ok (.bipush 64, 2) := by decide +kernel
theorem own_d5_7 : decode prog_4_method_1_code 7 = .ok (.anewarray 9, 3) := by decide +kernel
theorem own_d5_10 : decode prog_4_method_1_code 10 = .ok (.putfield 11, 3) := by decide +kernel
theorem own_d5_13 : decode prog_4_method_1_code 13 = .ok (.return_, 1) := by decide +kernel
theorem own_ef5 (m : MethodId) (x0 : Addr) : entryFrame m #[(.ref x0)] 1 = mkF m 0 #[.val (.ref x0)] [] := by first | (simp [entryFrame, mkF, argsToLocals, Value.category]; done) | rfl
theorem own_pn2 : plainName own_s5 = true := by first | (simp [plainName, overriddenIn]; done) | decide +kernel
def own_Q5_18 (Z : State) (b2x4_14 : Addr) (w_EMPTY : Addr) (h0 : Heap) (n0 : Nat) (v : Option Value) (h : Heap) (L : List Loc) : Prop := Fr n0 L ∧ Keep h0 h [b2x4_14] ∧ ((∃ b2x5_18 : Addr, ∃ k2x5_18 : ClassId, v = none ∧ h0.size ≤ b2x5_18 ∧ Fld Z h b2x4_14 own_s0 "least" own_s6 (.ref w_EMPTY) ∧ Fld Z h b2x4_14 own_s5 "items" own_s8 (.ref b2x5_18) ∧ Fld Z h b2x4_14 own_s0 "count" "I" (.int (0 : Int32)) ∧ Fld Z h b2x4_14 own_s0 "stale" "Z" (.int (0 : Int32)) ∧ Arv Z h b2x5_18 k2x5_18 (.object own_s1) (64 : Int32) [] .null ∧ Ovr Z k2x5_18 own_s1 ∧ Exa Z h b2x5_18 own_s8 ∧ True))
set_option maxRecDepth 65536 in
set_option maxHeartbeats 40000000 in
theorem own_rm5_18 (l : Launch) (Z : State) (a0 : Array Value) (hw : ∀ d ∈ tables_1, d.before a0 Z = true) (ws : List Jvm.Cond) (b2x4_14 : Addr) (w_EMPTY : Addr) (h0 : Heap) (n0 : Nat) (Z0 : n0 ≤ h0.size) (P0 : Sta Z h0 own_s2 "EMPTY" own_s6 (.ref w_EMPTY)) (P1 : Exa Z h0 b2x4_14 own_s5) (P2 : Fld Z h0 b2x4_14 own_s0 "least" own_s6 .null) (P3 : Fld Z h0 b2x4_14 own_s5 "items" own_s8 .null) (P4 : Fld Z h0 b2x4_14 own_s0 "count" "I" (.int (0 : Int32))) (P5 : Fld Z h0 b2x4_14 own_s0 "stale" "Z" (.int (0 : Int32))) (g_b2x4_14 : n0 ≤ b2x4_14) :
    MetFree l (⟨own_s5, "<init>", "()V"⟩ : MethodName) (head1 (Jvm.Cond.code (⟨own_s5, "<init>", "()V"⟩ : MethodName) prog_4_method_1_code 1 none :: ws) ({ frames := 2, cells := 1, slots := 64, locals := 24 } : Room)) (fun a U => a = #[(.ref b2x4_14)] ∧ Z.Warmed39 U.vm ∧ U.heap = h0) (fun _ _ _ _ _ => True) (fun _ U o U' => ∃ v L, o = .returned v ∧ own_Q5_18 Z b2x4_14 w_EMPTY h0 n0 v U'.heap L ∧ FrameEnd U o U' L ({ frames := 2, cells := 1, slots := 64, locals := 24 } : Room).cells ({ frames := 2, cells := 1, slots := 64, locals := 24 } : Room).slots) := by
  refine MetFree.of_bodySF (plainFor_of_name own_pn2) hisR ?_
  intro p e s m args below meth c s₁ Bd hml0 hP hK
  obtain ⟨rfl, hZ, hh⟩ := hP
  have hx := Bd.exec
  have hlk := Bd.notSynchronized
  have hret := Bd.returns
  have hby := Bd.bytes
  have hml : c.maxLocals = 1 := hml0
  have hown : s.vm.findClass own_s5 = some m.cls := findClass_of_methodNamed Bd.named
  have hnm := (name_of_methodNamed Bd.named Bd.method).1
  have X0 : Stand p l e ({ frames := 2, cells := 1, slots := 64, locals := 24 } : Room) s m #[(.ref b2x4_14)] below meth c s₁ [] 0 0 := Stand.of_body Bd
  have e0 : s₁.heap = h0 := by rw [← hh, Bd.state]; rfl
  have N0 := Fr.nil n0
  refine own_open (Q := own_Q5_18 Z b2x4_14 w_EMPTY h0 n0) (own_ef5 m b2x4_14) ?_
  refine own_st (fun t k => XS.aloadN X0.here hx rfl (hb hby own_d5_0) rfl rfl k) ?_
  show own_Go _ _ _ _ s₁ (mkF m 1 #[.val (.ref b2x4_14)] [(.ref b2x4_14)])
  obtain ⟨_, _, ⟨T1, L1, k1, n1⟩, -, X1, ⟨Lc1, hQ1, l1, y1, z1⟩, st1⟩ := X0.specialBackNest hx (y := (⟨own_s0, "<init>", "()V"⟩ : MethodName)) rfl hown (own_mvLN hZ (own_w hw 39 rfl)) (mvT hZ (own_w hw 40 rfl)) (mvT hZ (own_w hw 43 rfl)) (by decide) (backOf (W := 0) (own_rm6_20 l Z a0 hw [] b2x4_14 w_EMPTY h0 n0 Z0 P0 P1 P2 g_b2x4_14 P3 P4 P5) hZ (own_w hw 43 rfl) (own_w hw 42 rfl) (by decide) (by decide)) (g := (mkF m 1 #[.val (.ref b2x4_14)] [(.ref b2x4_14)])) rfl (by rw [hml]; rfl) (Steps.refl _) (a := b2x4_14) (argsL := []) (rest := []) (lenOf own_pd2 rfl) rfl (by show 2 * 0 + _ ≤ _; exact Nat.le_of_eq rfl) (hb hby own_d5_1) (fun _ _ => ⟨rfl, e0, (by decide : 0 + 0 ≤ _), (by decide : 0 + 0 ≤ _)⟩)
  dsimp only [Pt.U, Pt.locs, Pt.cells, Pt.slots] at X1 l1 y1 z1 st1 hQ1
  subst l1 y1 z1
  obtain ⟨N1q, Kq1, hL1⟩ := hQ1
  have N1 := Fr.app N0 N1q
  have K1 : Keep h0 T1.heap [b2x4_14] := (Keep.refl h0 [b2x4_14]).trans Kq1 (allS (Or.inl (List.mem_of_getElem? (i := 0) rfl)) all0)
  have Z1 := Nat.le_trans Z0 Kq1.1
  rcases hL1 with ⟨rfl, Fc1_0_0, Fc1_0_1, Fc1_0_2, Fc1_0_3, -⟩
  · skip
    refine own_st (fun t k => st1.trans k) ?_
    refine own_st (fun t k => XS.aloadN X1.here hx rfl (hb hby own_d5_4) rfl rfl k) ?_
    show own_Go _ _ _ _ T1 (mkF m 5 #[.val (.ref b2x4_14)] [(.ref b2x4_14)])
    refine own_st (fun t k => XS.bipush X1.here hx rfl (hb hby own_d5_5) k) ?_
    show own_Go _ _ _ _ T1 (mkF m 7 #[.val (.ref b2x4_14)] [(.int (64 : Int32)), (.ref b2x4_14)])
    obtain ⟨T2, h2, k2x5_18, X2, e2, E2, A2, Ex2, O2, st2⟩ := newRE X1 hx hZ hown (own_w hw 50 rfl) (own_w hw 51 rfl) rfl (g := (mkF m 7 #[.val (.ref b2x4_14)] [(.int (64 : Int32)), (.ref b2x4_14)])) rfl (hb hby own_d5_7) rfl (by decide) (cap := 64) (by decide) (by decide) (by decide) (by decide) (ad := own_s8) (by decide +kernel)
    obtain ⟨b2x5_18, g2⟩ : ∃ z, z = T1.heap.size := ⟨_, rfl⟩
    rw [← g2] at A2 Ex2 st2
    have g_b2x5_18 : n0 ≤ b2x5_18 := Nat.le_trans Z1 (Nat.le_of_eq g2.symm)
    have sz_b2x5_18 : h0.size ≤ b2x5_18 := Nat.le_trans K1.1 (Nat.le_of_eq g2.symm)
    refine own_st st2 ?_
    have K2 : Keep h0 h2 [b2x4_14] := K1.ext E2
    have Z2 := Nat.le_trans Z1 E2.1
    have V2 : Arv Z h2 b2x5_18 k2x5_18 (.object own_s1) (64 : Int32) [] .null := Arv.new A2 (by decide)
    show own_Go _ _ _ _ T2 (mkF m 10 #[.val (.ref b2x4_14)] [(.ref b2x5_18), (.ref b2x4_14)])
    have f3 := (P1.keep K2)
    have f4 := (Fc1_0_1.ext E2)
    obtain ⟨T5, h5, X5, e5, W5, st5⟩ := putF X2 hx hZ hown (host := "") (Or.inl (own_w hw 52 rfl)) Via.refl e2 f4 f3 (Or.inr ⟨(own_w hw 53 rfl), rfl, hnm⟩) (own_w hw 34 rfl) (ty := (.array (.object own_s1))) (by decide) rfl rfl (g := (mkF m 10 #[.val (.ref b2x4_14)] [(.ref b2x5_18), (.ref b2x4_14)])) rfl rfl (hb hby own_d5_10)
    refine own_st st5 ?_
    have K5 : Keep h0 h5 [b2x4_14] := K2.wr W5 (Or.inl (List.mem_of_getElem? (i := 0) rfl))
    have Z5 := Nat.le_trans Z2 (Keep.of_wr W5).1
    have N5 := Fr.snoc X5 N1 g_b2x4_14
    have F5 := f4.same W5
    show own_Go _ _ _ _ T5 (mkF m 13 #[.val (.ref b2x4_14)] [])
    have f6 := ((Fc1_0_0.ext E2).other W5 (Or.inr (slot_ne (Or.inl (own_w hw 49 rfl)) (Or.inr (own_w hw 53 rfl)) (by decide) (t := (.object own_s2)) (t' := (.array (.object own_s1))) (by decide) (by decide))))
    have f7 := ((Fc1_0_2.ext E2).other W5 (Or.inr (slot_ne (Or.inl (own_w hw 79 rfl)) (Or.inr (own_w hw 53 rfl)) (by decide) (t := .int) (t' := (.array (.object own_s1))) (by decide) (by decide))))
    have f8 := ((Fc1_0_3.ext E2).other W5 (Or.inr (slot_ne (Or.inl (own_w hw 93 rfl)) (Or.inr (own_w hw 53 rfl)) (by decide) (t := .boolean) (t' := (.array (.object own_s1))) (by decide) (by decide))))
    have ne9 : b2x4_14 ≠ b2x5_18 := Nat.ne_of_lt (Nat.lt_of_lt_of_le P1.lt sz_b2x5_18)
    have f10 := (V2.other W5 (Ne.symm ne9))
    have f11 := (Ex2.wr W5)
    exact own_retV X5 hx hlk hret (hb hby own_d5_13) (by decide) (by decide) e5 ⟨N5, K5, ⟨b2x5_18, _, rfl, sz_b2x5_18, f6, F5, f7, f8, f10, O2, f11, trivial⟩⟩
theorem own_d4_0 : decode prog_2_method_1_code 0 = .ok (.aload_n 0, 1) := by decide +kernel
theorem own_d4_1 : decode prog_2_method_1_code 1 = .ok (.invokespecial 1, 3) := by decide +kernel
theorem own_d4_4 : decode prog_2_method_1_code 4 = .ok (.aload_n 0, 1) := by decide +kernel
theorem own_d4_5 : decode prog_2_method_1_code 5 = .ok (.new 7, 3) := by decide +kernel
theorem own_d4_8 : decode prog_2_method_1_code 8 = .ok (.dup, 1) := by decide +kernel
theorem own_d4_9 : decode prog_2_method_1_code 9 = .ok (.invokespecial 9, 3) := by decide +kernel
theorem own_d4_12 : decode prog_2_method_1_code 12 = .ok (.putfield 10, 3) := by decide +kernel
theorem own_d4_15 : decode prog_2_method_1_code 15 = .ok (.return_, 1) := by decide +kernel
theorem own_ef4 (m : MethodId) (x0 : Addr) : entryFrame m #[(.ref x0)] 1 = mkF m 0 #[.val (.ref x0)] [] := by first | (simp [entryFrame, mkF, argsToLocals, Value.category]; done) | rfl
theorem own_pn3 : plainName own_s4 = true := by first | (simp [plainName, overriddenIn]; done) | decide +kernel
def own_Q4_14 (Z : State) (b5013 : Addr) (w_EMPTY : Addr) (h0 : Heap) (n0 : Nat) (v : Option Value) (h : Heap) (L : List Loc) : Prop := Fr n0 L ∧ Keep h0 h [b5013] ∧ ((∃ b2x4_14 : Addr, ∃ b2x5_18c4 : Addr, ∃ k2x5_18c4 : ClassId, v = none ∧ h0.size ≤ b2x4_14 ∧ h0.size ≤ b2x5_18c4 ∧ Fld Z h b5013 own_s4 "root" "Lcom/example/lonborg/lonborg/ItemTree$Node;" (.ref b2x4_14) ∧ Fld Z h b5013 own_s4 "size" "J" (.long (0 : Int64)) ∧ Exa Z h b2x4_14 own_s5 ∧ Fld Z h b2x4_14 own_s0 "least" own_s6 (.ref w_EMPTY) ∧ Fld Z h b2x4_14 own_s5 "items" own_s8 (.ref b2x5_18c4) ∧ Fld Z h b2x4_14 own_s0 "count" "I" (.int (0 : Int32)) ∧ Fld Z h b2x4_14 own_s0 "stale" "Z" (.int (0 : Int32)) ∧ Arv Z h b2x5_18c4 k2x5_18c4 (.object own_s1) (64 : Int32) [] .null ∧ Ovr Z k2x5_18c4 own_s1 ∧ Exa Z h b2x5_18c4 own_s8 ∧ True))
set_option maxRecDepth 65536 in
set_option maxHeartbeats 40000000 in
theorem own_rm4_14 (l : Launch) (Z : State) (a0 : Array Value) (hw : ∀ d ∈ tables_1, d.before a0 Z = true) (ws : List Jvm.Cond) (b5013 : Addr) (w_EMPTY : Addr) (h0 : Heap) (n0 : Nat) (Z0 : n0 ≤ h0.size) (P0 : Sta Z h0 own_s2 "EMPTY" own_s6 (.ref w_EMPTY)) (P1 : Exa Z h0 b5013 own_s4) (P2 : Fld Z h0 b5013 own_s4 "root" "Lcom/example/lonborg/lonborg/ItemTree$Node;" .null) (g_b5013 : n0 ≤ b5013) (P4 : Fld Z h0 b5013 own_s4 "size" "J" (.long (0 : Int64))) :
    MetFree l (⟨own_s4, "<init>", "()V"⟩ : MethodName) (head1 (Jvm.Cond.code (⟨own_s4, "<init>", "()V"⟩ : MethodName) prog_2_method_1_code 1 none :: ws) ({ frames := 3, cells := 2, slots := 68, locals := 38 } : Room)) (fun a U => a = #[(.ref b5013)] ∧ Z.Warmed39 U.vm ∧ U.heap = h0) (fun _ _ _ _ _ => True) (fun _ U o U' => ∃ v L, o = .returned v ∧ own_Q4_14 Z b5013 w_EMPTY h0 n0 v U'.heap L ∧ FrameEnd U o U' L ({ frames := 3, cells := 2, slots := 68, locals := 38 } : Room).cells ({ frames := 3, cells := 2, slots := 68, locals := 38 } : Room).slots) := by
  refine MetFree.of_bodySF (plainFor_of_name own_pn3) hisR ?_
  intro p e s m args below meth c s₁ Bd hml0 hP hK
  obtain ⟨rfl, hZ, hh⟩ := hP
  have hx := Bd.exec
  have hlk := Bd.notSynchronized
  have hret := Bd.returns
  have hby := Bd.bytes
  have hml : c.maxLocals = 1 := hml0
  have hown : s.vm.findClass own_s4 = some m.cls := findClass_of_methodNamed Bd.named
  have hnm := (name_of_methodNamed Bd.named Bd.method).1
  have X0 : Stand p l e ({ frames := 3, cells := 2, slots := 68, locals := 38 } : Room) s m #[(.ref b5013)] below meth c s₁ [] 0 0 := Stand.of_body Bd
  have e0 : s₁.heap = h0 := by rw [← hh, Bd.state]; rfl
  have N0 := Fr.nil n0
  refine own_open (Q := own_Q4_14 Z b5013 w_EMPTY h0 n0) (own_ef4 m b5013) ?_
  refine own_st (fun t k => XS.aloadN X0.here hx rfl (hb hby own_d4_0) rfl rfl k) ?_
  show own_Go _ _ _ _ s₁ (mkF m 1 #[.val (.ref b5013)] [(.ref b5013)])
  obtain ⟨T1, X1, e1, st1⟩ := initO X0 hx hZ hown (own_w hw 32 rfl) (own_w hw 16 rfl) (own_w hw 17 rfl) e0 (g := (mkF m 1 #[.val (.ref b5013)] [(.ref b5013)])) rfl (by rw [hml]; rfl) rfl (hb hby own_d4_1) (by decide) (W := 0) (by show 2 * 0 + _ ≤ _; exact Nat.le_of_eq rfl) (by decide)
  refine own_st st1 ?_
  refine own_st (fun t k => XS.aloadN X1.here hx rfl (hb hby own_d4_4) rfl rfl k) ?_
  show own_Go _ _ _ _ T1 (mkF m 5 #[.val (.ref b5013)] [(.ref b5013)])
  obtain ⟨T2, h2, X2, e2, E2, A2, D2, -, st2⟩ := newO X1 hx hZ hown (own_w hw 33 rfl) (own_w hw 34 rfl) (own_w hw 35 rfl) e1 (g := (mkF m 5 #[.val (.ref b5013)] [(.ref b5013)])) rfl (hb hby own_d4_5) (by decide) (by decide)
  obtain ⟨b2x4_14, g2⟩ : ∃ z, z = h0.size := ⟨_, rfl⟩
  rw [← g2] at A2 D2 st2
  have g_b2x4_14 : n0 ≤ b2x4_14 := Nat.le_trans Z0 (Nat.le_of_eq g2.symm)
  have sz_b2x4_14 : h0.size ≤ b2x4_14 := Nat.le_trans (Keep.refl h0 [b5013]).1 (Nat.le_of_eq g2.symm)
  refine own_st st2 ?_
  have K2 : Keep h0 h2 [b5013] := (Keep.refl h0 [b5013]).ext E2
  have Z2 := Nat.le_trans Z0 E2.1
  have F2_49 : Fld Z h2 b2x4_14 own_s0 "least" own_s6 .null := D2 (Or.inl (own_w hw 49 rfl)) (ty := (.object own_s2)) (by decide)
  have F2_53 : Fld Z h2 b2x4_14 own_s5 "items" own_s8 .null := D2 (Or.inr (own_w hw 53 rfl)) (ty := (.array (.object own_s1))) (by decide)
  have F2_79 : Fld Z h2 b2x4_14 own_s0 "count" "I" (.int (0 : Int32)) := D2 (Or.inl (own_w hw 79 rfl)) (ty := .int) (by decide)
  have F2_93 : Fld Z h2 b2x4_14 own_s0 "stale" "Z" (.int (0 : Int32)) := D2 (Or.inl (own_w hw 93 rfl)) (ty := .boolean) (by decide)
  refine own_st (fun t k => XS.dup X2.here hx rfl (hb hby own_d4_8) rfl rfl k) ?_
  show own_Go _ _ _ _ T2 (mkF m 9 #[.val (.ref b5013)] [(.ref b2x4_14), (.ref b2x4_14), (.ref b5013)])
  have f3 := (P0.ext E2)
  obtain ⟨_, _, ⟨T4, L4, k4, n4⟩, -, X4, ⟨Lc4, hQ4, l4, y4, z4⟩, st4⟩ := own_specialRef X2 hx hZ (y := (⟨own_s5, "<init>", "()V"⟩ : MethodName)) rfl hown (own_w hw 36 rfl) (own_w hw 37 rfl) (own_w hw 38 rfl) (by decide) (backOf (W := 2) (own_rm5_18 l Z a0 hw [] b2x4_14 w_EMPTY h2 n0 Z2 f3 A2 F2_49 F2_53 F2_79 F2_93 g_b2x4_14) hZ (own_w hw 38 rfl) (own_w hw 35 rfl) (by decide) (by decide)) (g := (mkF m 9 #[.val (.ref b5013)] [(.ref b2x4_14), (.ref b2x4_14), (.ref b5013)])) rfl (by rw [hml]; rfl) (Steps.refl _) (a := b2x4_14) (argsL := []) (rest := [(.ref b2x4_14), (.ref b5013)]) (lenOf own_pd2 rfl) rfl (by show 2 * 0 + _ ≤ _; exact Nat.le_of_eq rfl) (hb hby own_d4_9) (fun _ _ => ⟨rfl, e2, (by decide : 1 + 1 ≤ _), (by decide : 4 + 64 ≤ _)⟩)
  dsimp only [Pt.U, Pt.locs, Pt.cells, Pt.slots] at X4 l4 y4 z4 st4 hQ4
  subst l4 y4 z4
  obtain ⟨N4q, Kq4, hL4⟩ := hQ4
  have N4 := Fr.app N0 N4q
  have K4 : Keep h0 T4.heap [b5013] := K2.trans Kq4 (allS (Or.inr sz_b2x4_14) all0)
  have Z4 := Nat.le_trans Z2 Kq4.1
  rcases hL4 with ⟨b2x5_18c4, k2x5_18c4, rfl, sq_b2x5_18c4, Fc4_0_0, Fc4_0_1, Fc4_0_2, Fc4_0_3, Fc4_0_4, OFc4_0_4, Fc4_0_5, -⟩
  · skip
    have g_b2x5_18c4 : n0 ≤ b2x5_18c4 := Nat.le_trans Z2 sq_b2x5_18c4
    have sz_b2x5_18c4 : h0.size ≤ b2x5_18c4 := Nat.le_trans K2.1 sq_b2x5_18c4
    refine own_st (fun t k => st4.trans k) ?_
    show own_Go _ _ _ _ T4 (mkF m 12 #[.val (.ref b5013)] [(.ref b2x4_14), (.ref b5013)])
    have f5 := (P1.keep K4)
    have ne6 : b5013 ≠ b2x4_14 := Nat.ne_of_lt (Nat.lt_of_lt_of_le P1.lt sz_b2x4_14)
    have f7 := ((P2.ext E2).keep Kq4 (ninS ne6 nin0))
    obtain ⟨T8, h8, X8, e8, W8, st8⟩ := putF X4 hx hZ hown (host := "") (Or.inl (own_w hw 54 rfl)) Via.refl rfl f7 f5 (Or.inl (own_w hw 55 rfl)) (own_w hw 27 rfl) (ty := (.object own_s0)) (by decide) rfl rfl (g := (mkF m 12 #[.val (.ref b5013)] [(.ref b2x4_14), (.ref b5013)])) rfl rfl (hb hby own_d4_12)
    refine own_st st8 ?_
    have K8 : Keep h0 h8 [b5013] := K4.wr W8 (Or.inl (List.mem_of_getElem? (i := 0) rfl))
    have Z8 := Nat.le_trans Z4 (Keep.of_wr W8).1
    have N8 := Fr.snoc X8 N4 g_b5013
    have F8 := f7.same W8
    show own_Go _ _ _ _ T8 (mkF m 15 #[.val (.ref b5013)] [])
    have f9 := (((P4.ext E2).keep Kq4 (ninS ne6 nin0)).other W8 (Or.inr (slot_ne (Or.inl (own_w hw 62 rfl)) (Or.inl (own_w hw 55 rfl)) (by decide) (t := .long) (t' := (.object own_s0)) (by decide) (by decide))))
    have f10 := ((A2.keep Kq4).wr W8)
    have f11 := (Fc4_0_0.other W8 (Or.inl (Ne.symm ne6)))
    have f12 := (Fc4_0_1.other W8 (Or.inl (Ne.symm ne6)))
    have f13 := (Fc4_0_2.other W8 (Or.inl (Ne.symm ne6)))
    have f14 := (Fc4_0_3.other W8 (Or.inl (Ne.symm ne6)))
    have ne15 : b5013 ≠ b2x5_18c4 := Nat.ne_of_lt (Nat.lt_of_lt_of_le P1.lt sz_b2x5_18c4)
    have f16 := (Fc4_0_4.other W8 (Ne.symm ne15))
    have f17 := (Fc4_0_5.wr W8)
    exact own_retV X8 hx hlk hret (hb hby own_d4_15) (by decide) (by decide) e8 ⟨N8, K8, ⟨b2x4_14, b2x5_18c4, _, rfl, sz_b2x4_14, sz_b2x5_18c4, F8, f9, f10, f11, f12, f13, f14, f16, OFc4_0_4, f17, trivial⟩⟩
theorem own_d7_0 : decode prog_2_method_4_code 0 = .ok (.aload_n 0, 1) := by decide +kernel
theorem own_d7_1 : decode prog_2_method_4_code 1 = .ok (.getfield 27, 3) := by decide +kernel
theorem own_d7_4 : decode prog_2_method_4_code 4 = .ok (.lconst 0, 1) := by decide +kernel
theorem own_d7_5 : decode prog_2_method_4_code 5 = .ok (.lcmp, 1) := by decide +kernel
theorem own_d7_6 : decode prog_2_method_4_code 6 = .ok (.ifCond .ne 7, 3) := by decide +kernel
theorem own_d7_9 : decode prog_2_method_4_code 9 = .ok (.aconst_null, 1) := by decide +kernel
theorem own_d7_10 : decode prog_2_method_4_code 10 = .ok (.goto 10, 3) := by decide +kernel
theorem own_d7_20 : decode prog_2_method_4_code 20 = .ok (.areturn, 1) := by decide +kernel
theorem own_ef7 (m : MethodId) (x0 : Addr) : entryFrame m #[(.ref x0)] 1 = mkF m 0 #[.val (.ref x0)] [] := by first | (simp [entryFrame, mkF, argsToLocals, Value.category]; done) | rfl
def own_Q7_21 (Z : State) (b5013 : Addr) (h0 : Heap) (n0 : Nat) (v : Option Value) (h : Heap) (L : List Loc) : Prop := Fr n0 L ∧ Keep h0 h [] ∧ ((v = some .null ∧ True))
set_option maxRecDepth 65536 in
set_option maxHeartbeats 40000000 in
theorem own_rm7_21 (l : Launch) (Z : State) (a0 : Array Value) (hw : ∀ d ∈ tables_1, d.before a0 Z = true) (ws : List Jvm.Cond) (b5013 : Addr) (h0 : Heap) (n0 : Nat) (Z0 : n0 ≤ h0.size) (P0 : Fld Z h0 b5013 own_s4 "size" "J" (.long (0 : Int64))) :
    MetFree l own_y1 (head1 (Jvm.Cond.code own_y1 prog_2_method_4_code 1 (some (.object own_s1)) :: ws) ({ frames := 0, cells := 0, slots := 0, locals := 0 } : Room)) (fun a U => a = #[(.ref b5013)] ∧ Z.Warmed39 U.vm ∧ U.heap = h0) (fun _ _ _ _ _ => True) (fun _ U o U' => ∃ v L, o = .returned v ∧ own_Q7_21 Z b5013 h0 n0 v U'.heap L ∧ FrameEnd U o U' L ({ frames := 0, cells := 0, slots := 0, locals := 0 } : Room).cells ({ frames := 0, cells := 0, slots := 0, locals := 0 } : Room).slots) := by
  refine MetFree.of_bodySF (plainFor_of_name own_pn3) hisR ?_
  intro p e s m args below meth c s₁ Bd hml0 hP hK
  obtain ⟨rfl, hZ, hh⟩ := hP
  have hx := Bd.exec
  have hlk := Bd.notSynchronized
  have hret := Bd.returns
  have hby := Bd.bytes
  have hml : c.maxLocals = 1 := hml0
  have hown : s.vm.findClass own_s4 = some m.cls := findClass_of_methodNamed Bd.named
  have hnm := (name_of_methodNamed Bd.named Bd.method).1
  have X0 : Stand p l e ({ frames := 0, cells := 0, slots := 0, locals := 0 } : Room) s m #[(.ref b5013)] below meth c s₁ [] 0 0 := Stand.of_body Bd
  have e0 : s₁.heap = h0 := by rw [← hh, Bd.state]; rfl
  have N0 := Fr.nil n0
  refine own_open (Q := own_Q7_21 Z b5013 h0 n0) (own_ef7 m b5013) ?_
  refine own_st (fun t k => XS.aloadN X0.here hx rfl (hb hby own_d7_0) rfl rfl k) ?_
  show own_Go _ _ _ _ s₁ (mkF m 1 #[.val (.ref b5013)] [(.ref b5013)])
  obtain ⟨T1, X1, e1, st1⟩ := getF X0 hx hZ hown (host := "") (Or.inl (own_w hw 61 rfl)) Via.refl e0 P0 (g := (mkF m 1 #[.val (.ref b5013)] [(.ref b5013)])) rfl rfl (hb hby own_d7_1)
  refine own_st st1 ?_
  refine own_st (fun t k => XS.lconst X1.here hx rfl (hb hby own_d7_4) k) ?_
  show own_Go _ _ _ _ T1 (mkF m 5 #[.val (.ref b5013)] [(.long (0 : Int64)), (.long (0 : Int64))])
  refine own_st (fun t k => XS.lcmp X1.here hx rfl (hb hby own_d7_5) rfl k) ?_
  show own_Go _ _ _ _ T1 (mkF m 6 #[.val (.ref b5013)] [(.int (lcmpW (0 : Int64) (0 : Int64)))])
  refine own_st (fun t k => XS.ifNo X1.here hx rfl (hb hby own_d7_6) rfl ((if0 _ _).trans (teq (by decide : (lcmpW (0 : Int64) (0 : Int64)) = (0 : Int32))).2) k) ?_
  refine own_st (fun t k => XS.aconstNull X1.here hx rfl (hb hby own_d7_9) k) ?_
  refine own_st (fun t k => XS.goto X1.here hx rfl (pc0 := 10) (pc' := 20) rfl (hb hby own_d7_10) (by decide) (by decide) k) ?_
  show own_Go _ _ _ _ T1 (mkF m 20 #[.val (.ref b5013)] [.null])
  exact own_retA X1 hx hlk hret rfl rfl (hb hby own_d7_20) (by decide) (by decide) e1 ⟨N0, (Keep.refl h0 []), ⟨rfl, trivial⟩⟩
theorem own_pd3 : parseMethodDescriptor own_s7 = some ⟨[], some (.object own_s1)⟩ := by decide +kernel
theorem own_d10_0 : decode prog_4_method_9_code 0 = .ok (.iconst 0, 1) := by decide +kernel
theorem own_d10_1 : decode prog_4_method_9_code 1 = .ok (.istore_n 2, 1) := by decide +kernel
theorem own_d10_2 : decode prog_4_method_9_code 2 = .ok (.aload_n 0, 1) := by decide +kernel
theorem own_d10_3 : decode prog_4_method_9_code 3 = .ok (.getfield 21, 3) := by decide +kernel
theorem own_d10_6 : decode prog_4_method_9_code 6 = .ok (.istore_n 3, 1) := by decide +kernel
theorem own_d10_7 : decode prog_4_method_9_code 7 = .ok (.iload_n 2, 1) := by decide +kernel
theorem own_d10_8 : decode prog_4_method_9_code 8 = .ok (.iload_n 3, 1) := by decide +kernel
theorem own_d10_9 : decode prog_4_method_9_code 9 = .ok (.if_icmp .ge 45, 3) := by decide +kernel
theorem own_d10_54 : decode prog_4_method_9_code 54 = .ok (.iload_n 2, 1) := by decide +kernel
theorem own_d10_55 : decode prog_4_method_9_code 55 = .ok (.ireturn, 1) := by decide +kernel
theorem own_ef10 (m : MethodId) (x0 : Addr) (x1 : Addr) : entryFrame m #[(.ref x0), (.ref x1)] 5 = mkF m 0 #[.val (.ref x0), .val (.ref x1), .unset, .unset, .unset] [] := by first | (simp [entryFrame, mkF, argsToLocals, Value.category]; done) | rfl
def own_Q10_61 (Z : State) (b2x4_14c5015 : Addr) (b5001 : Addr) (h0 : Heap) (n0 : Nat) (v : Option Value) (h : Heap) (L : List Loc) : Prop := Fr n0 L ∧ Keep h0 h [] ∧ ((v = some (.int (0 : Int32)) ∧ True))
set_option maxRecDepth 65536 in
set_option maxHeartbeats 40000000 in
theorem own_rm10_61 (l : Launch) (Z : State) (a0 : Array Value) (hw : ∀ d ∈ tables_1, d.before a0 Z = true) (ws : List Jvm.Cond) (b2x4_14c5015 : Addr) (b5001 : Addr) (h0 : Heap) (n0 : Nat) (Z0 : n0 ≤ h0.size) (P0 : Fld Z h0 b2x4_14c5015 own_s0 "count" "I" (.int (0 : Int32))) :
    MetFree l own_y4 (head1 (Jvm.Cond.code own_y4 prog_4_method_9_code 5 (some .int) :: ws) ({ frames := 0, cells := 0, slots := 0, locals := 0 } : Room)) (fun a U => a = #[(.ref b2x4_14c5015), (.ref b5001)] ∧ Z.Warmed39 U.vm ∧ U.heap = h0) (fun _ _ _ _ _ => True) (fun _ U o U' => ∃ v L, o = .returned v ∧ own_Q10_61 Z b2x4_14c5015 b5001 h0 n0 v U'.heap L ∧ FrameEnd U o U' L ({ frames := 0, cells := 0, slots := 0, locals := 0 } : Room).cells ({ frames := 0, cells := 0, slots := 0, locals := 0 } : Room).slots) := by
  refine MetFree.of_bodySF (plainFor_of_name own_pn2) hisR ?_
  intro p e s m args below meth c s₁ Bd hml0 hP hK
  obtain ⟨rfl, hZ, hh⟩ := hP
  have hx := Bd.exec
  have hlk := Bd.notSynchronized
  have hret := Bd.returns
  have hby := Bd.bytes
  have hml : c.maxLocals = 5 := hml0
  have hown : s.vm.findClass own_s5 = some m.cls := findClass_of_methodNamed Bd.named
  have hnm := (name_of_methodNamed Bd.named Bd.method).1
  have X0 : Stand p l e ({ frames := 0, cells := 0, slots := 0, locals := 0 } : Room) s m #[(.ref b2x4_14c5015), (.ref b5001)] below meth c s₁ [] 0 0 := Stand.of_body Bd
  have e0 : s₁.heap = h0 := by rw [← hh, Bd.state]; rfl
  have N0 := Fr.nil n0
  refine own_open (Q := own_Q10_61 Z b2x4_14c5015 b5001 h0 n0) (own_ef10 m b2x4_14c5015 b5001) ?_
  refine own_st (fun t k => XS.iconst X0.here hx rfl (hb hby own_d10_0) k) ?_
  refine own_st (fun t k => XS.istoreN X0.here hx rfl (hb hby own_d10_1) rfl (l' := #[.val (.ref b2x4_14c5015), .val (.ref b5001), .val (.int (0 : Int32)), .unset, .unset]) rfl k) ?_
  refine own_st (fun t k => XS.aloadN X0.here hx rfl (hb hby own_d10_2) rfl rfl k) ?_
  show own_Go _ _ _ _ s₁ (mkF m 3 #[.val (.ref b2x4_14c5015), .val (.ref b5001), .val (.int (0 : Int32)), .unset, .unset] [(.ref b2x4_14c5015)])
  obtain ⟨T1, X1, e1, st1⟩ := getF X0 hx hZ hown (host := "") (Or.inl (own_w hw 77 rfl)) (Via.of (own_w hw 78 rfl)) e0 P0 (g := (mkF m 3 #[.val (.ref b2x4_14c5015), .val (.ref b5001), .val (.int (0 : Int32)), .unset, .unset] [(.ref b2x4_14c5015)])) rfl rfl (hb hby own_d10_3)
  refine own_st st1 ?_
  refine own_st (fun t k => XS.istoreN X1.here hx rfl (hb hby own_d10_6) rfl (l' := #[.val (.ref b2x4_14c5015), .val (.ref b5001), .val (.int (0 : Int32)), .val (.int (0 : Int32)), .unset]) rfl k) ?_
  refine own_st (fun t k => XS.iloadN X1.here hx rfl (hb hby own_d10_7) rfl k) ?_
  refine own_st (fun t k => XS.iloadN X1.here hx rfl (hb hby own_d10_8) rfl k) ?_
  show own_Go _ _ _ _ T1 (mkF m 9 #[.val (.ref b2x4_14c5015), .val (.ref b5001), .val (.int (0 : Int32)), .val (.int (0 : Int32)), .unset] [(.int (0 : Int32)), (.int (0 : Int32))])
  refine own_st (fun t k => XS.icmpYes X1.here hx rfl (pc0 := 9) (pc' := 54) rfl (hb hby own_d10_9) rfl (flt (by decide : ¬ ((0 : Int32) < (0 : Int32)))).2.1 (by decide) (by decide) k) ?_
  refine own_st (fun t k => XS.iloadN X1.here hx rfl (hb hby own_d10_54) rfl k) ?_
  show own_Go _ _ _ _ T1 (mkF m 55 #[.val (.ref b2x4_14c5015), .val (.ref b5001), .val (.int (0 : Int32)), .val (.int (0 : Int32)), .unset] [(.int (0 : Int32))])
  exact own_retI X1 hx hlk hret (hb hby own_d10_55) (by decide) (by decide) e1 ⟨N0, (Keep.refl h0 []), ⟨rfl, trivial⟩⟩
theorem own_pd4 : parseMethodDescriptor "(Lcom/example/lonborg/lonborg/Item;)I" = some ⟨[(.object own_s1)], some .int⟩ := by decide +kernel
theorem own_d11_0 : decode prog_1_method_7_code 0 = .ok (.aload_n 0, 1) := by decide +kernel
theorem own_d11_1 : decode prog_1_method_7_code 1 = .ok (.getfield 20, 3) := by decide +kernel
theorem own_d11_4 : decode prog_1_method_7_code 4 = .ok (.areturn, 1) := by decide +kernel
theorem own_ef11 (m : MethodId) (x0 : Addr) : entryFrame m #[(.ref x0)] 1 = mkF m 0 #[.val (.ref x0)] [] := by first | (simp [entryFrame, mkF, argsToLocals, Value.category]; done) | rfl
def own_Q11 (rp0 : Addr) (u_needs_rp0 : Addr) (h0 : Heap) (n0 : Nat) (v : Option Value) (h : Heap) (L : List Loc) : Prop := Fr n0 L ∧ h = h0 ∧ ((v = some (.ref u_needs_rp0) ∧ True))
set_option maxRecDepth 65536 in
set_option maxHeartbeats 40000000 in
theorem own_rm11 (l : Launch) (Z : State) (a0 : Array Value) (hw : ∀ d ∈ tables_1, d.before a0 Z = true) (ws : List Jvm.Cond) (rp0 : Addr) (u_needs_rp0 : Addr) (h0 : Heap) (n0 : Nat) (Z0 : n0 ≤ h0.size) (F_needs_rp0 : Fld Z h0 rp0 own_s1 "needs" "Lcom/example/lonborg/lonborg/Resources;" (.ref u_needs_rp0)) :
    MetFree l own_y0 (head1 (Jvm.Cond.code own_y0 prog_1_method_7_code 1 (some (.object own_s3)) :: ws) ({ frames := 0, cells := 0, slots := 0, locals := 0 } : Room)) (fun a U => a = #[(.ref rp0)] ∧ Z.Warmed39 U.vm ∧ U.heap = h0) (fun _ _ _ _ _ => True) (fun _ U o U' => ∃ v L, o = .returned v ∧ own_Q11 rp0 u_needs_rp0 h0 n0 v U'.heap L ∧ FrameEnd U o U' L ({ frames := 0, cells := 0, slots := 0, locals := 0 } : Room).cells ({ frames := 0, cells := 0, slots := 0, locals := 0 } : Room).slots) := by
  refine MetFree.of_bodySF (plainFor_of_name own_pn0) hisR ?_
  intro p e s m args below meth c s₁ Bd hml0 hP hK
  obtain ⟨rfl, hZ, hh⟩ := hP
  have hx := Bd.exec
  have hlk := Bd.notSynchronized
  have hret := Bd.returns
  have hby := Bd.bytes
  have hml : c.maxLocals = 1 := hml0
  have hown : s.vm.findClass own_s1 = some m.cls := findClass_of_methodNamed Bd.named
  have hnm := (name_of_methodNamed Bd.named Bd.method).1
  have X0 : Stand p l e ({ frames := 0, cells := 0, slots := 0, locals := 0 } : Room) s m #[(.ref rp0)] below meth c s₁ [] 0 0 := Stand.of_body Bd
  have e0 : s₁.heap = h0 := by rw [← hh, Bd.state]; rfl
  have N0 := Fr.nil n0
  refine own_open (Q := own_Q11 rp0 u_needs_rp0 h0 n0) (own_ef11 m rp0) ?_
  refine own_st (fun t k => XS.aloadN X0.here hx rfl (hb hby own_d11_0) rfl rfl k) ?_
  show own_Go _ _ _ _ s₁ (mkF m 1 #[.val (.ref rp0)] [(.ref rp0)])
  obtain ⟨T1, X1, e1, st1⟩ := getF X0 hx hZ hown (host := "") (Or.inl (own_w hw 24 rfl)) Via.refl e0 F_needs_rp0 (g := (mkF m 1 #[.val (.ref rp0)] [(.ref rp0)])) rfl rfl (hb hby own_d11_1)
  refine own_st st1 ?_
  show own_Go _ _ _ _ T1 (mkF m 4 #[.val (.ref rp0)] [(.ref u_needs_rp0)])
  exact own_retA X1 hx hlk hret rfl rfl (hb hby own_d11_4) (by decide) (by decide) e1 ⟨N0, rfl, ⟨rfl, trivial⟩⟩
theorem own_pd5 : parseMethodDescriptor "()Lcom/example/lonborg/lonborg/Resources;" = some ⟨[], some (.object own_s3)⟩ := by decide +kernel
theorem own_d15_0 : decode jdk_29_method_65_code 0 = .ok (.iload_n 0, 1) := by decide +kernel
theorem own_d15_1 : decode jdk_29_method_65_code 1 = .ok (.iload_n 1, 1) := by decide +kernel
theorem own_d15_2 : decode jdk_29_method_65_code 2 = .ok (.if_icmp .lt 7, 3) := by decide +kernel
theorem own_d15_5 : decode jdk_29_method_65_code 5 = .ok (.iload_n 0, 1) := by decide +kernel
theorem own_d15_6 : decode jdk_29_method_65_code 6 = .ok (.goto 4, 3) := by decide +kernel
theorem own_d15_9 : decode jdk_29_method_65_code 9 = .ok (.iload_n 1, 1) := by decide +kernel
theorem own_d15_10 : decode jdk_29_method_65_code 10 = .ok (.ireturn, 1) := by decide +kernel
theorem own_ef15 (m : MethodId) (x0 : Int32) (x1 : Int32) : entryFrame m #[(.int x0), (.int x1)] 2 = mkF m 0 #[.val (.int x0), .val (.int x1)] [] := by first | (simp [entryFrame, mkF, argsToLocals, Value.category]; done) | rfl
def own_Q15 (ip0 : Int32) (ip1 : Int32) (h0 : Heap) (n0 : Nat) (v : Option Value) (h : Heap) (L : List Loc) : Prop := Fr n0 L ∧ h = h0 ∧ ((v = some (.int ip1) ∧ (ip0 < ip1) ∧ True) ∨ (v = some (.int ip0) ∧ (¬ (ip0 < ip1)) ∧ True))
set_option maxRecDepth 65536 in
set_option maxHeartbeats 40000000 in
theorem own_rm15 (l : Launch) (Z : State) (a0 : Array Value) (hw : ∀ d ∈ tables_1, d.before a0 Z = true) (ws : List Jvm.Cond) (ip0 : Int32) (ip1 : Int32) (h0 : Heap) (n0 : Nat) (Z0 : n0 ≤ h0.size) :
    MetFree l (⟨"java/lang/Math", "max", "(II)I"⟩ : MethodName) (head1 (Jvm.Cond.code (⟨"java/lang/Math", "max", "(II)I"⟩ : MethodName) jdk_29_method_65_code 2 (some .int) :: ws) ({ frames := 0, cells := 0, slots := 0, locals := 0 } : Room)) (fun a U => a = #[(.int ip0), (.int ip1)] ∧ Z.Warmed39 U.vm ∧ U.heap = h0) (fun _ _ _ _ _ => True) (fun _ U o U' => ∃ v L, o = .returned v ∧ own_Q15 ip0 ip1 h0 n0 v U'.heap L ∧ FrameEnd U o U' L ({ frames := 0, cells := 0, slots := 0, locals := 0 } : Room).cells ({ frames := 0, cells := 0, slots := 0, locals := 0 } : Room).slots) := by
  refine MetFree.of_bodySF (Jvm.Free.JP.mathPlain rfl (by decide +kernel)) hisR ?_
  intro p e s m args below meth c s₁ Bd hml0 hP hK
  obtain ⟨rfl, hZ, hh⟩ := hP
  have hx := Bd.exec
  have hlk := Bd.notSynchronized
  have hret := Bd.returns
  have hby := Bd.bytes
  have hml : c.maxLocals = 2 := hml0
  have hown : s.vm.findClass "java/lang/Math" = some m.cls := findClass_of_methodNamed Bd.named
  have hnm := (name_of_methodNamed Bd.named Bd.method).1
  have X0 : Stand p l e ({ frames := 0, cells := 0, slots := 0, locals := 0 } : Room) s m #[(.int ip0), (.int ip1)] below meth c s₁ [] 0 0 := Stand.of_body Bd
  have e0 : s₁.heap = h0 := by rw [← hh, Bd.state]; rfl
  have N0 := Fr.nil n0
  refine own_open (Q := own_Q15 ip0 ip1 h0 n0) (own_ef15 m ip0 ip1) ?_
  refine own_st (fun t k => XS.iloadN X0.here hx rfl (hb hby own_d15_0) rfl k) ?_
  refine own_st (fun t k => XS.iloadN X0.here hx rfl (hb hby own_d15_1) rfl k) ?_
  show own_Go _ _ _ _ s₁ (mkF m 2 #[.val (.int ip0), .val (.int ip1)] [(.int ip1), (.int ip0)])
  by_cases hc1 : ip0 < ip1
  · skip
    refine own_st (fun t k => XS.icmpYes X0.here hx rfl (pc0 := 2) (pc' := 9) rfl (hb hby own_d15_2) rfl (tlt hc1).1 (by decide) (by decide) k) ?_
    show own_Go _ _ _ _ s₁ (mkF m 9 #[.val (.int ip0), .val (.int ip1)] [])
    refine own_st (fun t k => XS.iloadN X0.here hx rfl (hb hby own_d15_9) rfl k) ?_
    show own_Go _ _ _ _ s₁ (mkF m 10 #[.val (.int ip0), .val (.int ip1)] [(.int ip1)])
    exact own_retI X0 hx hlk hret (hb hby own_d15_10) (by decide) (by decide) e0 ⟨N0, rfl, (Or.inl ⟨rfl, hc1, trivial⟩)⟩
  · skip
    refine own_st (fun t k => XS.icmpNo X0.here hx rfl (hb hby own_d15_2) rfl (flt hc1).1 k) ?_
    refine own_st (fun t k => XS.iloadN X0.here hx rfl (hb hby own_d15_5) rfl k) ?_
    refine own_st (fun t k => XS.goto X0.here hx rfl (pc0 := 6) (pc' := 10) rfl (hb hby own_d15_6) (by decide) (by decide) k) ?_
    show own_Go _ _ _ _ s₁ (mkF m 10 #[.val (.int ip0), .val (.int ip1)] [(.int ip0)])
    exact own_retI X0 hx hlk hret (hb hby own_d15_10) (by decide) (by decide) e0 ⟨N0, rfl, (Or.inr ⟨rfl, hc1, trivial⟩)⟩
theorem own_pd6 : parseMethodDescriptor "(II)I" = some ⟨[.int, .int], some .int⟩ := by decide +kernel
theorem own_d16_0 : decode prog_8_method_1_code 0 = .ok (.aload_n 0, 1) := by decide +kernel
theorem own_d16_1 : decode prog_8_method_1_code 1 = .ok (.invokespecial 1, 3) := by decide +kernel
theorem own_d16_4 : decode prog_8_method_1_code 4 = .ok (.aload_n 0, 1) := by decide +kernel
theorem own_d16_5 : decode prog_8_method_1_code 5 = .ok (.aload_n 1, 1) := by decide +kernel
theorem own_d16_6 : decode prog_8_method_1_code 6 = .ok (.putfield 7, 3) := by decide +kernel
theorem own_d16_9 : decode prog_8_method_1_code 9 = .ok (.return_, 1) := by decide +kernel
theorem own_ef16 (m : MethodId) (x0 : Addr) (x1 : Addr) : entryFrame m #[(.ref x0), (.ref x1)] 2 = mkF m 0 #[.val (.ref x0), .val (.ref x1)] [] := by first | (simp [entryFrame, mkF, argsToLocals, Value.category]; done) | rfl
theorem own_pn4 : plainName own_s2 = true := by first | (simp [plainName, overriddenIn]; done) | decide +kernel
def own_Q16_71 (Z : State) (b6x14_69 : Addr) (b3x14_69 : Addr) (h0 : Heap) (n0 : Nat) (v : Option Value) (h : Heap) (L : List Loc) : Prop := Fr n0 L ∧ Keep h0 h [b6x14_69] ∧ ((v = none ∧ Fld Z h b6x14_69 own_s2 "parts" own_s9 (.ref b3x14_69) ∧ True))
set_option maxRecDepth 65536 in
set_option maxHeartbeats 40000000 in
theorem own_rm16_71 (l : Launch) (Z : State) (a0 : Array Value) (hw : ∀ d ∈ tables_1, d.before a0 Z = true) (ws : List Jvm.Cond) (b6x14_69 : Addr) (b3x14_69 : Addr) (h0 : Heap) (n0 : Nat) (Z0 : n0 ≤ h0.size) (P0 : Exa Z h0 b6x14_69 own_s2) (P1 : Fld Z h0 b6x14_69 own_s2 "parts" own_s9 .null) (g_b6x14_69 : n0 ≤ b6x14_69) :
    MetFree l (⟨own_s2, "<init>", "([Lcom/example/lonborg/lonborg/Resources;)V"⟩ : MethodName) (head1 (Jvm.Cond.code (⟨own_s2, "<init>", "([Lcom/example/lonborg/lonborg/Resources;)V"⟩ : MethodName) prog_8_method_1_code 2 none :: ws) ({ frames := 1, cells := 0, slots := 0, locals := 12 } : Room)) (fun a U => a = #[(.ref b6x14_69), (.ref b3x14_69)] ∧ Z.Warmed39 U.vm ∧ U.heap = h0) (fun _ _ _ _ _ => True) (fun _ U o U' => ∃ v L, o = .returned v ∧ own_Q16_71 Z b6x14_69 b3x14_69 h0 n0 v U'.heap L ∧ FrameEnd U o U' L ({ frames := 1, cells := 0, slots := 0, locals := 12 } : Room).cells ({ frames := 1, cells := 0, slots := 0, locals := 12 } : Room).slots) := by
  refine MetFree.of_bodySF (plainFor_of_name own_pn4) hisR ?_
  intro p e s m args below meth c s₁ Bd hml0 hP hK
  obtain ⟨rfl, hZ, hh⟩ := hP
  have hx := Bd.exec
  have hlk := Bd.notSynchronized
  have hret := Bd.returns
  have hby := Bd.bytes
  have hml : c.maxLocals = 2 := hml0
  have hown : s.vm.findClass own_s2 = some m.cls := findClass_of_methodNamed Bd.named
  have hnm := (name_of_methodNamed Bd.named Bd.method).1
  have X0 : Stand p l e ({ frames := 1, cells := 0, slots := 0, locals := 12 } : Room) s m #[(.ref b6x14_69), (.ref b3x14_69)] below meth c s₁ [] 0 0 := Stand.of_body Bd
  have e0 : s₁.heap = h0 := by rw [← hh, Bd.state]; rfl
  have N0 := Fr.nil n0
  refine own_open (Q := own_Q16_71 Z b6x14_69 b3x14_69 h0 n0) (own_ef16 m b6x14_69 b3x14_69) ?_
  refine own_st (fun t k => XS.aloadN X0.here hx rfl (hb hby own_d16_0) rfl rfl k) ?_
  show own_Go _ _ _ _ s₁ (mkF m 1 #[.val (.ref b6x14_69), .val (.ref b3x14_69)] [(.ref b6x14_69)])
  obtain ⟨T1, X1, e1, st1⟩ := initO X0 hx hZ hown (own_w hw 117 rfl) (own_w hw 16 rfl) (own_w hw 17 rfl) e0 (g := (mkF m 1 #[.val (.ref b6x14_69), .val (.ref b3x14_69)] [(.ref b6x14_69)])) rfl (by rw [hml]; rfl) rfl (hb hby own_d16_1) (by decide) (W := 0) (by show 2 * 0 + _ ≤ _; exact Nat.le_of_eq rfl) (by decide)
  refine own_st st1 ?_
  refine own_st (fun t k => XS.aloadN X1.here hx rfl (hb hby own_d16_4) rfl rfl k) ?_
  show own_Go _ _ _ _ T1 (mkF m 5 #[.val (.ref b6x14_69), .val (.ref b3x14_69)] [(.ref b6x14_69)])
  refine own_st (fun t k => XS.aloadN X1.here hx rfl (hb hby own_d16_5) rfl rfl k) ?_
  show own_Go _ _ _ _ T1 (mkF m 6 #[.val (.ref b6x14_69), .val (.ref b3x14_69)] [(.ref b3x14_69), (.ref b6x14_69)])
  obtain ⟨T2, h2, X2, e2, W2, st2⟩ := putF X1 hx hZ hown (host := "") (Or.inl (own_w hw 99 rfl)) Via.refl e1 P1 P0 (Or.inr ⟨(own_w hw 100 rfl), rfl, hnm⟩) (own_w hw 113 rfl) (ty := (.array (.object own_s3))) (by decide) rfl rfl (g := (mkF m 6 #[.val (.ref b6x14_69), .val (.ref b3x14_69)] [(.ref b3x14_69), (.ref b6x14_69)])) rfl rfl (hb hby own_d16_6)
  refine own_st st2 ?_
  have K2 : Keep h0 h2 [b6x14_69] := (Keep.refl h0 [b6x14_69]).wr W2 (Or.inl (List.mem_of_getElem? (i := 0) rfl))
  have Z2 := Nat.le_trans Z0 (Keep.of_wr W2).1
  have N2 := Fr.snoc X2 N0 g_b6x14_69
  have F2 := P1.same W2
  show own_Go _ _ _ _ T2 (mkF m 9 #[.val (.ref b6x14_69), .val (.ref b3x14_69)] [])
  exact own_retV X2 hx hlk hret (hb hby own_d16_9) (by decide) (by decide) e2 ⟨N2, K2, ⟨rfl, F2, trivial⟩⟩
theorem own_pd7 : parseMethodDescriptor "([Lcom/example/lonborg/lonborg/Resources;)V" = some ⟨[(.array (.object own_s3))], none⟩ := by decide +kernel
theorem own_d14_0 : decode prog_8_method_5_code 0 = .ok (.aload_n 0, 1) := by decide +kernel
theorem own_d14_1 : decode prog_8_method_5_code 1 = .ok (.getfield 7, 3) := by decide +kernel
theorem own_d14_4 : decode prog_8_method_5_code 4 = .ok (.arraylength, 1) := by decide +kernel
theorem own_d14_5 : decode prog_8_method_5_code 5 = .ok (.iload_n 1, 1) := by decide +kernel
theorem own_d14_6 : decode prog_8_method_5_code 6 = .ok (.iconst 1, 1) := by decide +kernel
theorem own_d14_7 : decode prog_8_method_5_code 7 = .ok (.iadd, 1) := by decide +kernel
theorem own_d14_8 : decode prog_8_method_5_code 8 = .ok (.invokestatic 34, 3) := by decide +kernel
theorem own_d14_11 : decode prog_8_method_5_code 11 = .ok (.anewarray 14, 3) := by decide +kernel
theorem own_d14_14 : decode prog_8_method_5_code 14 = .ok (.astore_n 3, 1) := by decide +kernel
theorem own_d14_15 : decode prog_8_method_5_code 15 = .ok (.iconst 0, 1) := by decide +kernel
theorem own_d14_16 : decode prog_8_method_5_code 16 = .ok (.istore 4, 2) := by decide +kernel
theorem own_d14_18 : decode prog_8_method_5_code 18 = .ok (.iconst 0, 1) := by decide +kernel
theorem own_d14_19 : decode prog_8_method_5_code 19 = .ok (.istore 5, 2) := by decide +kernel
theorem own_d14_21 : decode prog_8_method_5_code 21 = .ok (.iload 5, 2) := by decide +kernel
theorem own_d14_23 : decode prog_8_method_5_code 23 = .ok (.aload_n 3, 1) := by decide +kernel
theorem own_d14_24 : decode prog_8_method_5_code 24 = .ok (.arraylength, 1) := by decide +kernel
theorem own_d14_25 : decode prog_8_method_5_code 25 = .ok (.if_icmp .ge 54, 3) := by decide +kernel
theorem own_d14_28 : decode prog_8_method_5_code 28 = .ok (.iload 5, 2) := by decide +kernel
theorem own_d14_30 : decode prog_8_method_5_code 30 = .ok (.iload_n 1, 1) := by decide +kernel
theorem own_d14_31 : decode prog_8_method_5_code 31 = .ok (.if_icmp .ne 14, 3) := by decide +kernel
theorem own_d14_34 : decode prog_8_method_5_code 34 = .ok (.aload_n 3, 1) := by decide +kernel
theorem own_d14_35 : decode prog_8_method_5_code 35 = .ok (.iload 4, 2) := by decide +kernel
theorem own_d14_37 : decode prog_8_method_5_code 37 = .ok (.aload_n 2, 1) := by decide +kernel
theorem own_d14_38 : decode prog_8_method_5_code 38 = .ok (.aastore, 1) := by decide +kernel
theorem own_d14_39 : decode prog_8_method_5_code 39 = .ok (.iinc 4 1, 3) := by decide +kernel
theorem own_d14_42 : decode prog_8_method_5_code 42 = .ok (.goto 31, 3) := by decide +kernel
theorem own_d14_73 : decode prog_8_method_5_code 73 = .ok (.iinc 5 1, 3) := by decide +kernel
theorem own_d14_76 : decode prog_8_method_5_code 76 = .ok (.goto (-55), 3) := by decide +kernel
theorem own_d14_79 : decode prog_8_method_5_code 79 = .ok (.new 8, 3) := by decide +kernel
theorem own_d14_82 : decode prog_8_method_5_code 82 = .ok (.dup, 1) := by decide +kernel
theorem own_d14_83 : decode prog_8_method_5_code 83 = .ok (.iload 4, 2) := by decide +kernel
theorem own_d14_85 : decode prog_8_method_5_code 85 = .ok (.aload_n 3, 1) := by decide +kernel
theorem own_d14_86 : decode prog_8_method_5_code 86 = .ok (.arraylength, 1) := by decide +kernel
theorem own_d14_87 : decode prog_8_method_5_code 87 = .ok (.if_icmp .ne 7, 3) := by decide +kernel
theorem own_d14_90 : decode prog_8_method_5_code 90 = .ok (.aload_n 3, 1) := by decide +kernel
theorem own_d14_91 : decode prog_8_method_5_code 91 = .ok (.goto 12, 3) := by decide +kernel
theorem own_d14_103 : decode prog_8_method_5_code 103 = .ok (.invokespecial 47, 3) := by decide +kernel
theorem own_d14_106 : decode prog_8_method_5_code 106 = .ok (.areturn, 1) := by decide +kernel
theorem own_ef14 (m : MethodId) (x0 : Addr) (x1 : Int32) (x2 : Addr) : entryFrame m #[(.ref x0), (.int x1), (.ref x2)] 6 = mkF m 0 #[.val (.ref x0), .val (.int x1), .val (.ref x2), .unset, .unset, .unset] [] := by first | (simp [entryFrame, mkF, argsToLocals, Value.category]; done) | rfl
def own_Q14_69 (Z : State) (w_EMPTY : Addr) (w_NONE : Addr) (w_EMPTY_parts : Addr) (k_w_EMPTY_parts : ClassId) (h0 : Heap) (n0 : Nat) (v : Option Value) (h : Heap) (L : List Loc) : Prop := Fr n0 L ∧ Keep h0 h [] ∧ ((∃ b6x14_69 : Addr, ∃ b3x14_69 : Addr, ∃ k3x14_69 : ClassId, v = some (.ref b6x14_69) ∧ ((0 : Int32) < ((0 : Int32) + (1 : Int32))) ∧ h0.size ≤ b6x14_69 ∧ h0.size ≤ b3x14_69 ∧ Exa Z h b6x14_69 own_s2 ∧ Fld Z h b6x14_69 own_s2 "parts" own_s9 (.ref b3x14_69) ∧ Arv Z h b3x14_69 k3x14_69 (.object own_s3) ((0 : Int32) + (1 : Int32)) [(.ref w_NONE)] .null ∧ Ovr Z k3x14_69 own_s3 ∧ Exa Z h b3x14_69 own_s9 ∧ True))
set_option maxRecDepth 65536 in
set_option maxHeartbeats 40000000 in
theorem own_rm14_69 (l : Launch) (Z : State) (a0 : Array Value) (hw : ∀ d ∈ tables_1, d.before a0 Z = true) (ws : List Jvm.Cond) (w_EMPTY : Addr) (w_NONE : Addr) (w_EMPTY_parts : Addr) (k_w_EMPTY_parts : ClassId) (h0 : Heap) (n0 : Nat) (Z0 : n0 ≤ h0.size) (P0 : Fld Z h0 w_EMPTY own_s2 "parts" own_s9 (.ref w_EMPTY_parts)) (P1 : Arv Z h0 w_EMPTY_parts k_w_EMPTY_parts (.object own_s3) (0 : Int32) [] .null) (P2 : Exa Z h0 w_NONE own_s3) :
    MetFree l (⟨own_s2, "replaced", "(ILcom/example/lonborg/lonborg/Resources;)Lcom/example/lonborg/lonborg/LeastNeeds;"⟩ : MethodName) (head1 (Jvm.Cond.code (⟨own_s2, "replaced", "(ILcom/example/lonborg/lonborg/Resources;)Lcom/example/lonborg/lonborg/LeastNeeds;"⟩ : MethodName) prog_8_method_5_code 6 (some (.object own_s2)) :: ws) ({ frames := 2, cells := 2, slots := 2, locals := 26 } : Room)) (fun a U => a = #[(.ref w_EMPTY), (.int (0 : Int32)), (.ref w_NONE)] ∧ Z.Warmed39 U.vm ∧ U.heap = h0) (fun _ _ _ _ _ => True) (fun _ U o U' => ∃ v L, o = .returned v ∧ own_Q14_69 Z w_EMPTY w_NONE w_EMPTY_parts k_w_EMPTY_parts h0 n0 v U'.heap L ∧ FrameEnd U o U' L ({ frames := 2, cells := 2, slots := 2, locals := 26 } : Room).cells ({ frames := 2, cells := 2, slots := 2, locals := 26 } : Room).slots) := by
  refine MetFree.of_bodySF (plainFor_of_name own_pn4) hisR ?_
  intro p e s m args below meth c s₁ Bd hml0 hP hK
  obtain ⟨rfl, hZ, hh⟩ := hP
  have hx := Bd.exec
  have hlk := Bd.notSynchronized
  have hret := Bd.returns
  have hby := Bd.bytes
  have hml : c.maxLocals = 6 := hml0
  have hown : s.vm.findClass own_s2 = some m.cls := findClass_of_methodNamed Bd.named
  have hnm := (name_of_methodNamed Bd.named Bd.method).1
  have X0 : Stand p l e ({ frames := 2, cells := 2, slots := 2, locals := 26 } : Room) s m #[(.ref w_EMPTY), (.int (0 : Int32)), (.ref w_NONE)] below meth c s₁ [] 0 0 := Stand.of_body Bd
  have e0 : s₁.heap = h0 := by rw [← hh, Bd.state]; rfl
  have N0 := Fr.nil n0
  refine own_open (Q := own_Q14_69 Z w_EMPTY w_NONE w_EMPTY_parts k_w_EMPTY_parts h0 n0) (own_ef14 m w_EMPTY (0 : Int32) w_NONE) ?_
  refine own_st (fun t k => XS.aloadN X0.here hx rfl (hb hby own_d14_0) rfl rfl k) ?_
  show own_Go _ _ _ _ s₁ (mkF m 1 #[.val (.ref w_EMPTY), .val (.int (0 : Int32)), .val (.ref w_NONE), .unset, .unset, .unset] [(.ref w_EMPTY)])
  obtain ⟨T1, X1, e1, st1⟩ := getF X0 hx hZ hown (host := "") (Or.inl (own_w hw 99 rfl)) Via.refl e0 P0 (g := (mkF m 1 #[.val (.ref w_EMPTY), .val (.int (0 : Int32)), .val (.ref w_NONE), .unset, .unset, .unset] [(.ref w_EMPTY)])) rfl rfl (hb hby own_d14_1)
  refine own_st st1 ?_
  show own_Go _ _ _ _ T1 (mkF m 4 #[.val (.ref w_EMPTY), .val (.int (0 : Int32)), .val (.ref w_NONE), .unset, .unset, .unset] [(.ref w_EMPTY_parts)])
  refine own_st (own_alen X1 hx hZ e1 P1 (g := (mkF m 4 #[.val (.ref w_EMPTY), .val (.int (0 : Int32)), .val (.ref w_NONE), .unset, .unset, .unset] [(.ref w_EMPTY_parts)])) rfl rfl (hb hby own_d14_4)) ?_
  show own_Go _ _ _ _ T1 (mkF m 5 #[.val (.ref w_EMPTY), .val (.int (0 : Int32)), .val (.ref w_NONE), .unset, .unset, .unset] [(.int (0 : Int32))])
  refine own_st (fun t k => XS.iloadN X1.here hx rfl (hb hby own_d14_5) rfl k) ?_
  refine own_st (fun t k => XS.iconst X1.here hx rfl (hb hby own_d14_6) k) ?_
  refine own_st (fun t k => XS.iadd X1.here hx rfl (hb hby own_d14_7) rfl k) ?_
  show own_Go _ _ _ _ T1 (mkF m 8 #[.val (.ref w_EMPTY), .val (.int (0 : Int32)), .val (.ref w_NONE), .unset, .unset, .unset] [(.int ((0 : Int32) + (1 : Int32))), (.int (0 : Int32))])
  obtain ⟨_, _, ⟨T2, L2, k2, n2⟩, -, X2, ⟨Lc2, hQ2, l2, y2, z2⟩, st2⟩ := Jvm.LawKit.callS X1 hx (y := (⟨"java/lang/Math", "max", "(II)I"⟩ : MethodName)) hown (mvT hZ (own_w hw 105 rfl)) (mvT hZ (own_w hw 106 rfl)) (mvT hZ (own_w hw 107 rfl)) (mvT hZ (own_w hw 108 rfl)) (by decide) (backOf (W := 0) (own_rm15 l Z a0 hw [] (0 : Int32) ((0 : Int32) + (1 : Int32)) h0 n0 Z0 ) hZ (own_w hw 108 rfl) (own_w hw 107 rfl) (by decide) (by decide)) (g := (mkF m 8 #[.val (.ref w_EMPTY), .val (.int (0 : Int32)), .val (.ref w_NONE), .unset, .unset, .unset] [(.int ((0 : Int32) + (1 : Int32))), (.int (0 : Int32))])) rfl (by rw [hml]; rfl) (argsL := [(.int (0 : Int32)), (.int ((0 : Int32) + (1 : Int32)))]) (rest := []) (lenOf own_pd6 rfl) rfl (by show 2 * 0 + _ ≤ _; exact Nat.le_of_eq rfl) (hb hby own_d14_8) (fun _ _ => ⟨rfl, e1, (by decide : 0 + 0 ≤ _), (by decide : 0 + 0 ≤ _)⟩)
  dsimp only [Pt.U, Pt.locs, Pt.cells, Pt.slots] at X2 l2 y2 z2 st2 hQ2
  subst l2 y2 z2
  obtain ⟨N2q, e2, hL2⟩ := hQ2
  have N2 := Fr.app N0 N2q
  rcases hL2 with ⟨rfl, hq2_0_0, -⟩ | ⟨rfl, hq2_1_0, -⟩
  · skip
    refine own_st st2 ?_
    show own_Go _ _ _ _ T2 (mkF m 11 #[.val (.ref w_EMPTY), .val (.int (0 : Int32)), .val (.ref w_NONE), .unset, .unset, .unset] [(.int ((0 : Int32) + (1 : Int32)))])
    obtain ⟨T3, h3, k3x14_69, X3, e3, E3, A3, Ex3, O3, st3⟩ := newRE X2 hx hZ hown (own_w hw 109 rfl) (own_w hw 110 rfl) e2 (g := (mkF m 11 #[.val (.ref w_EMPTY), .val (.int (0 : Int32)), .val (.ref w_NONE), .unset, .unset, .unset] [(.int ((0 : Int32) + (1 : Int32)))])) rfl (hb hby own_d14_11) rfl (by decide) (cap := 1) (by decide) (by decide) (by decide) (by decide) (ad := own_s9) (by decide +kernel)
    obtain ⟨b3x14_69, g3⟩ : ∃ z, z = h0.size := ⟨_, rfl⟩
    rw [← g3] at A3 Ex3 st3
    have g_b3x14_69 : n0 ≤ b3x14_69 := Nat.le_trans Z0 (Nat.le_of_eq g3.symm)
    have sz_b3x14_69 : h0.size ≤ b3x14_69 := Nat.le_trans (Keep.refl h0 []).1 (Nat.le_of_eq g3.symm)
    refine own_st st3 ?_
    have K3 : Keep h0 h3 [] := (Keep.refl h0 []).ext E3
    have Z3 := Nat.le_trans Z0 E3.1
    have V3 : Arv Z h3 b3x14_69 k3x14_69 (.object own_s3) ((0 : Int32) + (1 : Int32)) [.null] .null := (Arv.new A3 (by decide)).pad (pad_rep [] .null 1)
    refine own_st (fun t k => XS.astoreN X3.here hx rfl (hb hby own_d14_14) rfl rfl (l' := #[.val (.ref w_EMPTY), .val (.int (0 : Int32)), .val (.ref w_NONE), .val (.ref b3x14_69), .unset, .unset]) rfl k) ?_
    refine own_st (fun t k => XS.iconst X3.here hx rfl (hb hby own_d14_15) k) ?_
    refine own_st (fun t k => XS.istore X3.here hx rfl (hb hby own_d14_16) rfl (l' := #[.val (.ref w_EMPTY), .val (.int (0 : Int32)), .val (.ref w_NONE), .val (.ref b3x14_69), .val (.int (0 : Int32)), .unset]) rfl k) ?_
    show own_Go _ _ _ _ T3 (mkF m 18 #[.val (.ref w_EMPTY), .val (.int (0 : Int32)), .val (.ref w_NONE), .val (.ref b3x14_69), .val (.int (0 : Int32)), .unset] [])
    refine own_st (fun t k => XS.iconst X3.here hx rfl (hb hby own_d14_18) k) ?_
    refine own_st (fun t k => XS.istore X3.here hx rfl (hb hby own_d14_19) rfl (l' := #[.val (.ref w_EMPTY), .val (.int (0 : Int32)), .val (.ref w_NONE), .val (.ref b3x14_69), .val (.int (0 : Int32)), .val (.int (0 : Int32))]) rfl k) ?_
    refine own_st (fun t k => XS.iload X3.here hx rfl (hb hby own_d14_21) rfl k) ?_
    refine own_st (fun t k => XS.aloadN X3.here hx rfl (hb hby own_d14_23) rfl rfl k) ?_
    show own_Go _ _ _ _ T3 (mkF m 24 #[.val (.ref w_EMPTY), .val (.int (0 : Int32)), .val (.ref w_NONE), .val (.ref b3x14_69), .val (.int (0 : Int32)), .val (.int (0 : Int32))] [(.ref b3x14_69), (.int (0 : Int32))])
    refine own_st (own_alen X3 hx hZ e3 V3 (g := (mkF m 24 #[.val (.ref w_EMPTY), .val (.int (0 : Int32)), .val (.ref w_NONE), .val (.ref b3x14_69), .val (.int (0 : Int32)), .val (.int (0 : Int32))] [(.ref b3x14_69), (.int (0 : Int32))])) rfl rfl (hb hby own_d14_24)) ?_
    show own_Go _ _ _ _ T3 (mkF m 25 #[.val (.ref w_EMPTY), .val (.int (0 : Int32)), .val (.ref w_NONE), .val (.ref b3x14_69), .val (.int (0 : Int32)), .val (.int (0 : Int32))] [(.int ((0 : Int32) + (1 : Int32))), (.int (0 : Int32))])
    refine own_st (fun t k => XS.icmpNo X3.here hx rfl (hb hby own_d14_25) rfl (tlt hq2_0_0).2.1 k) ?_
    refine own_st (fun t k => XS.iload X3.here hx rfl (hb hby own_d14_28) rfl k) ?_
    refine own_st (fun t k => XS.iloadN X3.here hx rfl (hb hby own_d14_30) rfl k) ?_
    show own_Go _ _ _ _ T3 (mkF m 31 #[.val (.ref w_EMPTY), .val (.int (0 : Int32)), .val (.ref w_NONE), .val (.ref b3x14_69), .val (.int (0 : Int32)), .val (.int (0 : Int32))] [(.int (0 : Int32)), (.int (0 : Int32))])
    refine own_st (fun t k => XS.icmpNo X3.here hx rfl (hb hby own_d14_31) rfl (teq (by decide : (0 : Int32) = (0 : Int32))).2 k) ?_
    refine own_st (fun t k => XS.aloadN X3.here hx rfl (hb hby own_d14_34) rfl rfl k) ?_
    refine own_st (fun t k => XS.iload X3.here hx rfl (hb hby own_d14_35) rfl k) ?_
    refine own_st (fun t k => XS.aloadN X3.here hx rfl (hb hby own_d14_37) rfl rfl k) ?_
    show own_Go _ _ _ _ T3 (mkF m 38 #[.val (.ref w_EMPTY), .val (.int (0 : Int32)), .val (.ref w_NONE), .val (.ref b3x14_69), .val (.int (0 : Int32)), .val (.int (0 : Int32))] [(.ref w_NONE), (.int (0 : Int32)), (.ref b3x14_69)])
    obtain ⟨c4, A4, q4, S4, M4, H4, G4⟩ := V3
    have f5 := (P2.ext E3)
    obtain ⟨T4, h4, X4, e4, W4, st4⟩ := stR X3 hx hZ e3 A4 (j := (0 : Int32)) (inb_of S4 ⟨by decide, by decide⟩) rfl (Sto.ofV A4 q4 O3 (Ins.self f5)) (g := (mkF m 38 #[.val (.ref w_EMPTY), .val (.int (0 : Int32)), .val (.ref w_NONE), .val (.ref b3x14_69), .val (.int (0 : Int32)), .val (.int (0 : Int32))] [(.ref w_NONE), (.int (0 : Int32)), (.ref b3x14_69)])) rfl rfl (hb hby own_d14_38)
    refine own_st st4 ?_
    have K4 : Keep h0 h4 [] := K3.wr W4 (Or.inr sz_b3x14_69)
    have Z4 := Nat.le_trans Z3 (Keep.of_wr W4).1
    have N4 := Fr.snoc X4 N2 g_b3x14_69
    have V4 : Arv Z h4 b3x14_69 k3x14_69 (.object own_s3) ((0 : Int32) + (1 : Int32)) [(.ref w_NONE)] .null := Arv.set A4 q4 S4 M4 H4 G4 rfl W4 0 rfl (Nat.le_of_ble_eq_true rfl)
    show own_Go _ _ _ _ T4 (mkF m 39 #[.val (.ref w_EMPTY), .val (.int (0 : Int32)), .val (.ref w_NONE), .val (.ref b3x14_69), .val (.int (0 : Int32)), .val (.int (0 : Int32))] [])
    refine own_st (fun t k => XS.iinc X4.here hx rfl (hb hby own_d14_39) rfl (l' := #[.val (.ref w_EMPTY), .val (.int (0 : Int32)), .val (.ref w_NONE), .val (.ref b3x14_69), .val (.int ((0 : Int32) + (1 : Int32))), .val (.int (0 : Int32))]) rfl k) ?_
    refine own_st (fun t k => XS.goto X4.here hx rfl (pc0 := 42) (pc' := 73) rfl (hb hby own_d14_42) (by decide) (by decide) k) ?_
    show own_Go _ _ _ _ T4 (mkF m 73 #[.val (.ref w_EMPTY), .val (.int (0 : Int32)), .val (.ref w_NONE), .val (.ref b3x14_69), .val (.int ((0 : Int32) + (1 : Int32))), .val (.int (0 : Int32))] [])
    refine own_st (fun t k => XS.iinc X4.here hx rfl (hb hby own_d14_73) rfl (l' := #[.val (.ref w_EMPTY), .val (.int (0 : Int32)), .val (.ref w_NONE), .val (.ref b3x14_69), .val (.int ((0 : Int32) + (1 : Int32))), .val (.int ((0 : Int32) + (1 : Int32)))]) rfl k) ?_
    show own_Go _ _ _ _ T4 (mkF m 76 #[.val (.ref w_EMPTY), .val (.int (0 : Int32)), .val (.ref w_NONE), .val (.ref b3x14_69), .val (.int ((0 : Int32) + (1 : Int32))), .val (.int ((0 : Int32) + (1 : Int32)))] [])
    refine own_st (fun t k => XS.goto X4.here hx rfl (pc0 := 76) (pc' := 21) rfl (hb hby own_d14_76) (by decide) (by decide) k) ?_
    refine own_st (fun t k => XS.iload X4.here hx rfl (hb hby own_d14_21) rfl k) ?_
    refine own_st (fun t k => XS.aloadN X4.here hx rfl (hb hby own_d14_23) rfl rfl k) ?_
    show own_Go _ _ _ _ T4 (mkF m 24 #[.val (.ref w_EMPTY), .val (.int (0 : Int32)), .val (.ref w_NONE), .val (.ref b3x14_69), .val (.int ((0 : Int32) + (1 : Int32))), .val (.int ((0 : Int32) + (1 : Int32)))] [(.ref b3x14_69), (.int ((0 : Int32) + (1 : Int32)))])
    refine own_st (own_alen X4 hx hZ e4 V4 (g := (mkF m 24 #[.val (.ref w_EMPTY), .val (.int (0 : Int32)), .val (.ref w_NONE), .val (.ref b3x14_69), .val (.int ((0 : Int32) + (1 : Int32))), .val (.int ((0 : Int32) + (1 : Int32)))] [(.ref b3x14_69), (.int ((0 : Int32) + (1 : Int32)))])) rfl rfl (hb hby own_d14_24)) ?_
    show own_Go _ _ _ _ T4 (mkF m 25 #[.val (.ref w_EMPTY), .val (.int (0 : Int32)), .val (.ref w_NONE), .val (.ref b3x14_69), .val (.int ((0 : Int32) + (1 : Int32))), .val (.int ((0 : Int32) + (1 : Int32)))] [(.int ((0 : Int32) + (1 : Int32))), (.int ((0 : Int32) + (1 : Int32)))])
    refine own_st (fun t k => XS.icmpYes X4.here hx rfl (pc0 := 25) (pc' := 79) rfl (hb hby own_d14_25) rfl (flt (by decide : ¬ (((0 : Int32) + (1 : Int32)) < ((0 : Int32) + (1 : Int32))))).2.1 (by decide) (by decide) k) ?_
    show own_Go _ _ _ _ T4 (mkF m 79 #[.val (.ref w_EMPTY), .val (.int (0 : Int32)), .val (.ref w_NONE), .val (.ref b3x14_69), .val (.int ((0 : Int32) + (1 : Int32))), .val (.int ((0 : Int32) + (1 : Int32)))] [])
    obtain ⟨T6, h6, X6, e6, E6, A6, D6, -, st6⟩ := newO X4 hx hZ hown (own_w hw 112 rfl) (own_w hw 113 rfl) (own_w hw 46 rfl) e4 (g := (mkF m 79 #[.val (.ref w_EMPTY), .val (.int (0 : Int32)), .val (.ref w_NONE), .val (.ref b3x14_69), .val (.int ((0 : Int32) + (1 : Int32))), .val (.int ((0 : Int32) + (1 : Int32)))] [])) rfl (hb hby own_d14_79) (by decide) (by decide)
    obtain ⟨b6x14_69, g6⟩ : ∃ z, z = h4.size := ⟨_, rfl⟩
    rw [← g6] at A6 D6 st6
    have g_b6x14_69 : n0 ≤ b6x14_69 := Nat.le_trans Z4 (Nat.le_of_eq g6.symm)
    have sz_b6x14_69 : h0.size ≤ b6x14_69 := Nat.le_trans K4.1 (Nat.le_of_eq g6.symm)
    refine own_st st6 ?_
    have K6 : Keep h0 h6 [] := K4.ext E6
    have Z6 := Nat.le_trans Z4 E6.1
    have F6_100 : Fld Z h6 b6x14_69 own_s2 "parts" own_s9 .null := D6 (Or.inr (own_w hw 100 rfl)) (ty := (.array (.object own_s3))) (by decide)
    refine own_st (fun t k => XS.dup X6.here hx rfl (hb hby own_d14_82) rfl rfl k) ?_
    refine own_st (fun t k => XS.iload X6.here hx rfl (hb hby own_d14_83) rfl k) ?_
    show own_Go _ _ _ _ T6 (mkF m 85 #[.val (.ref w_EMPTY), .val (.int (0 : Int32)), .val (.ref w_NONE), .val (.ref b3x14_69), .val (.int ((0 : Int32) + (1 : Int32))), .val (.int ((0 : Int32) + (1 : Int32)))] [(.int ((0 : Int32) + (1 : Int32))), (.ref b6x14_69), (.ref b6x14_69)])
    refine own_st (fun t k => XS.aloadN X6.here hx rfl (hb hby own_d14_85) rfl rfl k) ?_
    show own_Go _ _ _ _ T6 (mkF m 86 #[.val (.ref w_EMPTY), .val (.int (0 : Int32)), .val (.ref w_NONE), .val (.ref b3x14_69), .val (.int ((0 : Int32) + (1 : Int32))), .val (.int ((0 : Int32) + (1 : Int32)))] [(.ref b3x14_69), (.int ((0 : Int32) + (1 : Int32))), (.ref b6x14_69), (.ref b6x14_69)])
    have f7 := (V4.ext E6)
    refine own_st (own_alen X6 hx hZ e6 f7 (g := (mkF m 86 #[.val (.ref w_EMPTY), .val (.int (0 : Int32)), .val (.ref w_NONE), .val (.ref b3x14_69), .val (.int ((0 : Int32) + (1 : Int32))), .val (.int ((0 : Int32) + (1 : Int32)))] [(.ref b3x14_69), (.int ((0 : Int32) + (1 : Int32))), (.ref b6x14_69), (.ref b6x14_69)])) rfl rfl (hb hby own_d14_86)) ?_
    show own_Go _ _ _ _ T6 (mkF m 87 #[.val (.ref w_EMPTY), .val (.int (0 : Int32)), .val (.ref w_NONE), .val (.ref b3x14_69), .val (.int ((0 : Int32) + (1 : Int32))), .val (.int ((0 : Int32) + (1 : Int32)))] [(.int ((0 : Int32) + (1 : Int32))), (.int ((0 : Int32) + (1 : Int32))), (.ref b6x14_69), (.ref b6x14_69)])
    refine own_st (fun t k => XS.icmpNo X6.here hx rfl (hb hby own_d14_87) rfl (teq (by decide : ((0 : Int32) + (1 : Int32)) = ((0 : Int32) + (1 : Int32)))).2 k) ?_
    refine own_st (fun t k => XS.aloadN X6.here hx rfl (hb hby own_d14_90) rfl rfl k) ?_
    show own_Go _ _ _ _ T6 (mkF m 91 #[.val (.ref w_EMPTY), .val (.int (0 : Int32)), .val (.ref w_NONE), .val (.ref b3x14_69), .val (.int ((0 : Int32) + (1 : Int32))), .val (.int ((0 : Int32) + (1 : Int32)))] [(.ref b3x14_69), (.ref b6x14_69), (.ref b6x14_69)])
    refine own_st (fun t k => XS.goto X6.here hx rfl (pc0 := 91) (pc' := 103) rfl (hb hby own_d14_91) (by decide) (by decide) k) ?_
    show own_Go _ _ _ _ T6 (mkF m 103 #[.val (.ref w_EMPTY), .val (.int (0 : Int32)), .val (.ref w_NONE), .val (.ref b3x14_69), .val (.int ((0 : Int32) + (1 : Int32))), .val (.int ((0 : Int32) + (1 : Int32)))] [(.ref b3x14_69), (.ref b6x14_69), (.ref b6x14_69)])
    obtain ⟨_, _, ⟨T8, L8, k8, n8⟩, -, X8, ⟨Lc8, hQ8, l8, y8, z8⟩, st8⟩ := X6.specialBack hx (y := (⟨own_s2, "<init>", "([Lcom/example/lonborg/lonborg/Resources;)V"⟩ : MethodName)) rfl hown (mvT hZ (own_w hw 114 rfl)) (mvT hZ (own_w hw 115 rfl)) (mvT hZ (own_w hw 116 rfl)) (by decide) (backOf (W := 1) (own_rm16_71 l Z a0 hw [] b6x14_69 b3x14_69 h6 n0 Z6 A6 F6_100 g_b6x14_69) hZ (own_w hw 116 rfl) (own_w hw 46 rfl) (by decide) (by decide)) (g := (mkF m 103 #[.val (.ref w_EMPTY), .val (.int (0 : Int32)), .val (.ref w_NONE), .val (.ref b3x14_69), .val (.int ((0 : Int32) + (1 : Int32))), .val (.int ((0 : Int32) + (1 : Int32)))] [(.ref b3x14_69), (.ref b6x14_69), (.ref b6x14_69)])) rfl (by rw [hml]; rfl) (Steps.refl _) (a := b6x14_69) (argsL := [(.ref b3x14_69)]) (rest := [(.ref b6x14_69)]) (lenOf own_pd7 rfl) rfl (by show 2 * 0 + _ ≤ _; exact Nat.le_of_eq rfl) (hb hby own_d14_103) (fun _ _ => ⟨rfl, e6, (by decide : 2 + 0 ≤ _), (by decide : 2 + 0 ≤ _)⟩)
    dsimp only [Pt.U, Pt.locs, Pt.cells, Pt.slots] at X8 l8 y8 z8 st8 hQ8
    subst l8 y8 z8
    obtain ⟨N8q, Kq8, hL8⟩ := hQ8
    have N8 := Fr.app N4 N8q
    have K8 : Keep h0 T8.heap [] := K6.trans Kq8 (allS (Or.inr sz_b6x14_69) all0)
    have Z8 := Nat.le_trans Z6 Kq8.1
    rcases hL8 with ⟨rfl, Fc8_0_0, -⟩
    · skip
      refine own_st (fun t k => st8.trans k) ?_
      show own_Go _ _ _ _ T8 (mkF m 106 #[.val (.ref w_EMPTY), .val (.int (0 : Int32)), .val (.ref w_NONE), .val (.ref b3x14_69), .val (.int ((0 : Int32) + (1 : Int32))), .val (.int ((0 : Int32) + (1 : Int32)))] [(.ref b6x14_69)])
      have f9 := (A6.keep Kq8)
      have ne10 : b3x14_69 ≠ b6x14_69 := Nat.ne_of_lt (Nat.lt_of_lt_of_le V4.lt (Nat.le_of_eq g6.symm))
      have f11 := (f7.keep Kq8 (ninS ne10 nin0))
      have f12 := (((Ex3.wr W4).ext E6).keep Kq8)
      exact own_retA X8 hx hlk hret rfl rfl (hb hby own_d14_106) (by decide) (by decide) rfl ⟨N8, K8, ⟨b6x14_69, b3x14_69, _, rfl, hq2_0_0, sz_b6x14_69, sz_b3x14_69, f9, Fc8_0_0, f11, O3, f12, trivial⟩⟩
  · skip
    exact absurd (by decide : (0 : Int32) < ((0 : Int32) + (1 : Int32))) hq2_1_0
theorem own_pd8 : parseMethodDescriptor "(ILcom/example/lonborg/lonborg/Resources;)Lcom/example/lonborg/lonborg/LeastNeeds;" = some ⟨[.int, (.object own_s3)], some (.object own_s2)⟩ := by decide +kernel
theorem own_d13_0 : decode prog_8_method_3_code 0 = .ok (.aload_n 0, 1) := by decide +kernel
theorem own_d13_1 : decode prog_8_method_3_code 1 = .ok (.getfield 7, 3) := by decide +kernel
theorem own_d13_4 : decode prog_8_method_3_code 4 = .ok (.arraylength, 1) := by decide +kernel
theorem own_d13_5 : decode prog_8_method_3_code 5 = .ok (.istore_n 2, 1) := by decide +kernel
theorem own_d13_6 : decode prog_8_method_3_code 6 = .ok (.iconst 0, 1) := by decide +kernel
theorem own_d13_7 : decode prog_8_method_3_code 7 = .ok (.istore_n 3, 1) := by decide +kernel
theorem own_d13_8 : decode prog_8_method_3_code 8 = .ok (.iload_n 3, 1) := by decide +kernel
theorem own_d13_9 : decode prog_8_method_3_code 9 = .ok (.aload_n 0, 1) := by decide +kernel
theorem own_d13_10 : decode prog_8_method_3_code 10 = .ok (.getfield 7, 3) := by decide +kernel
theorem own_d13_13 : decode prog_8_method_3_code 13 = .ok (.arraylength, 1) := by decide +kernel
theorem own_d13_14 : decode prog_8_method_3_code 14 = .ok (.if_icmp .ge 39, 3) := by decide +kernel
theorem own_d13_53 : decode prog_8_method_3_code 53 = .ok (.iload_n 2, 1) := by decide +kernel
theorem own_d13_54 : decode prog_8_method_3_code 54 = .ok (.iconst 4, 1) := by decide +kernel
theorem own_d13_55 : decode prog_8_method_3_code 55 = .ok (.if_icmp .ne 5, 3) := by decide +kernel
theorem own_d13_60 : decode prog_8_method_3_code 60 = .ok (.iload_n 2, 1) := by decide +kernel
theorem own_d13_61 : decode prog_8_method_3_code 61 = .ok (.aload_n 0, 1) := by decide +kernel
theorem own_d13_62 : decode prog_8_method_3_code 62 = .ok (.getfield 7, 3) := by decide +kernel
theorem own_d13_65 : decode prog_8_method_3_code 65 = .ok (.arraylength, 1) := by decide +kernel
theorem own_d13_66 : decode prog_8_method_3_code 66 = .ok (.if_icmp .ge 16, 3) := by decide +kernel
theorem own_d13_82 : decode prog_8_method_3_code 82 = .ok (.aload_n 1, 1) := by decide +kernel
theorem own_d13_83 : decode prog_8_method_3_code 83 = .ok (.astore_n 3, 1) := by decide +kernel
theorem own_d13_84 : decode prog_8_method_3_code 84 = .ok (.aload_n 0, 1) := by decide +kernel
theorem own_d13_85 : decode prog_8_method_3_code 85 = .ok (.iload_n 2, 1) := by decide +kernel
theorem own_d13_86 : decode prog_8_method_3_code 86 = .ok (.aload_n 3, 1) := by decide +kernel
theorem own_d13_87 : decode prog_8_method_3_code 87 = .ok (.invokevirtual 26, 3) := by decide +kernel
theorem own_d13_90 : decode prog_8_method_3_code 90 = .ok (.areturn, 1) := by decide +kernel
theorem own_ef13 (m : MethodId) (x0 : Addr) (x1 : Addr) : entryFrame m #[(.ref x0), (.ref x1)] 4 = mkF m 0 #[.val (.ref x0), .val (.ref x1), .unset, .unset] [] := by first | (simp [entryFrame, mkF, argsToLocals, Value.category]; done) | rfl
def own_Q13_68 (Z : State) (w_EMPTY : Addr) (w_NONE : Addr) (w_EMPTY_parts : Addr) (k_w_EMPTY_parts : ClassId) (h0 : Heap) (n0 : Nat) (v : Option Value) (h : Heap) (L : List Loc) : Prop := Fr n0 L ∧ Keep h0 h [] ∧ ((∃ b6x14_69c4 : Addr, ∃ b3x14_69c4 : Addr, ∃ k3x14_69c4 : ClassId, v = some (.ref b6x14_69c4) ∧ ((0 : Int32) < ((0 : Int32) + (1 : Int32))) ∧ h0.size ≤ b6x14_69c4 ∧ h0.size ≤ b3x14_69c4 ∧ Exa Z h b6x14_69c4 own_s2 ∧ Fld Z h b6x14_69c4 own_s2 "parts" own_s9 (.ref b3x14_69c4) ∧ Arv Z h b3x14_69c4 k3x14_69c4 (.object own_s3) ((0 : Int32) + (1 : Int32)) [(.ref w_NONE)] .null ∧ Ovr Z k3x14_69c4 own_s3 ∧ Exa Z h b3x14_69c4 own_s9 ∧ True))
set_option maxRecDepth 65536 in
set_option maxHeartbeats 40000000 in
theorem own_rm13_68 (l : Launch) (Z : State) (a0 : Array Value) (hw : ∀ d ∈ tables_1, d.before a0 Z = true) (ws : List Jvm.Cond) (w_EMPTY : Addr) (w_NONE : Addr) (w_EMPTY_parts : Addr) (k_w_EMPTY_parts : ClassId) (h0 : Heap) (n0 : Nat) (Z0 : n0 ≤ h0.size) (P0 : Fld Z h0 w_EMPTY own_s2 "parts" own_s9 (.ref w_EMPTY_parts)) (P1 : Arv Z h0 w_EMPTY_parts k_w_EMPTY_parts (.object own_s3) (0 : Int32) [] .null) (P2 : Exa Z h0 w_NONE own_s3) (P3 : Exa Z h0 w_EMPTY own_s2) :
    MetFree l own_y8 (head1 (Jvm.Cond.code own_y8 prog_8_method_3_code 4 (some (.object own_s2)) :: ws) ({ frames := 3, cells := 2, slots := 2, locals := 43 } : Room)) (fun a U => a = #[(.ref w_EMPTY), (.ref w_NONE)] ∧ Z.Warmed39 U.vm ∧ U.heap = h0) (fun _ _ _ _ _ => True) (fun _ U o U' => ∃ v L, o = .returned v ∧ own_Q13_68 Z w_EMPTY w_NONE w_EMPTY_parts k_w_EMPTY_parts h0 n0 v U'.heap L ∧ FrameEnd U o U' L ({ frames := 3, cells := 2, slots := 2, locals := 43 } : Room).cells ({ frames := 3, cells := 2, slots := 2, locals := 43 } : Room).slots) := by
  refine MetFree.of_bodySF (plainFor_of_name own_pn4) hisR ?_
  intro p e s m args below meth c s₁ Bd hml0 hP hK
  obtain ⟨rfl, hZ, hh⟩ := hP
  have hx := Bd.exec
  have hlk := Bd.notSynchronized
  have hret := Bd.returns
  have hby := Bd.bytes
  have hml : c.maxLocals = 4 := hml0
  have hown : s.vm.findClass own_s2 = some m.cls := findClass_of_methodNamed Bd.named
  have hnm := (name_of_methodNamed Bd.named Bd.method).1
  have X0 : Stand p l e ({ frames := 3, cells := 2, slots := 2, locals := 43 } : Room) s m #[(.ref w_EMPTY), (.ref w_NONE)] below meth c s₁ [] 0 0 := Stand.of_body Bd
  have e0 : s₁.heap = h0 := by rw [← hh, Bd.state]; rfl
  have N0 := Fr.nil n0
  refine own_open (Q := own_Q13_68 Z w_EMPTY w_NONE w_EMPTY_parts k_w_EMPTY_parts h0 n0) (own_ef13 m w_EMPTY w_NONE) ?_
  refine own_st (fun t k => XS.aloadN X0.here hx rfl (hb hby own_d13_0) rfl rfl k) ?_
  show own_Go _ _ _ _ s₁ (mkF m 1 #[.val (.ref w_EMPTY), .val (.ref w_NONE), .unset, .unset] [(.ref w_EMPTY)])
  obtain ⟨T1, X1, e1, st1⟩ := getF X0 hx hZ hown (host := "") (Or.inl (own_w hw 99 rfl)) Via.refl e0 P0 (g := (mkF m 1 #[.val (.ref w_EMPTY), .val (.ref w_NONE), .unset, .unset] [(.ref w_EMPTY)])) rfl rfl (hb hby own_d13_1)
  refine own_st st1 ?_
  show own_Go _ _ _ _ T1 (mkF m 4 #[.val (.ref w_EMPTY), .val (.ref w_NONE), .unset, .unset] [(.ref w_EMPTY_parts)])
  refine own_st (own_alen X1 hx hZ e1 P1 (g := (mkF m 4 #[.val (.ref w_EMPTY), .val (.ref w_NONE), .unset, .unset] [(.ref w_EMPTY_parts)])) rfl rfl (hb hby own_d13_4)) ?_
  show own_Go _ _ _ _ T1 (mkF m 5 #[.val (.ref w_EMPTY), .val (.ref w_NONE), .unset, .unset] [(.int (0 : Int32))])
  refine own_st (fun t k => XS.istoreN X1.here hx rfl (hb hby own_d13_5) rfl (l' := #[.val (.ref w_EMPTY), .val (.ref w_NONE), .val (.int (0 : Int32)), .unset]) rfl k) ?_
  refine own_st (fun t k => XS.iconst X1.here hx rfl (hb hby own_d13_6) k) ?_
  refine own_st (fun t k => XS.istoreN X1.here hx rfl (hb hby own_d13_7) rfl (l' := #[.val (.ref w_EMPTY), .val (.ref w_NONE), .val (.int (0 : Int32)), .val (.int (0 : Int32))]) rfl k) ?_
  refine own_st (fun t k => XS.iloadN X1.here hx rfl (hb hby own_d13_8) rfl k) ?_
  show own_Go _ _ _ _ T1 (mkF m 9 #[.val (.ref w_EMPTY), .val (.ref w_NONE), .val (.int (0 : Int32)), .val (.int (0 : Int32))] [(.int (0 : Int32))])
  refine own_st (fun t k => XS.aloadN X1.here hx rfl (hb hby own_d13_9) rfl rfl k) ?_
  show own_Go _ _ _ _ T1 (mkF m 10 #[.val (.ref w_EMPTY), .val (.ref w_NONE), .val (.int (0 : Int32)), .val (.int (0 : Int32))] [(.ref w_EMPTY), (.int (0 : Int32))])
  obtain ⟨T2, X2, e2, st2⟩ := getF X1 hx hZ hown (host := "") (Or.inl (own_w hw 99 rfl)) Via.refl e1 P0 (g := (mkF m 10 #[.val (.ref w_EMPTY), .val (.ref w_NONE), .val (.int (0 : Int32)), .val (.int (0 : Int32))] [(.ref w_EMPTY), (.int (0 : Int32))])) rfl rfl (hb hby own_d13_10)
  refine own_st st2 ?_
  show own_Go _ _ _ _ T2 (mkF m 13 #[.val (.ref w_EMPTY), .val (.ref w_NONE), .val (.int (0 : Int32)), .val (.int (0 : Int32))] [(.ref w_EMPTY_parts), (.int (0 : Int32))])
  refine own_st (own_alen X2 hx hZ e2 P1 (g := (mkF m 13 #[.val (.ref w_EMPTY), .val (.ref w_NONE), .val (.int (0 : Int32)), .val (.int (0 : Int32))] [(.ref w_EMPTY_parts), (.int (0 : Int32))])) rfl rfl (hb hby own_d13_13)) ?_
  show own_Go _ _ _ _ T2 (mkF m 14 #[.val (.ref w_EMPTY), .val (.ref w_NONE), .val (.int (0 : Int32)), .val (.int (0 : Int32))] [(.int (0 : Int32)), (.int (0 : Int32))])
  refine own_st (fun t k => XS.icmpYes X2.here hx rfl (pc0 := 14) (pc' := 53) rfl (hb hby own_d13_14) rfl (flt (by decide : ¬ ((0 : Int32) < (0 : Int32)))).2.1 (by decide) (by decide) k) ?_
  show own_Go _ _ _ _ T2 (mkF m 53 #[.val (.ref w_EMPTY), .val (.ref w_NONE), .val (.int (0 : Int32)), .val (.int (0 : Int32))] [])
  refine own_st (fun t k => XS.iloadN X2.here hx rfl (hb hby own_d13_53) rfl k) ?_
  refine own_st (fun t k => XS.iconst X2.here hx rfl (hb hby own_d13_54) k) ?_
  show own_Go _ _ _ _ T2 (mkF m 55 #[.val (.ref w_EMPTY), .val (.ref w_NONE), .val (.int (0 : Int32)), .val (.int (0 : Int32))] [(.int (4 : Int32)), (.int (0 : Int32))])
  refine own_st (fun t k => XS.icmpYes X2.here hx rfl (pc0 := 55) (pc' := 60) rfl (hb hby own_d13_55) rfl (feq (by decide : ¬ ((0 : Int32) = (4 : Int32)))).2 (by decide) (by decide) k) ?_
  refine own_st (fun t k => XS.iloadN X2.here hx rfl (hb hby own_d13_60) rfl k) ?_
  show own_Go _ _ _ _ T2 (mkF m 61 #[.val (.ref w_EMPTY), .val (.ref w_NONE), .val (.int (0 : Int32)), .val (.int (0 : Int32))] [(.int (0 : Int32))])
  refine own_st (fun t k => XS.aloadN X2.here hx rfl (hb hby own_d13_61) rfl rfl k) ?_
  show own_Go _ _ _ _ T2 (mkF m 62 #[.val (.ref w_EMPTY), .val (.ref w_NONE), .val (.int (0 : Int32)), .val (.int (0 : Int32))] [(.ref w_EMPTY), (.int (0 : Int32))])
  obtain ⟨T3, X3, e3, st3⟩ := getF X2 hx hZ hown (host := "") (Or.inl (own_w hw 99 rfl)) Via.refl e2 P0 (g := (mkF m 62 #[.val (.ref w_EMPTY), .val (.ref w_NONE), .val (.int (0 : Int32)), .val (.int (0 : Int32))] [(.ref w_EMPTY), (.int (0 : Int32))])) rfl rfl (hb hby own_d13_62)
  refine own_st st3 ?_
  show own_Go _ _ _ _ T3 (mkF m 65 #[.val (.ref w_EMPTY), .val (.ref w_NONE), .val (.int (0 : Int32)), .val (.int (0 : Int32))] [(.ref w_EMPTY_parts), (.int (0 : Int32))])
  refine own_st (own_alen X3 hx hZ e3 P1 (g := (mkF m 65 #[.val (.ref w_EMPTY), .val (.ref w_NONE), .val (.int (0 : Int32)), .val (.int (0 : Int32))] [(.ref w_EMPTY_parts), (.int (0 : Int32))])) rfl rfl (hb hby own_d13_65)) ?_
  show own_Go _ _ _ _ T3 (mkF m 66 #[.val (.ref w_EMPTY), .val (.ref w_NONE), .val (.int (0 : Int32)), .val (.int (0 : Int32))] [(.int (0 : Int32)), (.int (0 : Int32))])
  refine own_st (fun t k => XS.icmpYes X3.here hx rfl (pc0 := 66) (pc' := 82) rfl (hb hby own_d13_66) rfl (flt (by decide : ¬ ((0 : Int32) < (0 : Int32)))).2.1 (by decide) (by decide) k) ?_
  show own_Go _ _ _ _ T3 (mkF m 82 #[.val (.ref w_EMPTY), .val (.ref w_NONE), .val (.int (0 : Int32)), .val (.int (0 : Int32))] [])
  refine own_st (fun t k => XS.aloadN X3.here hx rfl (hb hby own_d13_82) rfl rfl k) ?_
  refine own_st (fun t k => XS.astoreN X3.here hx rfl (hb hby own_d13_83) rfl rfl (l' := #[.val (.ref w_EMPTY), .val (.ref w_NONE), .val (.int (0 : Int32)), .val (.ref w_NONE)]) rfl k) ?_
  refine own_st (fun t k => XS.aloadN X3.here hx rfl (hb hby own_d13_84) rfl rfl k) ?_
  refine own_st (fun t k => XS.iloadN X3.here hx rfl (hb hby own_d13_85) rfl k) ?_
  show own_Go _ _ _ _ T3 (mkF m 86 #[.val (.ref w_EMPTY), .val (.ref w_NONE), .val (.int (0 : Int32)), .val (.ref w_NONE)] [(.int (0 : Int32)), (.ref w_EMPTY)])
  refine own_st (fun t k => XS.aloadN X3.here hx rfl (hb hby own_d13_86) rfl rfl k) ?_
  show own_Go _ _ _ _ T3 (mkF m 87 #[.val (.ref w_EMPTY), .val (.ref w_NONE), .val (.int (0 : Int32)), .val (.ref w_NONE)] [(.ref w_NONE), (.int (0 : Int32)), (.ref w_EMPTY)])
  obtain ⟨cq4, q4, q4'⟩ := P3.cell
  obtain ⟨_, _, ⟨T4, L4, k4, n4⟩, -, X4, ⟨Lc4, hQ4, l4, y4, z4⟩, st4⟩ := X3.privateBack hx (y := (⟨own_s2, "replaced", "(ILcom/example/lonborg/lonborg/Resources;)Lcom/example/lonborg/lonborg/LeastNeeds;"⟩ : MethodName)) hown (mvT hZ (own_w hw 101 rfl)) (mvT hZ (own_w hw 102 rfl)) (own_psel hZ (own_w hw 113 rfl) (own_w hw 103 rfl) (own_w hw 102 rfl) (by decide)) (Cond.privateMethod_at (mvP hZ (own_w hw 103 rfl) (args := #[]))) (mvT hZ (own_w hw 104 rfl)) (by decide) (backOf (W := 0) (own_rm14_69 l Z a0 hw [] w_EMPTY w_NONE w_EMPTY_parts k_w_EMPTY_parts h0 n0 Z0 P0 P1 P2) hZ (own_w hw 104 rfl) (own_w hw 46 rfl) (by decide) (by decide)) (g := (mkF m 87 #[.val (.ref w_EMPTY), .val (.ref w_NONE), .val (.int (0 : Int32)), .val (.ref w_NONE)] [(.ref w_NONE), (.int (0 : Int32)), (.ref w_EMPTY)])) rfl (by rw [hml]; rfl) (Steps.refl _) (a := w_EMPTY) (by rw [e3]; exact q4) q4' (argsL := [(.int (0 : Int32)), (.ref w_NONE)]) (rest := []) (lenOf own_pd8 rfl) rfl (by show 2 * 0 + _ ≤ _; exact Nat.le_of_eq rfl) (hb hby own_d13_87) (fun _ _ => ⟨rfl, e3, (by decide : 0 + 2 ≤ _), (by decide : 0 + 2 ≤ _)⟩)
  dsimp only [Pt.U, Pt.locs, Pt.cells, Pt.slots] at X4 l4 y4 z4 st4 hQ4
  subst l4 y4 z4
  obtain ⟨N4q, Kq4, hL4⟩ := hQ4
  have N4 := Fr.app N0 N4q
  have K4 : Keep h0 T4.heap [] := (Keep.refl h0 []).trans Kq4 all0
  have Z4 := Nat.le_trans Z0 Kq4.1
  rcases hL4 with ⟨b6x14_69c4, b3x14_69c4, k3x14_69c4, rfl, hq4_0_0, sq_b6x14_69c4, sq_b3x14_69c4, Fc4_0_0, Fc4_0_1, Fc4_0_2, OFc4_0_2, Fc4_0_3, -⟩
  · skip
    have g_b6x14_69c4 : n0 ≤ b6x14_69c4 := Nat.le_trans Z0 sq_b6x14_69c4
    have sz_b6x14_69c4 : h0.size ≤ b6x14_69c4 := Nat.le_trans (Keep.refl h0 []).1 sq_b6x14_69c4
    have g_b3x14_69c4 : n0 ≤ b3x14_69c4 := Nat.le_trans Z0 sq_b3x14_69c4
    have sz_b3x14_69c4 : h0.size ≤ b3x14_69c4 := Nat.le_trans (Keep.refl h0 []).1 sq_b3x14_69c4
    refine own_st (fun t k => st4.trans k) ?_
    show own_Go _ _ _ _ T4 (mkF m 90 #[.val (.ref w_EMPTY), .val (.ref w_NONE), .val (.int (0 : Int32)), .val (.ref w_NONE)] [(.ref b6x14_69c4)])
    exact own_retA X4 hx hlk hret rfl rfl (hb hby own_d13_90) (by decide) (by decide) rfl ⟨N4, K4, ⟨b6x14_69c4, b3x14_69c4, _, rfl, hq4_0_0, sz_b6x14_69c4, sz_b3x14_69c4, Fc4_0_0, Fc4_0_1, Fc4_0_2, OFc4_0_2, Fc4_0_3, trivial⟩⟩
theorem own_pd9 : parseMethodDescriptor own_s11 = some ⟨[(.object own_s3)], some (.object own_s2)⟩ := by decide +kernel
theorem own_d12_0 : decode prog_5_method_10_code 0 = .ok (.aload_n 0, 1) := by decide +kernel
theorem own_d12_1 : decode prog_5_method_10_code 1 = .ok (.getfield 18, 3) := by decide +kernel
theorem own_d12_4 : decode prog_5_method_10_code 4 = .ok (.ifCond .ne 15, 3) := by decide +kernel
theorem own_d12_7 : decode prog_5_method_10_code 7 = .ok (.aload_n 0, 1) := by decide +kernel
theorem own_d12_8 : decode prog_5_method_10_code 8 = .ok (.getstatic 7, 3) := by decide +kernel
theorem own_d12_11 : decode prog_5_method_10_code 11 = .ok (.putfield 13, 3) := by decide +kernel
theorem own_d12_14 : decode prog_5_method_10_code 14 = .ok (.aload_n 0, 1) := by decide +kernel
theorem own_d12_15 : decode prog_5_method_10_code 15 = .ok (.iconst 0, 1) := by decide +kernel
theorem own_d12_16 : decode prog_5_method_10_code 16 = .ok (.putfield 26, 3) := by decide +kernel
theorem own_d12_19 : decode prog_5_method_10_code 19 = .ok (.aload_n 0, 1) := by decide +kernel
theorem own_d12_20 : decode prog_5_method_10_code 20 = .ok (.aload_n 0, 1) := by decide +kernel
theorem own_d12_21 : decode prog_5_method_10_code 21 = .ok (.getfield 13, 3) := by decide +kernel
theorem own_d12_24 : decode prog_5_method_10_code 24 = .ok (.aload_n 1, 1) := by decide +kernel
theorem own_d12_25 : decode prog_5_method_10_code 25 = .ok (.invokevirtual 30, 3) := by decide +kernel
theorem own_d12_28 : decode prog_5_method_10_code 28 = .ok (.putfield 13, 3) := by decide +kernel
theorem own_d12_31 : decode prog_5_method_10_code 31 = .ok (.return_, 1) := by decide +kernel
theorem own_ef12 (m : MethodId) (x0 : Addr) (x1 : Addr) : entryFrame m #[(.ref x0), (.ref x1)] 2 = mkF m 0 #[.val (.ref x0), .val (.ref x1)] [] := by first | (simp [entryFrame, mkF, argsToLocals, Value.category]; done) | rfl
def own_Q12_67 (Z : State) (b2x4_14c5015 : Addr) (w_NONE : Addr) (w_EMPTY : Addr) (w_EMPTY_parts : Addr) (k_w_EMPTY_parts : ClassId) (b2x5_18c4c5015 : Addr) (h0 : Heap) (n0 : Nat) (v : Option Value) (h : Heap) (L : List Loc) : Prop := Fr n0 L ∧ Keep h0 h [b2x4_14c5015] ∧ ((∃ b6x14_69c4c13 : Addr, ∃ b3x14_69c4c13 : Addr, ∃ k3x14_69c4c13 : ClassId, v = none ∧ ((0 : Int32) < ((0 : Int32) + (1 : Int32))) ∧ h0.size ≤ b6x14_69c4c13 ∧ h0.size ≤ b3x14_69c4c13 ∧ Fld Z h b2x4_14c5015 own_s0 "count" "I" (.int (0 : Int32)) ∧ Fld Z h b2x4_14c5015 own_s0 "least" own_s6 (.ref b6x14_69c4c13) ∧ Fld Z h b2x4_14c5015 own_s0 "stale" "Z" (.int (0 : Int32)) ∧ Fld Z h b2x4_14c5015 own_s5 "items" own_s8 (.ref b2x5_18c4c5015) ∧ Exa Z h b6x14_69c4c13 own_s2 ∧ Fld Z h b6x14_69c4c13 own_s2 "parts" own_s9 (.ref b3x14_69c4c13) ∧ Arv Z h b3x14_69c4c13 k3x14_69c4c13 (.object own_s3) ((0 : Int32) + (1 : Int32)) [(.ref w_NONE)] .null ∧ Ovr Z k3x14_69c4c13 own_s3 ∧ Exa Z h b3x14_69c4c13 own_s9 ∧ True))
set_option maxRecDepth 65536 in
set_option maxHeartbeats 40000000 in
theorem own_rm12_67 (l : Launch) (Z : State) (a0 : Array Value) (hw : ∀ d ∈ tables_1, d.before a0 Z = true) (ws : List Jvm.Cond) (b2x4_14c5015 : Addr) (w_NONE : Addr) (w_EMPTY : Addr) (w_EMPTY_parts : Addr) (k_w_EMPTY_parts : ClassId) (b2x5_18c4c5015 : Addr) (h0 : Heap) (n0 : Nat) (Z0 : n0 ≤ h0.size) (P0 : Fld Z h0 b2x4_14c5015 own_s0 "count" "I" (.int (0 : Int32))) (P1 : Sta Z h0 own_s2 "EMPTY" own_s6 (.ref w_EMPTY)) (P2 : Exa Z h0 b2x4_14c5015 own_s5) (P3 : Fld Z h0 b2x4_14c5015 own_s0 "least" own_s6 (.ref w_EMPTY)) (g_b2x4_14c5015 : n0 ≤ b2x4_14c5015) (P5 : Fld Z h0 b2x4_14c5015 own_s0 "stale" "Z" (.int (0 : Int32))) (P6 : Fld Z h0 w_EMPTY own_s2 "parts" own_s9 (.ref w_EMPTY_parts)) (P7 : Arv Z h0 w_EMPTY_parts k_w_EMPTY_parts (.object own_s3) (0 : Int32) [] .null) (P8 : Exa Z h0 w_NONE own_s3) (P9 : Exa Z h0 w_EMPTY own_s2) (P10 : Fld Z h0 b2x4_14c5015 own_s5 "items" own_s8 (.ref b2x5_18c4c5015)) :
    MetFree l own_y6 (head1 (Jvm.Cond.code own_y6 prog_5_method_10_code 2 none :: ws) ({ frames := 4, cells := 2, slots := 2, locals := 59 } : Room)) (fun a U => a = #[(.ref b2x4_14c5015), (.ref w_NONE)] ∧ Z.Warmed39 U.vm ∧ U.heap = h0) (fun _ _ _ _ _ => True) (fun _ U o U' => ∃ v L, o = .returned v ∧ own_Q12_67 Z b2x4_14c5015 w_NONE w_EMPTY w_EMPTY_parts k_w_EMPTY_parts b2x5_18c4c5015 h0 n0 v U'.heap L ∧ FrameEnd U o U' L ({ frames := 4, cells := 2, slots := 2, locals := 59 } : Room).cells ({ frames := 4, cells := 2, slots := 2, locals := 59 } : Room).slots) := by
  refine MetFree.of_bodySF (plainFor_of_name own_pn1) hisR ?_
  intro p e s m args below meth c s₁ Bd hml0 hP hK
  obtain ⟨rfl, hZ, hh⟩ := hP
  have hx := Bd.exec
  have hlk := Bd.notSynchronized
  have hret := Bd.returns
  have hby := Bd.bytes
  have hml : c.maxLocals = 2 := hml0
  have hown : s.vm.findClass own_s0 = some m.cls := findClass_of_methodNamed Bd.named
  have hnm := (name_of_methodNamed Bd.named Bd.method).1
  have X0 : Stand p l e ({ frames := 4, cells := 2, slots := 2, locals := 59 } : Room) s m #[(.ref b2x4_14c5015), (.ref w_NONE)] below meth c s₁ [] 0 0 := Stand.of_body Bd
  have e0 : s₁.heap = h0 := by rw [← hh, Bd.state]; rfl
  have N0 := Fr.nil n0
  refine own_open (Q := own_Q12_67 Z b2x4_14c5015 w_NONE w_EMPTY w_EMPTY_parts k_w_EMPTY_parts b2x5_18c4c5015 h0 n0) (own_ef12 m b2x4_14c5015 w_NONE) ?_
  refine own_st (fun t k => XS.aloadN X0.here hx rfl (hb hby own_d12_0) rfl rfl k) ?_
  show own_Go _ _ _ _ s₁ (mkF m 1 #[.val (.ref b2x4_14c5015), .val (.ref w_NONE)] [(.ref b2x4_14c5015)])
  obtain ⟨T1, X1, e1, st1⟩ := getF X0 hx hZ hown (host := "") (Or.inl (own_w hw 91 rfl)) Via.refl e0 P0 (g := (mkF m 1 #[.val (.ref b2x4_14c5015), .val (.ref w_NONE)] [(.ref b2x4_14c5015)])) rfl rfl (hb hby own_d12_1)
  refine own_st st1 ?_
  show own_Go _ _ _ _ T1 (mkF m 4 #[.val (.ref b2x4_14c5015), .val (.ref w_NONE)] [(.int (0 : Int32))])
  refine own_st (fun t k => XS.ifNo X1.here hx rfl (hb hby own_d12_4) rfl ((if0 _ _).trans (teq (by decide : (0 : Int32) = (0 : Int32))).2) k) ?_
  show own_Go _ _ _ _ T1 (mkF m 7 #[.val (.ref b2x4_14c5015), .val (.ref w_NONE)] [])
  refine own_st (fun t k => XS.aloadN X1.here hx rfl (hb hby own_d12_7) rfl rfl k) ?_
  show own_Go _ _ _ _ T1 (mkF m 8 #[.val (.ref b2x4_14c5015), .val (.ref w_NONE)] [(.ref b2x4_14c5015)])
  obtain ⟨T2, X2, e2, st2⟩ := getS2 X1 hx hZ hown (host := "") (Or.inl (own_w hw 45 rfl)) Via.refl e1 P1 (g := (mkF m 8 #[.val (.ref b2x4_14c5015), .val (.ref w_NONE)] [(.ref b2x4_14c5015)])) rfl (hb hby own_d12_8)
  refine own_st st2 ?_
  show own_Go _ _ _ _ T2 (mkF m 11 #[.val (.ref b2x4_14c5015), .val (.ref w_NONE)] [(.ref w_EMPTY), (.ref b2x4_14c5015)])
  obtain ⟨T3, h3, X3, e3, W3, st3⟩ := putF X2 hx hZ hown (host := "") (Or.inl (own_w hw 48 rfl)) Via.refl e2 P3 P2 (Or.inl (own_w hw 49 rfl)) (own_w hw 34 rfl) (ty := (.object own_s2)) (by decide) rfl rfl (g := (mkF m 11 #[.val (.ref b2x4_14c5015), .val (.ref w_NONE)] [(.ref w_EMPTY), (.ref b2x4_14c5015)])) rfl rfl (hb hby own_d12_11)
  refine own_st st3 ?_
  have K3 : Keep h0 h3 [b2x4_14c5015] := (Keep.refl h0 [b2x4_14c5015]).wr W3 (Or.inl (List.mem_of_getElem? (i := 0) rfl))
  have Z3 := Nat.le_trans Z0 (Keep.of_wr W3).1
  have N3 := Fr.snoc X3 N0 g_b2x4_14c5015
  have F3 := P3.same W3
  refine own_st (fun t k => XS.aloadN X3.here hx rfl (hb hby own_d12_14) rfl rfl k) ?_
  show own_Go _ _ _ _ T3 (mkF m 15 #[.val (.ref b2x4_14c5015), .val (.ref w_NONE)] [(.ref b2x4_14c5015)])
  refine own_st (fun t k => XS.iconst X3.here hx rfl (hb hby own_d12_15) k) ?_
  show own_Go _ _ _ _ T3 (mkF m 16 #[.val (.ref b2x4_14c5015), .val (.ref w_NONE)] [(.int (0 : Int32)), (.ref b2x4_14c5015)])
  have f4 := (P2.wr W3)
  have f5 := (P5.other W3 (Or.inr (slot_ne (Or.inl (own_w hw 93 rfl)) (Or.inl (own_w hw 49 rfl)) (by decide) (t := .boolean) (t' := (.object own_s2)) (by decide) (by decide))))
  obtain ⟨T6, h6, X6, e6, W6, st6⟩ := putFN X3 hx hZ hown (own_w hw 92 rfl) Via.refl e3 f5 f4 (Or.inl (own_w hw 93 rfl)) (own_w hw 34 rfl) (ty := .boolean) (v' := (.int (0 : Int32))) (by decide) rfl rfl (g := (mkF m 16 #[.val (.ref b2x4_14c5015), .val (.ref w_NONE)] [(.int (0 : Int32)), (.ref b2x4_14c5015)])) rfl rfl (hb hby own_d12_16)
  refine own_st st6 ?_
  have K6 : Keep h0 h6 [b2x4_14c5015] := K3.wr W6 (Or.inl (List.mem_of_getElem? (i := 0) rfl))
  have Z6 := Nat.le_trans Z3 (Keep.of_wr W6).1
  have N6 := Fr.snoc X6 N3 g_b2x4_14c5015
  have F6 := f5.same W6
  refine own_st (fun t k => XS.aloadN X6.here hx rfl (hb hby own_d12_19) rfl rfl k) ?_
  refine own_st (fun t k => XS.aloadN X6.here hx rfl (hb hby own_d12_20) rfl rfl k) ?_
  show own_Go _ _ _ _ T6 (mkF m 21 #[.val (.ref b2x4_14c5015), .val (.ref w_NONE)] [(.ref b2x4_14c5015), (.ref b2x4_14c5015)])
  have f7 := (F3.other W6 (Or.inr (slot_ne (Or.inl (own_w hw 49 rfl)) (Or.inl (own_w hw 93 rfl)) (by decide) (t := (.object own_s2)) (t' := .boolean) (by decide) (by decide))))
  obtain ⟨T8, X8, e8, st8⟩ := getF X6 hx hZ hown (host := "") (Or.inl (own_w hw 48 rfl)) Via.refl e6 f7 (g := (mkF m 21 #[.val (.ref b2x4_14c5015), .val (.ref w_NONE)] [(.ref b2x4_14c5015), (.ref b2x4_14c5015)])) rfl rfl (hb hby own_d12_21)
  refine own_st st8 ?_
  refine own_st (fun t k => XS.aloadN X8.here hx rfl (hb hby own_d12_24) rfl rfl k) ?_
  show own_Go _ _ _ _ T8 (mkF m 25 #[.val (.ref b2x4_14c5015), .val (.ref w_NONE)] [(.ref w_NONE), (.ref w_EMPTY), (.ref b2x4_14c5015)])
  have f9 := (P6.keep K6 (ninS (ne_exa P9 P2 (by decide)) nin0))
  have f10 := (P7.keep K6 (ninS (Ne.symm (own_nev P2 (own_w hw 34 rfl) P7)) nin0))
  have f11 := (P8.keep K6)
  have f12 := (P9.keep K6)
  obtain ⟨cq13, kq13, q13a, q13b, q13c⟩ := isOf hZ e8 f12
  obtain ⟨_, _, ⟨T13, L13, k13, n13⟩, -, X13, ⟨Lc13, hQ13, l13, y13, z13⟩, st13⟩ := X8.virtualBack hx (y := own_y8) (z := own_y8) hown (mvT hZ (own_w hw 94 rfl)) (mvT hZ (own_w hw 95 rfl)) (notFace_of_selects (args := #[]) (mvT hZ (own_w hw 97 rfl))) (mvT hZ (own_w hw 97 rfl)) (mvT hZ (own_w hw 96 rfl)) (by decide) (backOf (W := 1) (own_rm13_68 l Z a0 hw [] w_EMPTY w_NONE w_EMPTY_parts k_w_EMPTY_parts h6 n0 Z6 f9 f10 f11 f12) hZ (own_w hw 98 rfl) (own_w hw 46 rfl) (by decide) (by decide)) q13a q13c (g := (mkF m 25 #[.val (.ref b2x4_14c5015), .val (.ref w_NONE)] [(.ref w_NONE), (.ref w_EMPTY), (.ref b2x4_14c5015)])) rfl (by rw [hml]; rfl) (Steps.refl _) (argsL := [(.ref w_NONE)]) (rest := [(.ref b2x4_14c5015)]) (lenOf own_pd9 rfl) rfl (by show 2 * 0 + _ ≤ _; exact Nat.le_of_eq rfl) (hb hby own_d12_25) (fun _ _ => ⟨rfl, e8, (by decide : 0 + 2 ≤ _), (by decide : 0 + 2 ≤ _)⟩)
  dsimp only [Pt.U, Pt.locs, Pt.cells, Pt.slots] at X13 l13 y13 z13 st13 hQ13
  subst l13 y13 z13
  obtain ⟨N13q, Kq13, hL13⟩ := hQ13
  have N13 := Fr.app N6 N13q
  have K13 : Keep h0 T13.heap [b2x4_14c5015] := K6.trans Kq13 all0
  have Z13 := Nat.le_trans Z6 Kq13.1
  rcases hL13 with ⟨b6x14_69c4c13, b3x14_69c4c13, k3x14_69c4c13, rfl, hq13_0_0, sq_b6x14_69c4c13, sq_b3x14_69c4c13, Fc13_0_0, Fc13_0_1, Fc13_0_2, OFc13_0_2, Fc13_0_3, -⟩
  · skip
    have g_b6x14_69c4c13 : n0 ≤ b6x14_69c4c13 := Nat.le_trans Z6 sq_b6x14_69c4c13
    have sz_b6x14_69c4c13 : h0.size ≤ b6x14_69c4c13 := Nat.le_trans K6.1 sq_b6x14_69c4c13
    have g_b3x14_69c4c13 : n0 ≤ b3x14_69c4c13 := Nat.le_trans Z6 sq_b3x14_69c4c13
    have sz_b3x14_69c4c13 : h0.size ≤ b3x14_69c4c13 := Nat.le_trans K6.1 sq_b3x14_69c4c13
    refine own_st (fun t k => st13.trans k) ?_
    show own_Go _ _ _ _ T13 (mkF m 28 #[.val (.ref b2x4_14c5015), .val (.ref w_NONE)] [(.ref b6x14_69c4c13), (.ref b2x4_14c5015)])
    have f14 := (P2.keep K13)
    have f15 := (f7.keep Kq13 nin0)
    obtain ⟨T16, h16, X16, e16, W16, st16⟩ := putF X13 hx hZ hown (host := "") (Or.inl (own_w hw 48 rfl)) Via.refl rfl f15 f14 (Or.inl (own_w hw 49 rfl)) (own_w hw 34 rfl) (ty := (.object own_s2)) (by decide) rfl rfl (g := (mkF m 28 #[.val (.ref b2x4_14c5015), .val (.ref w_NONE)] [(.ref b6x14_69c4c13), (.ref b2x4_14c5015)])) rfl rfl (hb hby own_d12_28)
    refine own_st st16 ?_
    have K16 : Keep h0 h16 [b2x4_14c5015] := K13.wr W16 (Or.inl (List.mem_of_getElem? (i := 0) rfl))
    have Z16 := Nat.le_trans Z13 (Keep.of_wr W16).1
    have N16 := Fr.snoc X16 N13 g_b2x4_14c5015
    have F16 := f15.same W16
    show own_Go _ _ _ _ T16 (mkF m 31 #[.val (.ref b2x4_14c5015), .val (.ref w_NONE)] [])
    have f17 := ((((P0.other W3 (Or.inr (slot_ne (Or.inl (own_w hw 79 rfl)) (Or.inl (own_w hw 49 rfl)) (by decide) (t := .int) (t' := (.object own_s2)) (by decide) (by decide)))).other W6 (Or.inr (slot_ne (Or.inl (own_w hw 79 rfl)) (Or.inl (own_w hw 93 rfl)) (by decide) (t := .int) (t' := .boolean) (by decide) (by decide)))).keep Kq13 nin0).other W16 (Or.inr (slot_ne (Or.inl (own_w hw 79 rfl)) (Or.inl (own_w hw 49 rfl)) (by decide) (t := .int) (t' := (.object own_s2)) (by decide) (by decide))))
    have f18 := ((F6.keep Kq13 nin0).other W16 (Or.inr (slot_ne (Or.inl (own_w hw 93 rfl)) (Or.inl (own_w hw 49 rfl)) (by decide) (t := .boolean) (t' := (.object own_s2)) (by decide) (by decide))))
    have f19 := ((((P10.other W3 (Or.inr (slot_ne (Or.inr (own_w hw 53 rfl)) (Or.inl (own_w hw 49 rfl)) (by decide) (t := (.array (.object own_s1))) (t' := (.object own_s2)) (by decide) (by decide)))).other W6 (Or.inr (slot_ne (Or.inr (own_w hw 53 rfl)) (Or.inl (own_w hw 93 rfl)) (by decide) (t := (.array (.object own_s1))) (t' := .boolean) (by decide) (by decide)))).keep Kq13 nin0).other W16 (Or.inr (slot_ne (Or.inr (own_w hw 53 rfl)) (Or.inl (own_w hw 49 rfl)) (by decide) (t := (.array (.object own_s1))) (t' := (.object own_s2)) (by decide) (by decide))))
    have f20 := (Fc13_0_0.wr W16)
    have ne21 : b2x4_14c5015 ≠ b6x14_69c4c13 := Nat.ne_of_lt (Nat.lt_of_lt_of_le P0.lt sz_b6x14_69c4c13)
    have f22 := (Fc13_0_1.other W16 (Or.inl (Ne.symm ne21)))
    have ne23 : b2x4_14c5015 ≠ b3x14_69c4c13 := Nat.ne_of_lt (Nat.lt_of_lt_of_le P0.lt sz_b3x14_69c4c13)
    have f24 := (Fc13_0_2.other W16 (Ne.symm ne23))
    have f25 := (Fc13_0_3.wr W16)
    exact own_retV X16 hx hlk hret (hb hby own_d12_31) (by decide) (by decide) e16 ⟨N16, K16, ⟨b6x14_69c4c13, b3x14_69c4c13, _, rfl, hq13_0_0, sz_b6x14_69c4c13, sz_b3x14_69c4c13, f17, F16, f18, f19, f20, f22, f24, OFc13_0_2, f25, trivial⟩⟩
theorem own_pd10 : parseMethodDescriptor own_s13 = some ⟨[(.object own_s3)], none⟩ := by decide +kernel
theorem own_d9_0 : decode prog_4_method_2_code 0 = .ok (.aload_n 0, 1) := by decide +kernel
theorem own_d9_1 : decode prog_4_method_2_code 1 = .ok (.aload_n 1, 1) := by decide +kernel
theorem own_d9_2 : decode prog_4_method_2_code 2 = .ok (.invokevirtual 17, 3) := by decide +kernel
theorem own_d9_5 : decode prog_4_method_2_code 5 = .ok (.istore_n 2, 1) := by decide +kernel
theorem own_d9_6 : decode prog_4_method_2_code 6 = .ok (.aload_n 0, 1) := by decide +kernel
theorem own_d9_7 : decode prog_4_method_2_code 7 = .ok (.getfield 21, 3) := by decide +kernel
theorem own_d9_10 : decode prog_4_method_2_code 10 = .ok (.bipush 64, 2) := by decide +kernel
theorem own_d9_12 : decode prog_4_method_2_code 12 = .ok (.if_icmp .ge 51, 3) := by decide +kernel
theorem own_d9_15 : decode prog_4_method_2_code 15 = .ok (.aload_n 0, 1) := by decide +kernel
theorem own_d9_16 : decode prog_4_method_2_code 16 = .ok (.aload_n 1, 1) := by decide +kernel
theorem own_d9_17 : decode prog_4_method_2_code 17 = .ok (.invokevirtual 25, 3) := by decide +kernel
theorem own_d9_20 : decode prog_4_method_2_code 20 = .ok (.invokevirtual 29, 3) := by decide +kernel
theorem own_d9_23 : decode prog_4_method_2_code 23 = .ok (.aload_n 0, 1) := by decide +kernel
theorem own_d9_24 : decode prog_4_method_2_code 24 = .ok (.getfield 11, 3) := by decide +kernel
theorem own_d9_27 : decode prog_4_method_2_code 27 = .ok (.iload_n 2, 1) := by decide +kernel
theorem own_d9_28 : decode prog_4_method_2_code 28 = .ok (.aload_n 0, 1) := by decide +kernel
theorem own_d9_29 : decode prog_4_method_2_code 29 = .ok (.getfield 11, 3) := by decide +kernel
theorem own_d9_32 : decode prog_4_method_2_code 32 = .ok (.iload_n 2, 1) := by decide +kernel
theorem own_d9_33 : decode prog_4_method_2_code 33 = .ok (.iconst 1, 1) := by decide +kernel
theorem own_d9_34 : decode prog_4_method_2_code 34 = .ok (.iadd, 1) := by decide +kernel
theorem own_d9_35 : decode prog_4_method_2_code 35 = .ok (.aload_n 0, 1) := by decide +kernel
theorem own_d9_36 : decode prog_4_method_2_code 36 = .ok (.getfield 21, 3) := by decide +kernel
theorem own_d9_39 : decode prog_4_method_2_code 39 = .ok (.iload_n 2, 1) := by decide +kernel
theorem own_d9_40 : decode prog_4_method_2_code 40 = .ok (.isub, 1) := by decide +kernel
theorem own_d9_41 : decode prog_4_method_2_code 41 = .ok (.invokestatic 33, 3) := by decide +kernel
theorem own_d9_44 : decode prog_4_method_2_code 44 = .ok (.aload_n 0, 1) := by decide +kernel
theorem own_d9_45 : decode prog_4_method_2_code 45 = .ok (.getfield 11, 3) := by decide +kernel
theorem own_d9_48 : decode prog_4_method_2_code 48 = .ok (.iload_n 2, 1) := by decide +kernel
theorem own_d9_49 : decode prog_4_method_2_code 49 = .ok (.aload_n 1, 1) := by decide +kernel
theorem own_d9_50 : decode prog_4_method_2_code 50 = .ok (.aastore, 1) := by decide +kernel
theorem own_d9_51 : decode prog_4_method_2_code 51 = .ok (.aload_n 0, 1) := by decide +kernel
theorem own_d9_52 : decode prog_4_method_2_code 52 = .ok (.dup, 1) := by decide +kernel
theorem own_d9_53 : decode prog_4_method_2_code 53 = .ok (.getfield 21, 3) := by decide +kernel
theorem own_d9_56 : decode prog_4_method_2_code 56 = .ok (.iconst 1, 1) := by decide +kernel
theorem own_d9_57 : decode prog_4_method_2_code 57 = .ok (.iadd, 1) := by decide +kernel
theorem own_d9_58 : decode prog_4_method_2_code 58 = .ok (.putfield 21, 3) := by decide +kernel
theorem own_d9_61 : decode prog_4_method_2_code 61 = .ok (.aconst_null, 1) := by decide +kernel
theorem own_d9_62 : decode prog_4_method_2_code 62 = .ok (.areturn, 1) := by decide +kernel
theorem own_ef9 (m : MethodId) (x0 : Addr) (x1 : Addr) : entryFrame m #[(.ref x0), (.ref x1)] 4 = mkF m 0 #[.val (.ref x0), .val (.ref x1), .unset, .unset] [] := by first | (simp [entryFrame, mkF, argsToLocals, Value.category]; done) | rfl
def own_Q9_60 (Z : State) (b2x4_14c5015 : Addr) (b5001 : Addr) (w_NONE : Addr) (w_EMPTY : Addr) (w_EMPTY_parts : Addr) (k_w_EMPTY_parts : ClassId) (b2x5_18c4c5015 : Addr) (k2x5_18c4c5015 : ClassId) (h0 : Heap) (n0 : Nat) (v : Option Value) (h : Heap) (L : List Loc) : Prop := Fr n0 L ∧ Keep h0 h [b2x4_14c5015, b2x5_18c4c5015] ∧ ((∃ b6x14_69c4c13c16 : Addr, ∃ b3x14_69c4c13c16 : Addr, ∃ k2x5_18c4c5015 : ClassId, ∃ k3x14_69c4c13c16 : ClassId, v = some .null ∧ ((0 : Int32) < ((0 : Int32) + (1 : Int32))) ∧ h0.size ≤ b6x14_69c4c13c16 ∧ h0.size ≤ b3x14_69c4c13c16 ∧ Fld Z h b2x4_14c5015 own_s0 "count" "I" (.int ((0 : Int32) + (1 : Int32))) ∧ Fld Z h b2x4_14c5015 own_s0 "least" own_s6 (.ref b6x14_69c4c13c16) ∧ Fld Z h b2x4_14c5015 own_s0 "stale" "Z" (.int (0 : Int32)) ∧ Fld Z h b2x4_14c5015 own_s5 "items" own_s8 (.ref b2x5_18c4c5015) ∧ Arv Z h b2x5_18c4c5015 k2x5_18c4c5015 (.object own_s1) (64 : Int32) [(.ref b5001)] .null ∧ Ovr Z k2x5_18c4c5015 own_s1 ∧ Exa Z h b6x14_69c4c13c16 own_s2 ∧ Fld Z h b6x14_69c4c13c16 own_s2 "parts" own_s9 (.ref b3x14_69c4c13c16) ∧ Arv Z h b3x14_69c4c13c16 k3x14_69c4c13c16 (.object own_s3) ((0 : Int32) + (1 : Int32)) [(.ref w_NONE)] .null ∧ Ovr Z k3x14_69c4c13c16 own_s3 ∧ Exa Z h b3x14_69c4c13c16 own_s9 ∧ True))
set_option maxRecDepth 65536 in
set_option maxHeartbeats 40000000 in
theorem own_rm9_60 (l : Launch) (Z : State) (a0 : Array Value) (hw : ∀ d ∈ tables_1, d.before a0 Z = true) (ws : List Jvm.Cond) (b2x4_14c5015 : Addr) (b5001 : Addr) (w_NONE : Addr) (w_EMPTY : Addr) (w_EMPTY_parts : Addr) (k_w_EMPTY_parts : ClassId) (b2x5_18c4c5015 : Addr) (k2x5_18c4c5015 : ClassId) (h0 : Heap) (n0 : Nat) (Z0 : n0 ≤ h0.size) (P0 : Fld Z h0 b2x4_14c5015 own_s0 "count" "I" (.int (0 : Int32))) (P1 : Exa Z h0 b2x4_14c5015 own_s5) (P2 : Fld Z h0 b5001 own_s1 "needs" "Lcom/example/lonborg/lonborg/Resources;" (.ref w_NONE)) (P3 : Exa Z h0 b5001 own_s1) (P4 : Sta Z h0 own_s2 "EMPTY" own_s6 (.ref w_EMPTY)) (P5 : Fld Z h0 b2x4_14c5015 own_s0 "least" own_s6 (.ref w_EMPTY)) (P6 : Fld Z h0 b2x4_14c5015 own_s0 "stale" "Z" (.int (0 : Int32))) (P7 : Fld Z h0 w_EMPTY own_s2 "parts" own_s9 (.ref w_EMPTY_parts)) (P8 : Arv Z h0 w_EMPTY_parts k_w_EMPTY_parts (.object own_s3) (0 : Int32) [] .null) (P9 : Exa Z h0 w_NONE own_s3) (P10 : Exa Z h0 w_EMPTY own_s2) (P11 : Fld Z h0 b2x4_14c5015 own_s5 "items" own_s8 (.ref b2x5_18c4c5015)) (g_b2x4_14c5015 : n0 ≤ b2x4_14c5015) (P13 : Arv Z h0 b2x5_18c4c5015 k2x5_18c4c5015 (.object own_s1) (64 : Int32) [] .null) (OFc5015_0_7 : Ovr Z k2x5_18c4c5015 own_s1) (P15 : Exa Z h0 b2x5_18c4c5015 own_s8) (g_b2x5_18c4c5015 : n0 ≤ b2x5_18c4c5015) :
    MetFree l own_y11 (head1 (Jvm.Cond.code own_y11 prog_4_method_2_code 4 (some (.object own_s0)) :: ws) ({ frames := 5, cells := 2, slots := 2, locals := 72 } : Room)) (fun a U => a = #[(.ref b2x4_14c5015), (.ref b5001)] ∧ Z.Warmed39 U.vm ∧ U.heap = h0) (fun _ _ _ _ _ => True) (fun _ U o U' => ∃ v L, o = .returned v ∧ own_Q9_60 Z b2x4_14c5015 b5001 w_NONE w_EMPTY w_EMPTY_parts k_w_EMPTY_parts b2x5_18c4c5015 k2x5_18c4c5015 h0 n0 v U'.heap L ∧ FrameEnd U o U' L ({ frames := 5, cells := 2, slots := 2, locals := 72 } : Room).cells ({ frames := 5, cells := 2, slots := 2, locals := 72 } : Room).slots) := by
  refine MetFree.of_bodySF (plainFor_of_name own_pn2) hisR ?_
  intro p e s m args below meth c s₁ Bd hml0 hP hK
  obtain ⟨rfl, hZ, hh⟩ := hP
  have hx := Bd.exec
  have hlk := Bd.notSynchronized
  have hret := Bd.returns
  have hby := Bd.bytes
  have hml : c.maxLocals = 4 := hml0
  have hown : s.vm.findClass own_s5 = some m.cls := findClass_of_methodNamed Bd.named
  have hnm := (name_of_methodNamed Bd.named Bd.method).1
  have X0 : Stand p l e ({ frames := 5, cells := 2, slots := 2, locals := 72 } : Room) s m #[(.ref b2x4_14c5015), (.ref b5001)] below meth c s₁ [] 0 0 := Stand.of_body Bd
  have e0 : s₁.heap = h0 := by rw [← hh, Bd.state]; rfl
  have N0 := Fr.nil n0
  refine own_open (Q := own_Q9_60 Z b2x4_14c5015 b5001 w_NONE w_EMPTY w_EMPTY_parts k_w_EMPTY_parts b2x5_18c4c5015 k2x5_18c4c5015 h0 n0) (own_ef9 m b2x4_14c5015 b5001) ?_
  refine own_st (fun t k => XS.aloadN X0.here hx rfl (hb hby own_d9_0) rfl rfl k) ?_
  refine own_st (fun t k => XS.aloadN X0.here hx rfl (hb hby own_d9_1) rfl rfl k) ?_
  show own_Go _ _ _ _ s₁ (mkF m 2 #[.val (.ref b2x4_14c5015), .val (.ref b5001), .unset, .unset] [(.ref b5001), (.ref b2x4_14c5015)])
  obtain ⟨cq1, q1, q1'⟩ := P1.cell
  obtain ⟨_, _, ⟨T1, L1, k1, n1⟩, -, X1, ⟨Lc1, hQ1, l1, y1, z1⟩, st1⟩ := X0.privateBack hx (y := own_y4) hown (mvT hZ (own_w hw 73 rfl)) (mvT hZ (own_w hw 74 rfl)) (own_psel hZ (own_w hw 34 rfl) (own_w hw 75 rfl) (own_w hw 74 rfl) (by decide)) (Cond.privateMethod_at (mvP hZ (own_w hw 75 rfl) (args := #[]))) (mvT hZ (own_w hw 76 rfl)) (by decide) (backOf (W := 0) (own_rm10_61 l Z a0 hw [] b2x4_14c5015 b5001 h0 n0 Z0 P0) hZ (own_w hw 76 rfl) (own_w hw 35 rfl) (by decide) (by decide)) (g := (mkF m 2 #[.val (.ref b2x4_14c5015), .val (.ref b5001), .unset, .unset] [(.ref b5001), (.ref b2x4_14c5015)])) rfl (by rw [hml]; rfl) (Steps.refl _) (a := b2x4_14c5015) (by rw [e0]; exact q1) q1' (argsL := [(.ref b5001)]) (rest := []) (lenOf own_pd4 rfl) rfl (by show 2 * 0 + _ ≤ _; exact Nat.le_of_eq rfl) (hb hby own_d9_2) (fun _ _ => ⟨rfl, e0, (by decide : 0 + 0 ≤ _), (by decide : 0 + 0 ≤ _)⟩)
  dsimp only [Pt.U, Pt.locs, Pt.cells, Pt.slots] at X1 l1 y1 z1 st1 hQ1
  subst l1 y1 z1
  obtain ⟨N1q, Kq1, hL1⟩ := hQ1
  have N1 := Fr.app N0 N1q
  have K1 : Keep h0 T1.heap [b2x4_14c5015, b2x5_18c4c5015] := (Keep.refl h0 [b2x4_14c5015, b2x5_18c4c5015]).trans Kq1 all0
  have Z1 := Nat.le_trans Z0 Kq1.1
  rcases hL1 with ⟨rfl, -⟩
  · skip
    refine own_st (fun t k => st1.trans k) ?_
    show own_Go _ _ _ _ T1 (mkF m 5 #[.val (.ref b2x4_14c5015), .val (.ref b5001), .unset, .unset] [(.int (0 : Int32))])
    refine own_st (fun t k => XS.istoreN X1.here hx rfl (hb hby own_d9_5) rfl (l' := #[.val (.ref b2x4_14c5015), .val (.ref b5001), .val (.int (0 : Int32)), .unset]) rfl k) ?_
    refine own_st (fun t k => XS.aloadN X1.here hx rfl (hb hby own_d9_6) rfl rfl k) ?_
    show own_Go _ _ _ _ T1 (mkF m 7 #[.val (.ref b2x4_14c5015), .val (.ref b5001), .val (.int (0 : Int32)), .unset] [(.ref b2x4_14c5015)])
    have f2 := (P0.keep Kq1 nin0)
    obtain ⟨T3, X3, e3, st3⟩ := getF X1 hx hZ hown (host := "") (Or.inl (own_w hw 77 rfl)) (Via.of (own_w hw 78 rfl)) rfl f2 (g := (mkF m 7 #[.val (.ref b2x4_14c5015), .val (.ref b5001), .val (.int (0 : Int32)), .unset] [(.ref b2x4_14c5015)])) rfl rfl (hb hby own_d9_7)
    refine own_st st3 ?_
    refine own_st (fun t k => XS.bipush X3.here hx rfl (hb hby own_d9_10) k) ?_
    show own_Go _ _ _ _ T3 (mkF m 12 #[.val (.ref b2x4_14c5015), .val (.ref b5001), .val (.int (0 : Int32)), .unset] [(.int (64 : Int32)), (.int (0 : Int32))])
    refine own_st (fun t k => XS.icmpNo X3.here hx rfl (hb hby own_d9_12) rfl (tlt (by decide : (0 : Int32) < (64 : Int32))).2.1 k) ?_
    refine own_st (fun t k => XS.aloadN X3.here hx rfl (hb hby own_d9_15) rfl rfl k) ?_
    refine own_st (fun t k => XS.aloadN X3.here hx rfl (hb hby own_d9_16) rfl rfl k) ?_
    show own_Go _ _ _ _ T3 (mkF m 17 #[.val (.ref b2x4_14c5015), .val (.ref b5001), .val (.int (0 : Int32)), .unset] [(.ref b5001), (.ref b2x4_14c5015)])
    have f4 := (P2.keep Kq1 nin0)
    have f6 := (P3.keep Kq1)
    obtain ⟨cq5, kq5, q5a, q5b, q5c⟩ := isOf hZ e3 f6
    obtain ⟨_, _, ⟨T5, L5, k5, n5⟩, -, X5, ⟨Lc5, hQ5, l5, y5, z5⟩, st5⟩ := X3.virtualBack hx (y := own_y0) (z := own_y0) hown (mvT hZ (own_w hw 80 rfl)) (mvT hZ (own_w hw 81 rfl)) (notFace_of_selects (args := #[]) (mvT hZ (own_w hw 83 rfl))) (mvT hZ (own_w hw 83 rfl)) (mvT hZ (own_w hw 82 rfl)) (by decide) (backOf (W := 1) (own_rm11 l Z a0 hw [] b5001 w_NONE T1.heap n0 Z1 f4) hZ (own_w hw 84 rfl) (own_w hw 5 rfl) (by decide) (by decide)) q5a q5c (g := (mkF m 17 #[.val (.ref b2x4_14c5015), .val (.ref b5001), .val (.int (0 : Int32)), .unset] [(.ref b5001), (.ref b2x4_14c5015)])) rfl (by rw [hml]; rfl) (Steps.refl _) (argsL := []) (rest := [(.ref b2x4_14c5015)]) (lenOf own_pd5 rfl) rfl (by show 2 * 0 + _ ≤ _; exact Nat.le_of_eq rfl) (hb hby own_d9_17) (fun _ _ => ⟨rfl, e3, (by decide : 0 + 0 ≤ _), (by decide : 0 + 0 ≤ _)⟩)
    dsimp only [Pt.U, Pt.locs, Pt.cells, Pt.slots] at X5 l5 y5 z5 st5 hQ5
    subst l5 y5 z5
    obtain ⟨N5q, e5, hL5⟩ := hQ5
    have N5 := Fr.app N1 N5q
    rcases hL5 with ⟨rfl, -⟩
    · skip
      refine own_st (fun t k => st5.trans k) ?_
      show own_Go _ _ _ _ T5 (mkF m 20 #[.val (.ref b2x4_14c5015), .val (.ref b5001), .val (.int (0 : Int32)), .unset] [(.ref w_NONE), (.ref b2x4_14c5015)])
      have f7 := (own_stak P4 Kq1 all0)
      have f8 := (P1.keep Kq1)
      have f9 := (P5.keep Kq1 nin0)
      have f10 := (P6.keep Kq1 nin0)
      have f11 := (P7.keep Kq1 nin0)
      have f12 := (P8.keep Kq1 nin0)
      have f13 := (P9.keep Kq1)
      have f14 := (P10.keep Kq1)
      have f15 := (P11.keep Kq1 nin0)
      obtain ⟨cq16, kq16, q16a, q16b, q16c⟩ := isOf hZ e5 f8
      obtain ⟨_, _, ⟨T16, L16, k16, n16⟩, -, X16, ⟨Lc16, hQ16, l16, y16, z16⟩, st16⟩ := X5.virtualBackUp hx (owner := own_s0) (x := own_y14) (y := own_y6) hown (mvT hZ (own_w hw 85 rfl)) (mvT hZ (own_w hw 86 rfl)) (mvT hZ (own_w hw 87 rfl)) (by decide) (mvT hZ (own_w hw 89 rfl)) (mvT hZ (own_w hw 88 rfl)) (backOf (W := 0) (own_rm12_67 l Z a0 hw [] b2x4_14c5015 w_NONE w_EMPTY w_EMPTY_parts k_w_EMPTY_parts b2x5_18c4c5015 T1.heap n0 Z1 f2 f7 f8 f9 g_b2x4_14c5015 f10 f11 f12 f13 f14 f15) hZ (own_w hw 90 rfl) (own_w hw 42 rfl) (by decide) (by decide)) q16a q16c (g := (mkF m 20 #[.val (.ref b2x4_14c5015), .val (.ref b5001), .val (.int (0 : Int32)), .unset] [(.ref w_NONE), (.ref b2x4_14c5015)])) rfl (by rw [hml]; rfl) (Steps.refl _) (argsL := [(.ref w_NONE)]) (rest := []) (lenOf own_pd10 rfl) rfl (by show 2 * 0 + _ ≤ _; exact Nat.le_of_eq rfl) (hb hby own_d9_20) (fun _ _ => ⟨rfl, e5, (by decide : 0 + 2 ≤ _), (by decide : 0 + 2 ≤ _)⟩)
      dsimp only [Pt.U, Pt.locs, Pt.cells, Pt.slots] at X16 l16 y16 z16 st16 hQ16
      subst l16 y16 z16
      obtain ⟨N16q, Kq16, hL16⟩ := hQ16
      have N16 := Fr.app N5 N16q
      have K16 : Keep h0 T16.heap [b2x4_14c5015, b2x5_18c4c5015] := K1.trans Kq16 (allS (Or.inl (List.mem_of_getElem? (i := 0) rfl)) all0)
      have Z16 := Nat.le_trans Z1 Kq16.1
      rcases hL16 with ⟨b6x14_69c4c13c16, b3x14_69c4c13c16, k3x14_69c4c13c16, rfl, hq16_0_0, sq_b6x14_69c4c13c16, sq_b3x14_69c4c13c16, Fc16_0_0, Fc16_0_1, Fc16_0_2, Fc16_0_3, Fc16_0_4, Fc16_0_5, Fc16_0_6, OFc16_0_6, Fc16_0_7, -⟩
      · skip
        have g_b6x14_69c4c13c16 : n0 ≤ b6x14_69c4c13c16 := Nat.le_trans Z1 sq_b6x14_69c4c13c16
        have sz_b6x14_69c4c13c16 : h0.size ≤ b6x14_69c4c13c16 := Nat.le_trans K1.1 sq_b6x14_69c4c13c16
        have g_b3x14_69c4c13c16 : n0 ≤ b3x14_69c4c13c16 := Nat.le_trans Z1 sq_b3x14_69c4c13c16
        have sz_b3x14_69c4c13c16 : h0.size ≤ b3x14_69c4c13c16 := Nat.le_trans K1.1 sq_b3x14_69c4c13c16
        refine own_st (fun t k => st16.trans k) ?_
        refine own_st (fun t k => XS.aloadN X16.here hx rfl (hb hby own_d9_23) rfl rfl k) ?_
        show own_Go _ _ _ _ T16 (mkF m 24 #[.val (.ref b2x4_14c5015), .val (.ref b5001), .val (.int (0 : Int32)), .unset] [(.ref b2x4_14c5015)])
        obtain ⟨T17, X17, e17, st17⟩ := getF X16 hx hZ hown (host := "") (Or.inl (own_w hw 52 rfl)) Via.refl rfl Fc16_0_3 (g := (mkF m 24 #[.val (.ref b2x4_14c5015), .val (.ref b5001), .val (.int (0 : Int32)), .unset] [(.ref b2x4_14c5015)])) rfl rfl (hb hby own_d9_24)
        refine own_st st17 ?_
        refine own_st (fun t k => XS.iloadN X17.here hx rfl (hb hby own_d9_27) rfl k) ?_
        show own_Go _ _ _ _ T17 (mkF m 28 #[.val (.ref b2x4_14c5015), .val (.ref b5001), .val (.int (0 : Int32)), .unset] [(.int (0 : Int32)), (.ref b2x5_18c4c5015)])
        refine own_st (fun t k => XS.aloadN X17.here hx rfl (hb hby own_d9_28) rfl rfl k) ?_
        show own_Go _ _ _ _ T17 (mkF m 29 #[.val (.ref b2x4_14c5015), .val (.ref b5001), .val (.int (0 : Int32)), .unset] [(.ref b2x4_14c5015), (.int (0 : Int32)), (.ref b2x5_18c4c5015)])
        obtain ⟨T18, X18, e18, st18⟩ := getF X17 hx hZ hown (host := "") (Or.inl (own_w hw 52 rfl)) Via.refl e17 Fc16_0_3 (g := (mkF m 29 #[.val (.ref b2x4_14c5015), .val (.ref b5001), .val (.int (0 : Int32)), .unset] [(.ref b2x4_14c5015), (.int (0 : Int32)), (.ref b2x5_18c4c5015)])) rfl rfl (hb hby own_d9_29)
        refine own_st st18 ?_
        refine own_st (fun t k => XS.iloadN X18.here hx rfl (hb hby own_d9_32) rfl k) ?_
        refine own_st (fun t k => XS.iconst X18.here hx rfl (hb hby own_d9_33) k) ?_
        show own_Go _ _ _ _ T18 (mkF m 34 #[.val (.ref b2x4_14c5015), .val (.ref b5001), .val (.int (0 : Int32)), .unset] [(.int (1 : Int32)), (.int (0 : Int32)), (.ref b2x5_18c4c5015), (.int (0 : Int32)), (.ref b2x5_18c4c5015)])
        refine own_st (fun t k => XS.iadd X18.here hx rfl (hb hby own_d9_34) rfl k) ?_
        refine own_st (fun t k => XS.aloadN X18.here hx rfl (hb hby own_d9_35) rfl rfl k) ?_
        show own_Go _ _ _ _ T18 (mkF m 36 #[.val (.ref b2x4_14c5015), .val (.ref b5001), .val (.int (0 : Int32)), .unset] [(.ref b2x4_14c5015), (.int ((0 : Int32) + (1 : Int32))), (.ref b2x5_18c4c5015), (.int (0 : Int32)), (.ref b2x5_18c4c5015)])
        obtain ⟨T19, X19, e19, st19⟩ := getF X18 hx hZ hown (host := "") (Or.inl (own_w hw 77 rfl)) (Via.of (own_w hw 78 rfl)) e18 Fc16_0_0 (g := (mkF m 36 #[.val (.ref b2x4_14c5015), .val (.ref b5001), .val (.int (0 : Int32)), .unset] [(.ref b2x4_14c5015), (.int ((0 : Int32) + (1 : Int32))), (.ref b2x5_18c4c5015), (.int (0 : Int32)), (.ref b2x5_18c4c5015)])) rfl rfl (hb hby own_d9_36)
        refine own_st st19 ?_
        refine own_st (fun t k => XS.iloadN X19.here hx rfl (hb hby own_d9_39) rfl k) ?_
        show own_Go _ _ _ _ T19 (mkF m 40 #[.val (.ref b2x4_14c5015), .val (.ref b5001), .val (.int (0 : Int32)), .unset] [(.int (0 : Int32)), (.int (0 : Int32)), (.int ((0 : Int32) + (1 : Int32))), (.ref b2x5_18c4c5015), (.int (0 : Int32)), (.ref b2x5_18c4c5015)])
        refine own_st (fun t k => XS.isub X19.here hx rfl (hb hby own_d9_40) rfl k) ?_
        show own_Go _ _ _ _ T19 (mkF m 41 #[.val (.ref b2x4_14c5015), .val (.ref b5001), .val (.int (0 : Int32)), .unset] [(.int ((0 : Int32) - (0 : Int32))), (.int ((0 : Int32) + (1 : Int32))), (.ref b2x5_18c4c5015), (.int (0 : Int32)), (.ref b2x5_18c4c5015)])
        have f21 := ((P13.keep Kq1 nin0).keep Kq16 (ninS (ne_exa P15 P1 (by decide)) nin0))
        obtain ⟨T20, X20, e20, st20⟩ := own_cp0 X19 hx hZ hown (own_w hw 118 rfl) (own_w hw 121 rfl) (own_w hw 119 rfl) (own_w hw 120 rfl) e19 f21 f21 (sp := (0 : Int32)) (dp := ((0 : Int32) + (1 : Int32))) (nn := ((0 : Int32) - (0 : Int32))) rfl (Or.inr ⟨rfl, rfl⟩) (by decide) (by decide) (by decide) (by decide) (g := (mkF m 41 #[.val (.ref b2x4_14c5015), .val (.ref b5001), .val (.int (0 : Int32)), .unset] [(.int ((0 : Int32) - (0 : Int32))), (.int ((0 : Int32) + (1 : Int32))), (.ref b2x5_18c4c5015), (.int (0 : Int32)), (.ref b2x5_18c4c5015)])) rfl (by rw [hml]; rfl) rfl (hb hby own_d9_41) (by decide) (W := 0) (by show 2 * 0 + _ ≤ _; exact Nat.le_of_eq rfl) (by decide)
        refine own_st st20 ?_
        refine own_st (fun t k => XS.aloadN X20.here hx rfl (hb hby own_d9_44) rfl rfl k) ?_
        show own_Go _ _ _ _ T20 (mkF m 45 #[.val (.ref b2x4_14c5015), .val (.ref b5001), .val (.int (0 : Int32)), .unset] [(.ref b2x4_14c5015)])
        obtain ⟨T22, X22, e22, st22⟩ := getF X20 hx hZ hown (host := "") (Or.inl (own_w hw 52 rfl)) Via.refl e20 Fc16_0_3 (g := (mkF m 45 #[.val (.ref b2x4_14c5015), .val (.ref b5001), .val (.int (0 : Int32)), .unset] [(.ref b2x4_14c5015)])) rfl rfl (hb hby own_d9_45)
        refine own_st st22 ?_
        show own_Go _ _ _ _ T22 (mkF m 48 #[.val (.ref b2x4_14c5015), .val (.ref b5001), .val (.int (0 : Int32)), .unset] [(.ref b2x5_18c4c5015)])
        refine own_st (fun t k => XS.iloadN X22.here hx rfl (hb hby own_d9_48) rfl k) ?_
        refine own_st (fun t k => XS.aloadN X22.here hx rfl (hb hby own_d9_49) rfl rfl k) ?_
        show own_Go _ _ _ _ T22 (mkF m 50 #[.val (.ref b2x4_14c5015), .val (.ref b5001), .val (.int (0 : Int32)), .unset] [(.ref b5001), (.int (0 : Int32)), (.ref b2x5_18c4c5015)])
        have Pd23 := f21.pad (pad_rep [] .null 1)
        obtain ⟨c23, A23, q23, S23, M23, H23, G23⟩ := Pd23
        have f24 := (f6.keep Kq16)
        obtain ⟨T23, h23, X23, e23, W23, st23⟩ := stR X22 hx hZ e22 A23 (j := (0 : Int32)) (inb_of S23 ⟨by decide, by decide⟩) rfl (Sto.ofV A23 q23 OFc5015_0_7 (Ins.self f24)) (g := (mkF m 50 #[.val (.ref b2x4_14c5015), .val (.ref b5001), .val (.int (0 : Int32)), .unset] [(.ref b5001), (.int (0 : Int32)), (.ref b2x5_18c4c5015)])) rfl rfl (hb hby own_d9_50)
        refine own_st st23 ?_
        have K23 : Keep h0 h23 [b2x4_14c5015, b2x5_18c4c5015] := K16.wr W23 (Or.inl (List.mem_of_getElem? (i := 1) rfl))
        have Z23 := Nat.le_trans Z16 (Keep.of_wr W23).1
        have N23 := Fr.snoc X23 N16 g_b2x5_18c4c5015
        have V23 : Arv Z h23 b2x5_18c4c5015 k2x5_18c4c5015 (.object own_s1) (64 : Int32) [(.ref b5001)] .null := Arv.set A23 q23 S23 M23 H23 G23 rfl W23 0 rfl (Nat.le_of_ble_eq_true rfl)
        refine own_st (fun t k => XS.aloadN X23.here hx rfl (hb hby own_d9_51) rfl rfl k) ?_
        show own_Go _ _ _ _ T23 (mkF m 52 #[.val (.ref b2x4_14c5015), .val (.ref b5001), .val (.int (0 : Int32)), .unset] [(.ref b2x4_14c5015)])
        refine own_st (fun t k => XS.dup X23.here hx rfl (hb hby own_d9_52) rfl rfl k) ?_
        show own_Go _ _ _ _ T23 (mkF m 53 #[.val (.ref b2x4_14c5015), .val (.ref b5001), .val (.int (0 : Int32)), .unset] [(.ref b2x4_14c5015), (.ref b2x4_14c5015)])
        have f25 := (Fc16_0_0.other W23 (Or.inl (ne_exa P1 P15 (by decide))))
        obtain ⟨T26, X26, e26, st26⟩ := getF X23 hx hZ hown (host := "") (Or.inl (own_w hw 77 rfl)) (Via.of (own_w hw 78 rfl)) e23 f25 (g := (mkF m 53 #[.val (.ref b2x4_14c5015), .val (.ref b5001), .val (.int (0 : Int32)), .unset] [(.ref b2x4_14c5015), (.ref b2x4_14c5015)])) rfl rfl (hb hby own_d9_53)
        refine own_st st26 ?_
        refine own_st (fun t k => XS.iconst X26.here hx rfl (hb hby own_d9_56) k) ?_
        refine own_st (fun t k => XS.iadd X26.here hx rfl (hb hby own_d9_57) rfl k) ?_
        show own_Go _ _ _ _ T26 (mkF m 58 #[.val (.ref b2x4_14c5015), .val (.ref b5001), .val (.int (0 : Int32)), .unset] [(.int ((0 : Int32) + (1 : Int32))), (.ref b2x4_14c5015)])
        have f27 := (P1.keep K23)
        obtain ⟨T28, h28, X28, e28, W28, st28⟩ := putF X26 hx hZ hown (host := "") (Or.inl (own_w hw 77 rfl)) (Via.of (own_w hw 78 rfl)) e26 f25 f27 (Or.inl (own_w hw 79 rfl)) (own_w hw 34 rfl) (ty := .int) (by decide) rfl rfl (g := (mkF m 58 #[.val (.ref b2x4_14c5015), .val (.ref b5001), .val (.int (0 : Int32)), .unset] [(.int ((0 : Int32) + (1 : Int32))), (.ref b2x4_14c5015)])) rfl rfl (hb hby own_d9_58)
        refine own_st st28 ?_
        have K28 : Keep h0 h28 [b2x4_14c5015, b2x5_18c4c5015] := K23.wr W28 (Or.inl (List.mem_of_getElem? (i := 0) rfl))
        have Z28 := Nat.le_trans Z23 (Keep.of_wr W28).1
        have N28 := Fr.snoc X28 N23 g_b2x4_14c5015
        have F28 := f25.same W28
        refine own_st (fun t k => XS.aconstNull X28.here hx rfl (hb hby own_d9_61) k) ?_
        show own_Go _ _ _ _ T28 (mkF m 62 #[.val (.ref b2x4_14c5015), .val (.ref b5001), .val (.int (0 : Int32)), .unset] [.null])
        have f29 := ((Fc16_0_1.other W23 (Or.inl (ne_exa P1 P15 (by decide)))).other W28 (Or.inr (slot_ne (Or.inl (own_w hw 49 rfl)) (Or.inl (own_w hw 79 rfl)) (by decide) (t := (.object own_s2)) (t' := .int) (by decide) (by decide))))
        have f30 := ((Fc16_0_2.other W23 (Or.inl (ne_exa P1 P15 (by decide)))).other W28 (Or.inr (slot_ne (Or.inl (own_w hw 93 rfl)) (Or.inl (own_w hw 79 rfl)) (by decide) (t := .boolean) (t' := .int) (by decide) (by decide))))
        have f31 := ((Fc16_0_3.other W23 (Or.inl (ne_exa P1 P15 (by decide)))).other W28 (Or.inr (slot_ne (Or.inr (own_w hw 53 rfl)) (Or.inl (own_w hw 79 rfl)) (by decide) (t := (.array (.object own_s1))) (t' := .int) (by decide) (by decide))))
        have f32 := (V23.other W28 (ne_exa P15 P1 (by decide)))
        have f33 := ((Fc16_0_4.wr W23).wr W28)
        have ne34 : b2x5_18c4c5015 ≠ b6x14_69c4c13c16 := Nat.ne_of_lt (Nat.lt_of_lt_of_le P13.lt sz_b6x14_69c4c13c16)
        have ne35 : b2x4_14c5015 ≠ b6x14_69c4c13c16 := Nat.ne_of_lt (Nat.lt_of_lt_of_le P0.lt sz_b6x14_69c4c13c16)
        have f36 := ((Fc16_0_5.other W23 (Or.inl (Ne.symm ne34))).other W28 (Or.inl (Ne.symm ne35)))
        have ne37 : b2x5_18c4c5015 ≠ b3x14_69c4c13c16 := Nat.ne_of_lt (Nat.lt_of_lt_of_le P13.lt sz_b3x14_69c4c13c16)
        have ne38 : b2x4_14c5015 ≠ b3x14_69c4c13c16 := Nat.ne_of_lt (Nat.lt_of_lt_of_le P0.lt sz_b3x14_69c4c13c16)
        have f39 := ((Fc16_0_6.other W23 (Ne.symm ne37)).other W28 (Ne.symm ne38))
        have f40 := ((Fc16_0_7.wr W23).wr W28)
        exact own_retA X28 hx hlk hret rfl rfl (hb hby own_d9_62) (by decide) (by decide) e28 ⟨N28, K28, ⟨b6x14_69c4c13c16, b3x14_69c4c13c16, _, _, rfl, hq16_0_0, sz_b6x14_69c4c13c16, sz_b3x14_69c4c13c16, F28, f29, f30, f31, f32, OFc5015_0_7, f33, f36, f39, OFc16_0_6, f40, trivial⟩⟩
theorem own_pd11 : parseMethodDescriptor own_s10 = some ⟨[(.object own_s1)], some (.object own_s0)⟩ := by decide +kernel
theorem own_d8_0 : decode prog_2_method_2_code 0 = .ok (.aload_n 0, 1) := by decide +kernel
theorem own_d8_1 : decode prog_2_method_2_code 1 = .ok (.getfield 10, 3) := by decide +kernel
theorem own_d8_4 : decode prog_2_method_2_code 4 = .ok (.aload_n 1, 1) := by decide +kernel
theorem own_d8_5 : decode prog_2_method_2_code 5 = .ok (.invokevirtual 16, 3) := by decide +kernel
theorem own_d8_8 : decode prog_2_method_2_code 8 = .ok (.astore_n 2, 1) := by decide +kernel
theorem own_d8_9 : decode prog_2_method_2_code 9 = .ok (.aload_n 2, 1) := by decide +kernel
theorem own_d8_10 : decode prog_2_method_2_code 10 = .ok (.ifnull 19, 3) := by decide +kernel
theorem own_d8_29 : decode prog_2_method_2_code 29 = .ok (.aload_n 0, 1) := by decide +kernel
theorem own_d8_30 : decode prog_2_method_2_code 30 = .ok (.dup, 1) := by decide +kernel
theorem own_d8_31 : decode prog_2_method_2_code 31 = .ok (.getfield 27, 3) := by decide +kernel
theorem own_d8_34 : decode prog_2_method_2_code 34 = .ok (.lconst 1, 1) := by decide +kernel
theorem own_d8_35 : decode prog_2_method_2_code 35 = .ok (.ladd, 1) := by decide +kernel
theorem own_d8_36 : decode prog_2_method_2_code 36 = .ok (.putfield 27, 3) := by decide +kernel
theorem own_d8_39 : decode prog_2_method_2_code 39 = .ok (.return_, 1) := by decide +kernel
theorem own_ef8 (m : MethodId) (x0 : Addr) (x1 : Addr) : entryFrame m #[(.ref x0), (.ref x1)] 3 = mkF m 0 #[.val (.ref x0), .val (.ref x1), .unset] [] := by first | (simp [entryFrame, mkF, argsToLocals, Value.category]; done) | rfl
def own_Q8_47 (Z : State) (b5013 : Addr) (b5001 : Addr) (b2x4_14c5015 : Addr) (w_NONE : Addr) (w_EMPTY : Addr) (w_EMPTY_parts : Addr) (k_w_EMPTY_parts : ClassId) (b2x5_18c4c5015 : Addr) (k2x5_18c4c5015 : ClassId) (h0 : Heap) (n0 : Nat) (v : Option Value) (h : Heap) (L : List Loc) : Prop := Fr n0 L ∧ Keep h0 h [b2x5_18c4c5015, b2x4_14c5015, b5013] ∧ ((∃ b6x14_69c4c13c16c2 : Addr, ∃ b3x14_69c4c13c16c2 : Addr, ∃ k2x5_18c4c5015c2 : ClassId, ∃ k3x14_69c4c13c16c2 : ClassId, v = none ∧ ((0 : Int32) < ((0 : Int32) + (1 : Int32))) ∧ h0.size ≤ b6x14_69c4c13c16c2 ∧ h0.size ≤ b3x14_69c4c13c16c2 ∧ Arv Z h b2x5_18c4c5015 k2x5_18c4c5015c2 (.object own_s1) (64 : Int32) [(.ref b5001)] .null ∧ Ovr Z k2x5_18c4c5015c2 own_s1 ∧ Fld Z h b2x4_14c5015 own_s0 "count" "I" (.int ((0 : Int32) + (1 : Int32))) ∧ Fld Z h b2x4_14c5015 own_s0 "least" own_s6 (.ref b6x14_69c4c13c16c2) ∧ Fld Z h b2x4_14c5015 own_s0 "stale" "Z" (.int (0 : Int32)) ∧ Fld Z h b2x4_14c5015 own_s5 "items" own_s8 (.ref b2x5_18c4c5015) ∧ Fld Z h b5013 own_s4 "root" "Lcom/example/lonborg/lonborg/ItemTree$Node;" (.ref b2x4_14c5015) ∧ Fld Z h b5013 own_s4 "size" "J" (.long ((0 : Int64) + (1 : Int64))) ∧ Exa Z h b6x14_69c4c13c16c2 own_s2 ∧ Fld Z h b6x14_69c4c13c16c2 own_s2 "parts" own_s9 (.ref b3x14_69c4c13c16c2) ∧ Arv Z h b3x14_69c4c13c16c2 k3x14_69c4c13c16c2 (.object own_s3) ((0 : Int32) + (1 : Int32)) [(.ref w_NONE)] .null ∧ Ovr Z k3x14_69c4c13c16c2 own_s3 ∧ Exa Z h b3x14_69c4c13c16c2 own_s9 ∧ True))
set_option maxRecDepth 65536 in
set_option maxHeartbeats 40000000 in
theorem own_rm8_47 (l : Launch) (Z : State) (a0 : Array Value) (hw : ∀ d ∈ tables_1, d.before a0 Z = true) (ws : List Jvm.Cond) (b5013 : Addr) (b5001 : Addr) (b2x4_14c5015 : Addr) (w_NONE : Addr) (w_EMPTY : Addr) (w_EMPTY_parts : Addr) (k_w_EMPTY_parts : ClassId) (b2x5_18c4c5015 : Addr) (k2x5_18c4c5015 : ClassId) (h0 : Heap) (n0 : Nat) (Z0 : n0 ≤ h0.size) (P0 : Fld Z h0 b5013 own_s4 "root" "Lcom/example/lonborg/lonborg/ItemTree$Node;" (.ref b2x4_14c5015)) (P1 : Fld Z h0 b2x4_14c5015 own_s0 "count" "I" (.int (0 : Int32))) (P2 : Exa Z h0 b2x4_14c5015 own_s5) (P3 : Fld Z h0 b5001 own_s1 "needs" "Lcom/example/lonborg/lonborg/Resources;" (.ref w_NONE)) (P4 : Exa Z h0 b5001 own_s1) (P5 : Sta Z h0 own_s2 "EMPTY" own_s6 (.ref w_EMPTY)) (P6 : Fld Z h0 b2x4_14c5015 own_s0 "least" own_s6 (.ref w_EMPTY)) (P7 : Fld Z h0 b2x4_14c5015 own_s0 "stale" "Z" (.int (0 : Int32))) (P8 : Fld Z h0 w_EMPTY own_s2 "parts" own_s9 (.ref w_EMPTY_parts)) (P9 : Arv Z h0 w_EMPTY_parts k_w_EMPTY_parts (.object own_s3) (0 : Int32) [] .null) (P10 : Exa Z h0 w_NONE own_s3) (P11 : Exa Z h0 w_EMPTY own_s2) (P12 : Fld Z h0 b2x4_14c5015 own_s5 "items" own_s8 (.ref b2x5_18c4c5015)) (P13 : Arv Z h0 b2x5_18c4c5015 k2x5_18c4c5015 (.object own_s1) (64 : Int32) [] .null) (OFc5015_0_7 : Ovr Z k2x5_18c4c5015 own_s1) (P15 : Exa Z h0 b2x5_18c4c5015 own_s8) (g_b2x4_14c5015 : n0 ≤ b2x4_14c5015) (g_b2x5_18c4c5015 : n0 ≤ b2x5_18c4c5015) (P18 : Fld Z h0 b5013 own_s4 "size" "J" (.long (0 : Int64))) (P19 : Exa Z h0 b5013 own_s4) (g_b5013 : n0 ≤ b5013) :
    MetFree l own_y2 (head1 (Jvm.Cond.code own_y2 prog_2_method_2_code 3 none :: ws) ({ frames := 6, cells := 2, slots := 2, locals := 87 } : Room)) (fun a U => a = #[(.ref b5013), (.ref b5001)] ∧ Z.Warmed39 U.vm ∧ U.heap = h0) (fun _ _ _ _ _ => True) (fun _ U o U' => ∃ v L, o = .returned v ∧ own_Q8_47 Z b5013 b5001 b2x4_14c5015 w_NONE w_EMPTY w_EMPTY_parts k_w_EMPTY_parts b2x5_18c4c5015 k2x5_18c4c5015 h0 n0 v U'.heap L ∧ FrameEnd U o U' L ({ frames := 6, cells := 2, slots := 2, locals := 87 } : Room).cells ({ frames := 6, cells := 2, slots := 2, locals := 87 } : Room).slots) := by
  refine MetFree.of_bodySF (plainFor_of_name own_pn3) hisR ?_
  intro p e s m args below meth c s₁ Bd hml0 hP hK
  obtain ⟨rfl, hZ, hh⟩ := hP
  have hx := Bd.exec
  have hlk := Bd.notSynchronized
  have hret := Bd.returns
  have hby := Bd.bytes
  have hml : c.maxLocals = 3 := hml0
  have hown : s.vm.findClass own_s4 = some m.cls := findClass_of_methodNamed Bd.named
  have hnm := (name_of_methodNamed Bd.named Bd.method).1
  have X0 : Stand p l e ({ frames := 6, cells := 2, slots := 2, locals := 87 } : Room) s m #[(.ref b5013), (.ref b5001)] below meth c s₁ [] 0 0 := Stand.of_body Bd
  have e0 : s₁.heap = h0 := by rw [← hh, Bd.state]; rfl
  have N0 := Fr.nil n0
  refine own_open (Q := own_Q8_47 Z b5013 b5001 b2x4_14c5015 w_NONE w_EMPTY w_EMPTY_parts k_w_EMPTY_parts b2x5_18c4c5015 k2x5_18c4c5015 h0 n0) (own_ef8 m b5013 b5001) ?_
  refine own_st (fun t k => XS.aloadN X0.here hx rfl (hb hby own_d8_0) rfl rfl k) ?_
  show own_Go _ _ _ _ s₁ (mkF m 1 #[.val (.ref b5013), .val (.ref b5001), .unset] [(.ref b5013)])
  obtain ⟨T1, X1, e1, st1⟩ := getF X0 hx hZ hown (host := "") (Or.inl (own_w hw 54 rfl)) Via.refl e0 P0 (g := (mkF m 1 #[.val (.ref b5013), .val (.ref b5001), .unset] [(.ref b5013)])) rfl rfl (hb hby own_d8_1)
  refine own_st st1 ?_
  refine own_st (fun t k => XS.aloadN X1.here hx rfl (hb hby own_d8_4) rfl rfl k) ?_
  show own_Go _ _ _ _ T1 (mkF m 5 #[.val (.ref b5013), .val (.ref b5001), .unset] [(.ref b5001), (.ref b2x4_14c5015)])
  obtain ⟨cq2, kq2, q2a, q2b, q2c⟩ := isOf hZ e1 P2
  obtain ⟨_, _, ⟨T2, L2, k2, n2⟩, -, X2, ⟨Lc2, hQ2, l2, y2, z2⟩, st2⟩ := X1.virtualBack hx (y := (⟨own_s0, "add", own_s10⟩ : MethodName)) (z := own_y11) hown (mvT hZ (own_w hw 68 rfl)) (mvT hZ (own_w hw 69 rfl)) (own_nf (args := #[]) (mvT hZ (own_w hw 89 rfl)) rfl) (mvT hZ (own_w hw 70 rfl)) (mvT hZ (own_w hw 71 rfl)) (by decide) (backOf (W := 0) (own_rm9_60 l Z a0 hw [] b2x4_14c5015 b5001 w_NONE w_EMPTY w_EMPTY_parts k_w_EMPTY_parts b2x5_18c4c5015 k2x5_18c4c5015 h0 n0 Z0 P1 P2 P3 P4 P5 P6 P7 P8 P9 P10 P11 P12 g_b2x4_14c5015 P13 OFc5015_0_7 P15 g_b2x5_18c4c5015) hZ (own_w hw 72 rfl) (own_w hw 35 rfl) (by decide) (by decide)) q2a q2c (g := (mkF m 5 #[.val (.ref b5013), .val (.ref b5001), .unset] [(.ref b5001), (.ref b2x4_14c5015)])) rfl (by rw [hml]; rfl) (Steps.refl _) (argsL := [(.ref b5001)]) (rest := []) (lenOf own_pd11 rfl) rfl (by show 2 * 0 + _ ≤ _; exact Nat.le_of_eq rfl) (hb hby own_d8_5) (fun _ _ => ⟨rfl, e1, (by decide : 0 + 2 ≤ _), (by decide : 0 + 2 ≤ _)⟩)
  dsimp only [Pt.U, Pt.locs, Pt.cells, Pt.slots] at X2 l2 y2 z2 st2 hQ2
  subst l2 y2 z2
  obtain ⟨N2q, Kq2, hL2⟩ := hQ2
  have N2 := Fr.app N0 N2q
  have K2 : Keep h0 T2.heap [b2x5_18c4c5015, b2x4_14c5015, b5013] := (Keep.refl h0 [b2x5_18c4c5015, b2x4_14c5015, b5013]).trans Kq2 (allS (Or.inl (List.mem_of_getElem? (i := 1) rfl)) (allS (Or.inl (List.mem_of_getElem? (i := 0) rfl)) all0))
  have Z2 := Nat.le_trans Z0 Kq2.1
  rcases hL2 with ⟨b6x14_69c4c13c16c2, b3x14_69c4c13c16c2, k2x5_18c4c5015c2, k3x14_69c4c13c16c2, rfl, hq2_0_0, sq_b6x14_69c4c13c16c2, sq_b3x14_69c4c13c16c2, Fc2_0_0, Fc2_0_1, Fc2_0_2, Fc2_0_3, Fc2_0_4, OFc2_0_4, Fc2_0_5, Fc2_0_6, Fc2_0_7, OFc2_0_7, Fc2_0_8, -⟩
  · skip
    have g_b6x14_69c4c13c16c2 : n0 ≤ b6x14_69c4c13c16c2 := Nat.le_trans Z0 sq_b6x14_69c4c13c16c2
    have sz_b6x14_69c4c13c16c2 : h0.size ≤ b6x14_69c4c13c16c2 := Nat.le_trans (Keep.refl h0 [b2x5_18c4c5015, b2x4_14c5015, b5013]).1 sq_b6x14_69c4c13c16c2
    have g_b3x14_69c4c13c16c2 : n0 ≤ b3x14_69c4c13c16c2 := Nat.le_trans Z0 sq_b3x14_69c4c13c16c2
    have sz_b3x14_69c4c13c16c2 : h0.size ≤ b3x14_69c4c13c16c2 := Nat.le_trans (Keep.refl h0 [b2x5_18c4c5015, b2x4_14c5015, b5013]).1 sq_b3x14_69c4c13c16c2
    refine own_st (fun t k => st2.trans k) ?_
    refine own_st (fun t k => XS.astoreN X2.here hx rfl (hb hby own_d8_8) rfl rfl (l' := #[.val (.ref b5013), .val (.ref b5001), .val .null]) rfl k) ?_
    refine own_st (fun t k => XS.aloadN X2.here hx rfl (hb hby own_d8_9) rfl rfl k) ?_
    refine own_st (fun t k => XS.ifnullYes X2.here hx rfl (pc0 := 10) (pc' := 29) rfl (hb hby own_d8_10) rfl (by decide) (by decide) k) ?_
    show own_Go _ _ _ _ T2 (mkF m 29 #[.val (.ref b5013), .val (.ref b5001), .val .null] [])
    refine own_st (fun t k => XS.aloadN X2.here hx rfl (hb hby own_d8_29) rfl rfl k) ?_
    refine own_st (fun t k => XS.dup X2.here hx rfl (hb hby own_d8_30) rfl rfl k) ?_
    show own_Go _ _ _ _ T2 (mkF m 31 #[.val (.ref b5013), .val (.ref b5001), .val .null] [(.ref b5013), (.ref b5013)])
    have f3 := (P18.keep Kq2 (ninS (ne_exa P19 P2 (by decide)) (ninS (ne_exa P19 P15 (by decide)) nin0)))
    obtain ⟨T4, X4, e4, st4⟩ := getF X2 hx hZ hown (host := "") (Or.inl (own_w hw 61 rfl)) Via.refl rfl f3 (g := (mkF m 31 #[.val (.ref b5013), .val (.ref b5001), .val .null] [(.ref b5013), (.ref b5013)])) rfl rfl (hb hby own_d8_31)
    refine own_st st4 ?_
    refine own_st (fun t k => XS.lconst X4.here hx rfl (hb hby own_d8_34) k) ?_
    show own_Go _ _ _ _ T4 (mkF m 35 #[.val (.ref b5013), .val (.ref b5001), .val .null] [(.long (1 : Int64)), (.long (0 : Int64)), (.ref b5013)])
    refine own_st (fun t k => XS.ladd X4.here hx rfl (hb hby own_d8_35) rfl k) ?_
    show own_Go _ _ _ _ T4 (mkF m 36 #[.val (.ref b5013), .val (.ref b5001), .val .null] [(.long ((0 : Int64) + (1 : Int64))), (.ref b5013)])
    have f5 := (P19.keep Kq2)
    obtain ⟨T6, h6, X6, e6, W6, st6⟩ := putF X4 hx hZ hown (host := "") (Or.inl (own_w hw 61 rfl)) Via.refl e4 f3 f5 (Or.inl (own_w hw 62 rfl)) (own_w hw 27 rfl) (ty := .long) (by decide) rfl rfl (g := (mkF m 36 #[.val (.ref b5013), .val (.ref b5001), .val .null] [(.long ((0 : Int64) + (1 : Int64))), (.ref b5013)])) rfl rfl (hb hby own_d8_36)
    refine own_st st6 ?_
    have K6 : Keep h0 h6 [b2x5_18c4c5015, b2x4_14c5015, b5013] := K2.wr W6 (Or.inl (List.mem_of_getElem? (i := 2) rfl))
    have Z6 := Nat.le_trans Z2 (Keep.of_wr W6).1
    have N6 := Fr.snoc X6 N2 g_b5013
    have F6 := f3.same W6
    show own_Go _ _ _ _ T6 (mkF m 39 #[.val (.ref b5013), .val (.ref b5001), .val .null] [])
    have f7 := (Fc2_0_4.other W6 (ne_exa P15 P19 (by decide)))
    have f8 := (Fc2_0_0.other W6 (Or.inl (ne_exa P2 P19 (by decide))))
    have f9 := (Fc2_0_1.other W6 (Or.inl (ne_exa P2 P19 (by decide))))
    have f10 := (Fc2_0_2.other W6 (Or.inl (ne_exa P2 P19 (by decide))))
    have f11 := (Fc2_0_3.other W6 (Or.inl (ne_exa P2 P19 (by decide))))
    have f12 := ((P0.keep Kq2 (ninS (ne_exa P19 P2 (by decide)) (ninS (ne_exa P19 P15 (by decide)) nin0))).other W6 (Or.inr (slot_ne (Or.inl (own_w hw 55 rfl)) (Or.inl (own_w hw 62 rfl)) (by decide) (t := (.object own_s0)) (t' := .long) (by decide) (by decide))))
    have f13 := (Fc2_0_5.wr W6)
    have ne14 : b5013 ≠ b6x14_69c4c13c16c2 := Nat.ne_of_lt (Nat.lt_of_lt_of_le P0.lt sz_b6x14_69c4c13c16c2)
    have f15 := (Fc2_0_6.other W6 (Or.inl (Ne.symm ne14)))
    have ne16 : b5013 ≠ b3x14_69c4c13c16c2 := Nat.ne_of_lt (Nat.lt_of_lt_of_le P0.lt sz_b3x14_69c4c13c16c2)
    have f17 := (Fc2_0_7.other W6 (Ne.symm ne16))
    have f18 := (Fc2_0_8.wr W6)
    exact own_retV X6 hx hlk hret (hb hby own_d8_39) (by decide) (by decide) e6 ⟨N6, K6, ⟨b6x14_69c4c13c16c2, b3x14_69c4c13c16c2, _, _, rfl, hq2_0_0, sz_b6x14_69c4c13c16c2, sz_b3x14_69c4c13c16c2, f7, OFc2_0_4, f8, f9, f10, f11, f12, F6, f13, f15, f17, OFc2_0_7, f18, trivial⟩⟩
theorem own_pd12 : parseMethodDescriptor own_s14 = some ⟨[(.object own_s1)], none⟩ := by decide +kernel
theorem own_d22_0 : decode prog_4_method_4_code 0 = .ok (.aload_n 0, 1) := by decide +kernel
theorem own_d22_1 : decode prog_4_method_4_code 1 = .ok (.getfield 11, 3) := by decide +kernel
theorem own_d22_4 : decode prog_4_method_4_code 4 = .ok (.aload_n 0, 1) := by decide +kernel
theorem own_d22_5 : decode prog_4_method_4_code 5 = .ok (.getfield 21, 3) := by decide +kernel
theorem own_d22_8 : decode prog_4_method_4_code 8 = .ok (.iconst 1, 1) := by decide +kernel
theorem own_d22_9 : decode prog_4_method_4_code 9 = .ok (.isub, 1) := by decide +kernel
theorem own_d22_10 : decode prog_4_method_4_code 10 = .ok (.aaload, 1) := by decide +kernel
theorem own_d22_11 : decode prog_4_method_4_code 11 = .ok (.areturn, 1) := by decide +kernel
theorem own_ef22 (m : MethodId) (x0 : Addr) : entryFrame m #[(.ref x0)] 1 = mkF m 0 #[.val (.ref x0)] [] := by first | (simp [entryFrame, mkF, argsToLocals, Value.category]; done) | rfl
def own_Q22_73 (Z : State) (b2x4_14c5015 : Addr) (b2x5_18c4c5015 : Addr) (k2x5_18c4c5015c2c5029 : ClassId) (b5001 : Addr) (h0 : Heap) (n0 : Nat) (v : Option Value) (h : Heap) (L : List Loc) : Prop := Fr n0 L ∧ Keep h0 h [] ∧ ((v = some (.ref b5001) ∧ True))
set_option maxRecDepth 65536 in
set_option maxHeartbeats 40000000 in
theorem own_rm22_73 (l : Launch) (Z : State) (a0 : Array Value) (hw : ∀ d ∈ tables_1, d.before a0 Z = true) (ws : List Jvm.Cond) (b2x4_14c5015 : Addr) (b2x5_18c4c5015 : Addr) (k2x5_18c4c5015c2c5029 : ClassId) (b5001 : Addr) (h0 : Heap) (n0 : Nat) (Z0 : n0 ≤ h0.size) (P0 : Fld Z h0 b2x4_14c5015 own_s5 "items" own_s8 (.ref b2x5_18c4c5015)) (P1 : Fld Z h0 b2x4_14c5015 own_s0 "count" "I" (.int ((0 : Int32) + (1 : Int32)))) (P2 : Arv Z h0 b2x5_18c4c5015 k2x5_18c4c5015c2c5029 (.object own_s1) (64 : Int32) [(.ref b5001)] .null) (OFc5029_0_0 : Ovr Z k2x5_18c4c5015c2c5029 own_s1) :
    MetFree l own_y12 (head1 (Jvm.Cond.code own_y12 prog_4_method_4_code 1 (some (.object own_s1)) :: ws) ({ frames := 0, cells := 0, slots := 0, locals := 0 } : Room)) (fun a U => a = #[(.ref b2x4_14c5015)] ∧ Z.Warmed39 U.vm ∧ U.heap = h0) (fun _ _ _ _ _ => True) (fun _ U o U' => ∃ v L, o = .returned v ∧ own_Q22_73 Z b2x4_14c5015 b2x5_18c4c5015 k2x5_18c4c5015c2c5029 b5001 h0 n0 v U'.heap L ∧ FrameEnd U o U' L ({ frames := 0, cells := 0, slots := 0, locals := 0 } : Room).cells ({ frames := 0, cells := 0, slots := 0, locals := 0 } : Room).slots) := by
  refine MetFree.of_bodySF (plainFor_of_name own_pn2) hisR ?_
  intro p e s m args below meth c s₁ Bd hml0 hP hK
  obtain ⟨rfl, hZ, hh⟩ := hP
  have hx := Bd.exec
  have hlk := Bd.notSynchronized
  have hret := Bd.returns
  have hby := Bd.bytes
  have hml : c.maxLocals = 1 := hml0
  have hown : s.vm.findClass own_s5 = some m.cls := findClass_of_methodNamed Bd.named
  have hnm := (name_of_methodNamed Bd.named Bd.method).1
  have X0 : Stand p l e ({ frames := 0, cells := 0, slots := 0, locals := 0 } : Room) s m #[(.ref b2x4_14c5015)] below meth c s₁ [] 0 0 := Stand.of_body Bd
  have e0 : s₁.heap = h0 := by rw [← hh, Bd.state]; rfl
  have N0 := Fr.nil n0
  refine own_open (Q := own_Q22_73 Z b2x4_14c5015 b2x5_18c4c5015 k2x5_18c4c5015c2c5029 b5001 h0 n0) (own_ef22 m b2x4_14c5015) ?_
  refine own_st (fun t k => XS.aloadN X0.here hx rfl (hb hby own_d22_0) rfl rfl k) ?_
  show own_Go _ _ _ _ s₁ (mkF m 1 #[.val (.ref b2x4_14c5015)] [(.ref b2x4_14c5015)])
  obtain ⟨T1, X1, e1, st1⟩ := getF X0 hx hZ hown (host := "") (Or.inl (own_w hw 52 rfl)) Via.refl e0 P0 (g := (mkF m 1 #[.val (.ref b2x4_14c5015)] [(.ref b2x4_14c5015)])) rfl rfl (hb hby own_d22_1)
  refine own_st st1 ?_
  refine own_st (fun t k => XS.aloadN X1.here hx rfl (hb hby own_d22_4) rfl rfl k) ?_
  show own_Go _ _ _ _ T1 (mkF m 5 #[.val (.ref b2x4_14c5015)] [(.ref b2x4_14c5015), (.ref b2x5_18c4c5015)])
  obtain ⟨T2, X2, e2, st2⟩ := getF X1 hx hZ hown (host := "") (Or.inl (own_w hw 77 rfl)) (Via.of (own_w hw 78 rfl)) e1 P1 (g := (mkF m 5 #[.val (.ref b2x4_14c5015)] [(.ref b2x4_14c5015), (.ref b2x5_18c4c5015)])) rfl rfl (hb hby own_d22_5)
  refine own_st st2 ?_
  refine own_st (fun t k => XS.iconst X2.here hx rfl (hb hby own_d22_8) k) ?_
  refine own_st (fun t k => XS.isub X2.here hx rfl (hb hby own_d22_9) rfl k) ?_
  show own_Go _ _ _ _ T2 (mkF m 10 #[.val (.ref b2x4_14c5015)] [(.int (((0 : Int32) + (1 : Int32)) - (1 : Int32))), (.ref b2x5_18c4c5015)])
  refine own_st (own_aaload X2 hx hZ e2 P2 rfl (j := (((0 : Int32) + (1 : Int32)) - (1 : Int32))) (v := (.ref b5001)) ⟨by decide, by decide⟩ rfl (g := (mkF m 10 #[.val (.ref b2x4_14c5015)] [(.int (((0 : Int32) + (1 : Int32)) - (1 : Int32))), (.ref b2x5_18c4c5015)])) rfl rfl (hb hby own_d22_10)) ?_
  show own_Go _ _ _ _ T2 (mkF m 11 #[.val (.ref b2x4_14c5015)] [(.ref b5001)])
  exact own_retA X2 hx hlk hret rfl rfl (hb hby own_d22_11) (by decide) (by decide) e2 ⟨N0, (Keep.refl h0 []), ⟨rfl, trivial⟩⟩
theorem own_d7_13 : decode prog_2_method_4_code 13 = .ok (.aload_n 0, 1) := by decide +kernel
theorem own_d7_14 : decode prog_2_method_4_code 14 = .ok (.getfield 10, 3) := by decide +kernel
theorem own_d7_17 : decode prog_2_method_4_code 17 = .ok (.invokevirtual 35, 3) := by decide +kernel
def own_Q7_72 (Z : State) (b5013 : Addr) (b2x4_14c5015 : Addr) (b2x5_18c4c5015 : Addr) (k2x5_18c4c5015c2c5029 : ClassId) (b5001 : Addr) (h0 : Heap) (n0 : Nat) (v : Option Value) (h : Heap) (L : List Loc) : Prop := Fr n0 L ∧ Keep h0 h [] ∧ ((v = some (.ref b5001) ∧ True))
set_option maxRecDepth 65536 in
set_option maxHeartbeats 40000000 in
theorem own_rm7_72 (l : Launch) (Z : State) (a0 : Array Value) (hw : ∀ d ∈ tables_1, d.before a0 Z = true) (ws : List Jvm.Cond) (b5013 : Addr) (b2x4_14c5015 : Addr) (b2x5_18c4c5015 : Addr) (k2x5_18c4c5015c2c5029 : ClassId) (b5001 : Addr) (h0 : Heap) (n0 : Nat) (Z0 : n0 ≤ h0.size) (P0 : Fld Z h0 b5013 own_s4 "size" "J" (.long ((0 : Int64) + (1 : Int64)))) (P1 : Fld Z h0 b5013 own_s4 "root" "Lcom/example/lonborg/lonborg/ItemTree$Node;" (.ref b2x4_14c5015)) (P2 : Fld Z h0 b2x4_14c5015 own_s5 "items" own_s8 (.ref b2x5_18c4c5015)) (P3 : Fld Z h0 b2x4_14c5015 own_s0 "count" "I" (.int ((0 : Int32) + (1 : Int32)))) (P4 : Arv Z h0 b2x5_18c4c5015 k2x5_18c4c5015c2c5029 (.object own_s1) (64 : Int32) [(.ref b5001)] .null) (OFc5029_0_0 : Ovr Z k2x5_18c4c5015c2c5029 own_s1) (P6 : Exa Z h0 b2x4_14c5015 own_s5) :
    MetFree l own_y1 (head1 (Jvm.Cond.code own_y1 prog_2_method_4_code 1 (some (.object own_s1)) :: ws) ({ frames := 1, cells := 0, slots := 0, locals := 12 } : Room)) (fun a U => a = #[(.ref b5013)] ∧ Z.Warmed39 U.vm ∧ U.heap = h0) (fun _ _ _ _ _ => True) (fun _ U o U' => ∃ v L, o = .returned v ∧ own_Q7_72 Z b5013 b2x4_14c5015 b2x5_18c4c5015 k2x5_18c4c5015c2c5029 b5001 h0 n0 v U'.heap L ∧ FrameEnd U o U' L ({ frames := 1, cells := 0, slots := 0, locals := 12 } : Room).cells ({ frames := 1, cells := 0, slots := 0, locals := 12 } : Room).slots) := by
  refine MetFree.of_bodySF (plainFor_of_name own_pn3) hisR ?_
  intro p e s m args below meth c s₁ Bd hml0 hP hK
  obtain ⟨rfl, hZ, hh⟩ := hP
  have hx := Bd.exec
  have hlk := Bd.notSynchronized
  have hret := Bd.returns
  have hby := Bd.bytes
  have hml : c.maxLocals = 1 := hml0
  have hown : s.vm.findClass own_s4 = some m.cls := findClass_of_methodNamed Bd.named
  have hnm := (name_of_methodNamed Bd.named Bd.method).1
  have X0 : Stand p l e ({ frames := 1, cells := 0, slots := 0, locals := 12 } : Room) s m #[(.ref b5013)] below meth c s₁ [] 0 0 := Stand.of_body Bd
  have e0 : s₁.heap = h0 := by rw [← hh, Bd.state]; rfl
  have N0 := Fr.nil n0
  refine own_open (Q := own_Q7_72 Z b5013 b2x4_14c5015 b2x5_18c4c5015 k2x5_18c4c5015c2c5029 b5001 h0 n0) (own_ef7 m b5013) ?_
  refine own_st (fun t k => XS.aloadN X0.here hx rfl (hb hby own_d7_0) rfl rfl k) ?_
  show own_Go _ _ _ _ s₁ (mkF m 1 #[.val (.ref b5013)] [(.ref b5013)])
  obtain ⟨T1, X1, e1, st1⟩ := getF X0 hx hZ hown (host := "") (Or.inl (own_w hw 61 rfl)) Via.refl e0 P0 (g := (mkF m 1 #[.val (.ref b5013)] [(.ref b5013)])) rfl rfl (hb hby own_d7_1)
  refine own_st st1 ?_
  refine own_st (fun t k => XS.lconst X1.here hx rfl (hb hby own_d7_4) k) ?_
  show own_Go _ _ _ _ T1 (mkF m 5 #[.val (.ref b5013)] [(.long (0 : Int64)), (.long ((0 : Int64) + (1 : Int64)))])
  refine own_st (fun t k => XS.lcmp X1.here hx rfl (hb hby own_d7_5) rfl k) ?_
  show own_Go _ _ _ _ T1 (mkF m 6 #[.val (.ref b5013)] [(.int (lcmpW ((0 : Int64) + (1 : Int64)) (0 : Int64)))])
  refine own_st (fun t k => XS.ifYes X1.here hx rfl (pc0 := 6) (pc' := 13) rfl (hb hby own_d7_6) rfl ((if0 _ _).trans (feq (by decide : ¬ ((lcmpW ((0 : Int64) + (1 : Int64)) (0 : Int64)) = (0 : Int32)))).2) (by decide) (by decide) k) ?_
  refine own_st (fun t k => XS.aloadN X1.here hx rfl (hb hby own_d7_13) rfl rfl k) ?_
  show own_Go _ _ _ _ T1 (mkF m 14 #[.val (.ref b5013)] [(.ref b5013)])
  obtain ⟨T2, X2, e2, st2⟩ := getF X1 hx hZ hown (host := "") (Or.inl (own_w hw 54 rfl)) Via.refl e1 P1 (g := (mkF m 14 #[.val (.ref b5013)] [(.ref b5013)])) rfl rfl (hb hby own_d7_14)
  refine own_st st2 ?_
  show own_Go _ _ _ _ T2 (mkF m 17 #[.val (.ref b5013)] [(.ref b2x4_14c5015)])
  obtain ⟨cq3, kq3, q3a, q3b, q3c⟩ := isOf hZ e2 P6
  obtain ⟨_, _, ⟨T3, L3, k3, n3⟩, -, X3, ⟨Lc3, hQ3, l3, y3, z3⟩, st3⟩ := X2.virtualBack hx (y := (⟨own_s0, "last", own_s7⟩ : MethodName)) (z := own_y12) hown (mvT hZ (own_w hw 149 rfl)) (mvT hZ (own_w hw 150 rfl)) (own_nf (args := #[]) (mvT hZ (own_w hw 89 rfl)) rfl) (mvT hZ (own_w hw 151 rfl)) (mvT hZ (own_w hw 152 rfl)) (by decide) (backOf (W := 0) (own_rm22_73 l Z a0 hw [] b2x4_14c5015 b2x5_18c4c5015 k2x5_18c4c5015c2c5029 b5001 h0 n0 Z0 P2 P3 P4 OFc5029_0_0) hZ (own_w hw 153 rfl) (own_w hw 35 rfl) (by decide) (by decide)) q3a q3c (g := (mkF m 17 #[.val (.ref b5013)] [(.ref b2x4_14c5015)])) rfl (by rw [hml]; rfl) (Steps.refl _) (argsL := []) (rest := []) (lenOf own_pd3 rfl) rfl (by show 2 * 0 + _ ≤ _; exact Nat.le_of_eq rfl) (hb hby own_d7_17) (fun _ _ => ⟨rfl, e2, (by decide : 0 + 0 ≤ _), (by decide : 0 + 0 ≤ _)⟩)
  dsimp only [Pt.U, Pt.locs, Pt.cells, Pt.slots] at X3 l3 y3 z3 st3 hQ3
  subst l3 y3 z3
  obtain ⟨N3q, Kq3, hL3⟩ := hQ3
  have N3 := Fr.app N0 N3q
  have K3 : Keep h0 T3.heap [] := (Keep.refl h0 []).trans Kq3 all0
  have Z3 := Nat.le_trans Z0 Kq3.1
  rcases hL3 with ⟨rfl, -⟩
  · skip
    refine own_st (fun t k => st3.trans k) ?_
    show own_Go _ _ _ _ T3 (mkF m 20 #[.val (.ref b5013)] [(.ref b5001)])
    exact own_retA X3 hx hlk hret rfl rfl (hb hby own_d7_20) (by decide) (by decide) rfl ⟨N3, K3, ⟨rfl, trivial⟩⟩
theorem own_d17_0 : decode prog_1_method_4_code 0 = .ok (.aload_n 0, 1) := by decide +kernel
theorem own_d17_1 : decode prog_1_method_4_code 1 = .ok (.getfield 13, 3) := by decide +kernel
theorem own_d17_4 : decode prog_1_method_4_code 4 = .ok (.lreturn, 1) := by decide +kernel
theorem own_ef17 (m : MethodId) (x0 : Addr) : entryFrame m #[(.ref x0)] 1 = mkF m 0 #[.val (.ref x0)] [] := by first | (simp [entryFrame, mkF, argsToLocals, Value.category]; done) | rfl
def own_Q17 (rp0 : Addr) (u_priority_rp0 : Int64) (h0 : Heap) (n0 : Nat) (v : Option Value) (h : Heap) (L : List Loc) : Prop := Fr n0 L ∧ h = h0 ∧ ((v = some (.long u_priority_rp0) ∧ True))
set_option maxRecDepth 65536 in
set_option maxHeartbeats 40000000 in
theorem own_rm17 (l : Launch) (Z : State) (a0 : Array Value) (hw : ∀ d ∈ tables_1, d.before a0 Z = true) (ws : List Jvm.Cond) (rp0 : Addr) (u_priority_rp0 : Int64) (h0 : Heap) (n0 : Nat) (Z0 : n0 ≤ h0.size) (F_priority_rp0 : Fld Z h0 rp0 own_s1 "priority" "J" (.long u_priority_rp0)) :
    MetFree l own_y5 (head1 (Jvm.Cond.code own_y5 prog_1_method_4_code 1 (some .long) :: ws) ({ frames := 0, cells := 0, slots := 0, locals := 0 } : Room)) (fun a U => a = #[(.ref rp0)] ∧ Z.Warmed39 U.vm ∧ U.heap = h0) (fun _ _ _ _ _ => True) (fun _ U o U' => ∃ v L, o = .returned v ∧ own_Q17 rp0 u_priority_rp0 h0 n0 v U'.heap L ∧ FrameEnd U o U' L ({ frames := 0, cells := 0, slots := 0, locals := 0 } : Room).cells ({ frames := 0, cells := 0, slots := 0, locals := 0 } : Room).slots) := by
  refine MetFree.of_bodySF (plainFor_of_name own_pn0) hisR ?_
  intro p e s m args below meth c s₁ Bd hml0 hP hK
  obtain ⟨rfl, hZ, hh⟩ := hP
  have hx := Bd.exec
  have hlk := Bd.notSynchronized
  have hret := Bd.returns
  have hby := Bd.bytes
  have hml : c.maxLocals = 1 := hml0
  have hown : s.vm.findClass own_s1 = some m.cls := findClass_of_methodNamed Bd.named
  have hnm := (name_of_methodNamed Bd.named Bd.method).1
  have X0 : Stand p l e ({ frames := 0, cells := 0, slots := 0, locals := 0 } : Room) s m #[(.ref rp0)] below meth c s₁ [] 0 0 := Stand.of_body Bd
  have e0 : s₁.heap = h0 := by rw [← hh, Bd.state]; rfl
  have N0 := Fr.nil n0
  refine own_open (Q := own_Q17 rp0 u_priority_rp0 h0 n0) (own_ef17 m rp0) ?_
  refine own_st (fun t k => XS.aloadN X0.here hx rfl (hb hby own_d17_0) rfl rfl k) ?_
  show own_Go _ _ _ _ s₁ (mkF m 1 #[.val (.ref rp0)] [(.ref rp0)])
  obtain ⟨T1, X1, e1, st1⟩ := getF X0 hx hZ hown (host := "") (Or.inl (own_w hw 20 rfl)) Via.refl e0 F_priority_rp0 (g := (mkF m 1 #[.val (.ref rp0)] [(.ref rp0)])) rfl rfl (hb hby own_d17_1)
  refine own_st st1 ?_
  show own_Go _ _ _ _ T1 (mkF m 4 #[.val (.ref rp0)] [(.long u_priority_rp0)])
  exact own_retJ X1 hx hlk hret (hb hby own_d17_4) (by decide) (by decide) e1 ⟨N0, rfl, ⟨rfl, trivial⟩⟩
theorem own_pd13 : parseMethodDescriptor "()J" = some ⟨[], some .long⟩ := by decide +kernel
theorem own_d18_0 : decode prog_1_method_3_code 0 = .ok (.aload_n 0, 1) := by decide +kernel
theorem own_d18_1 : decode prog_1_method_3_code 1 = .ok (.getfield 7, 3) := by decide +kernel
theorem own_d18_4 : decode prog_1_method_3_code 4 = .ok (.lreturn, 1) := by decide +kernel
theorem own_ef18 (m : MethodId) (x0 : Addr) : entryFrame m #[(.ref x0)] 1 = mkF m 0 #[.val (.ref x0)] [] := by first | (simp [entryFrame, mkF, argsToLocals, Value.category]; done) | rfl
def own_Q18 (rp0 : Addr) (u_id_rp0 : Int64) (h0 : Heap) (n0 : Nat) (v : Option Value) (h : Heap) (L : List Loc) : Prop := Fr n0 L ∧ h = h0 ∧ ((v = some (.long u_id_rp0) ∧ True))
set_option maxRecDepth 65536 in
set_option maxHeartbeats 40000000 in
theorem own_rm18 (l : Launch) (Z : State) (a0 : Array Value) (hw : ∀ d ∈ tables_1, d.before a0 Z = true) (ws : List Jvm.Cond) (rp0 : Addr) (u_id_rp0 : Int64) (h0 : Heap) (n0 : Nat) (Z0 : n0 ≤ h0.size) (F_id_rp0 : Fld Z h0 rp0 own_s1 "id" "J" (.long u_id_rp0)) :
    MetFree l own_y10 (head1 (Jvm.Cond.code own_y10 prog_1_method_3_code 1 (some .long) :: ws) ({ frames := 0, cells := 0, slots := 0, locals := 0 } : Room)) (fun a U => a = #[(.ref rp0)] ∧ Z.Warmed39 U.vm ∧ U.heap = h0) (fun _ _ _ _ _ => True) (fun _ U o U' => ∃ v L, o = .returned v ∧ own_Q18 rp0 u_id_rp0 h0 n0 v U'.heap L ∧ FrameEnd U o U' L ({ frames := 0, cells := 0, slots := 0, locals := 0 } : Room).cells ({ frames := 0, cells := 0, slots := 0, locals := 0 } : Room).slots) := by
  refine MetFree.of_bodySF (plainFor_of_name own_pn0) hisR ?_
  intro p e s m args below meth c s₁ Bd hml0 hP hK
  obtain ⟨rfl, hZ, hh⟩ := hP
  have hx := Bd.exec
  have hlk := Bd.notSynchronized
  have hret := Bd.returns
  have hby := Bd.bytes
  have hml : c.maxLocals = 1 := hml0
  have hown : s.vm.findClass own_s1 = some m.cls := findClass_of_methodNamed Bd.named
  have hnm := (name_of_methodNamed Bd.named Bd.method).1
  have X0 : Stand p l e ({ frames := 0, cells := 0, slots := 0, locals := 0 } : Room) s m #[(.ref rp0)] below meth c s₁ [] 0 0 := Stand.of_body Bd
  have e0 : s₁.heap = h0 := by rw [← hh, Bd.state]; rfl
  have N0 := Fr.nil n0
  refine own_open (Q := own_Q18 rp0 u_id_rp0 h0 n0) (own_ef18 m rp0) ?_
  refine own_st (fun t k => XS.aloadN X0.here hx rfl (hb hby own_d18_0) rfl rfl k) ?_
  show own_Go _ _ _ _ s₁ (mkF m 1 #[.val (.ref rp0)] [(.ref rp0)])
  obtain ⟨T1, X1, e1, st1⟩ := getF X0 hx hZ hown (host := "") (Or.inl (own_w hw 18 rfl)) Via.refl e0 F_id_rp0 (g := (mkF m 1 #[.val (.ref rp0)] [(.ref rp0)])) rfl rfl (hb hby own_d18_1)
  refine own_st st1 ?_
  show own_Go _ _ _ _ T1 (mkF m 4 #[.val (.ref rp0)] [(.long u_id_rp0)])
  exact own_retJ X1 hx hlk hret (hb hby own_d18_4) (by decide) (by decide) e1 ⟨N0, rfl, ⟨rfl, trivial⟩⟩
theorem own_d19_0 : decode prog_2_method_10_code 0 = .ok (.aload_n 0, 1) := by decide +kernel
theorem own_d19_1 : decode prog_2_method_10_code 1 = .ok (.invokevirtual 71, 3) := by decide +kernel
theorem own_d19_4 : decode prog_2_method_10_code 4 = .ok (.lload_n 1, 1) := by decide +kernel
theorem own_d19_5 : decode prog_2_method_10_code 5 = .ok (.lcmp, 1) := by decide +kernel
theorem own_d19_6 : decode prog_2_method_10_code 6 = .ok (.ifCond .lt 21, 3) := by decide +kernel
theorem own_d19_9 : decode prog_2_method_10_code 9 = .ok (.aload_n 0, 1) := by decide +kernel
theorem own_d19_10 : decode prog_2_method_10_code 10 = .ok (.invokevirtual 71, 3) := by decide +kernel
theorem own_d19_13 : decode prog_2_method_10_code 13 = .ok (.lload_n 1, 1) := by decide +kernel
theorem own_d19_14 : decode prog_2_method_10_code 14 = .ok (.lcmp, 1) := by decide +kernel
theorem own_d19_15 : decode prog_2_method_10_code 15 = .ok (.ifCond .ne 16, 3) := by decide +kernel
theorem own_d19_18 : decode prog_2_method_10_code 18 = .ok (.aload_n 0, 1) := by decide +kernel
theorem own_d19_19 : decode prog_2_method_10_code 19 = .ok (.invokevirtual 77, 3) := by decide +kernel
theorem own_d19_22 : decode prog_2_method_10_code 22 = .ok (.lload_n 3, 1) := by decide +kernel
theorem own_d19_23 : decode prog_2_method_10_code 23 = .ok (.lcmp, 1) := by decide +kernel
theorem own_d19_24 : decode prog_2_method_10_code 24 = .ok (.ifCond .ge 7, 3) := by decide +kernel
theorem own_d19_27 : decode prog_2_method_10_code 27 = .ok (.iconst 1, 1) := by decide +kernel
theorem own_d19_28 : decode prog_2_method_10_code 28 = .ok (.goto 4, 3) := by decide +kernel
theorem own_d19_31 : decode prog_2_method_10_code 31 = .ok (.iconst 0, 1) := by decide +kernel
theorem own_d19_32 : decode prog_2_method_10_code 32 = .ok (.ireturn, 1) := by decide +kernel
theorem own_ef19 (m : MethodId) (x0 : Addr) (x1 : Int64) (x2 : Int64) : entryFrame m #[(.ref x0), (.long x1), (.long x2)] 5 = mkF m 0 #[.val (.ref x0), .val (.long x1), .second, .val (.long x2), .second] [] := by first | (simp [entryFrame, mkF, argsToLocals, Value.category]; done) | rfl
def own_Q19 (rp0 : Addr) (jp1 : Int64) (jp2 : Int64) (u_priority_rp0 : Int64) (u_id_rp0 : Int64) (h0 : Heap) (n0 : Nat) (v : Option Value) (h : Heap) (L : List Loc) : Prop := Fr n0 L ∧ h = h0 ∧ ((v = some (.int (1 : Int32)) ∧ (own_lt u_priority_rp0 u_id_rp0 jp1 jp2) ∧ True) ∨ (v = some (.int (0 : Int32)) ∧ (¬ (own_lt u_priority_rp0 u_id_rp0 jp1 jp2)) ∧ True))
set_option maxRecDepth 65536 in
set_option maxHeartbeats 40000000 in
theorem own_rm19 (l : Launch) (Z : State) (a0 : Array Value) (hw : ∀ d ∈ tables_1, d.before a0 Z = true) (ws : List Jvm.Cond) (rp0 : Addr) (jp1 : Int64) (jp2 : Int64) (u_priority_rp0 : Int64) (u_id_rp0 : Int64) (h0 : Heap) (n0 : Nat) (Z0 : n0 ≤ h0.size) (F_priority_rp0 : Fld Z h0 rp0 own_s1 "priority" "J" (.long u_priority_rp0)) (E_rp0 : Exa Z h0 rp0 own_s1) (F_id_rp0 : Fld Z h0 rp0 own_s1 "id" "J" (.long u_id_rp0)) :
    MetFree l own_y9 (head1 (Jvm.Cond.code own_y9 prog_2_method_10_code 5 (some .boolean) :: ws) ({ frames := 1, cells := 0, slots := 0, locals := 12 } : Room)) (fun a U => a = #[(.ref rp0), (.long jp1), (.long jp2)] ∧ Z.Warmed39 U.vm ∧ U.heap = h0) (fun _ _ _ _ _ => True) (fun _ U o U' => ∃ v L, o = .returned v ∧ own_Q19 rp0 jp1 jp2 u_priority_rp0 u_id_rp0 h0 n0 v U'.heap L ∧ FrameEnd U o U' L ({ frames := 1, cells := 0, slots := 0, locals := 12 } : Room).cells ({ frames := 1, cells := 0, slots := 0, locals := 12 } : Room).slots) := by
  refine MetFree.of_bodySF (plainFor_of_name own_pn3) hisR ?_
  intro p e s m args below meth c s₁ Bd hml0 hP hK
  obtain ⟨rfl, hZ, hh⟩ := hP
  have hx := Bd.exec
  have hlk := Bd.notSynchronized
  have hret := Bd.returns
  have hby := Bd.bytes
  have hml : c.maxLocals = 5 := hml0
  have hown : s.vm.findClass own_s4 = some m.cls := findClass_of_methodNamed Bd.named
  have hnm := (name_of_methodNamed Bd.named Bd.method).1
  have X0 : Stand p l e ({ frames := 1, cells := 0, slots := 0, locals := 12 } : Room) s m #[(.ref rp0), (.long jp1), (.long jp2)] below meth c s₁ [] 0 0 := Stand.of_body Bd
  have e0 : s₁.heap = h0 := by rw [← hh, Bd.state]; rfl
  have N0 := Fr.nil n0
  refine own_open (Q := own_Q19 rp0 jp1 jp2 u_priority_rp0 u_id_rp0 h0 n0) (own_ef19 m rp0 jp1 jp2) ?_
  refine own_st (fun t k => XS.aloadN X0.here hx rfl (hb hby own_d19_0) rfl rfl k) ?_
  show own_Go _ _ _ _ s₁ (mkF m 1 #[.val (.ref rp0), .val (.long jp1), .second, .val (.long jp2), .second] [(.ref rp0)])
  obtain ⟨cq1, kq1, q1a, q1b, q1c⟩ := isOf hZ e0 E_rp0
  obtain ⟨_, _, ⟨T1, L1, k1, n1⟩, -, X1, ⟨Lc1, hQ1, l1, y1, z1⟩, st1⟩ := X0.virtualBack hx (y := own_y5) (z := own_y5) hown (mvT hZ (own_w hw 136 rfl)) (mvT hZ (own_w hw 124 rfl)) (notFace_of_selects (args := #[]) (mvT hZ (own_w hw 126 rfl))) (mvT hZ (own_w hw 126 rfl)) (mvT hZ (own_w hw 125 rfl)) (by decide) (backOf (W := 0) (own_rm17 l Z a0 hw [] rp0 u_priority_rp0 h0 n0 Z0 F_priority_rp0) hZ (own_w hw 127 rfl) (own_w hw 5 rfl) (by decide) (by decide)) q1a q1c (g := (mkF m 1 #[.val (.ref rp0), .val (.long jp1), .second, .val (.long jp2), .second] [(.ref rp0)])) rfl (by rw [hml]; rfl) (Steps.refl _) (argsL := []) (rest := []) (lenOf own_pd13 rfl) rfl (by show 2 * 0 + _ ≤ _; exact Nat.le_of_eq rfl) (hb hby own_d19_1) (fun _ _ => ⟨rfl, e0, (by decide : 0 + 0 ≤ _), (by decide : 0 + 0 ≤ _)⟩)
  dsimp only [Pt.U, Pt.locs, Pt.cells, Pt.slots] at X1 l1 y1 z1 st1 hQ1
  subst l1 y1 z1
  obtain ⟨N1q, e1, hL1⟩ := hQ1
  have N1 := Fr.app N0 N1q
  rcases hL1 with ⟨rfl, -⟩
  · skip
    refine own_st (fun t k => st1.trans k) ?_
    refine own_st (fun t k => XS.lloadN X1.here hx rfl (hb hby own_d19_4) rfl k) ?_
    show own_Go _ _ _ _ T1 (mkF m 5 #[.val (.ref rp0), .val (.long jp1), .second, .val (.long jp2), .second] [(.long jp1), (.long u_priority_rp0)])
    refine own_st (fun t k => XS.lcmp X1.here hx rfl (hb hby own_d19_5) rfl k) ?_
    show own_Go _ _ _ _ T1 (mkF m 6 #[.val (.ref rp0), .val (.long jp1), .second, .val (.long jp2), .second] [(.int (lcmpW u_priority_rp0 jp1))])
    by_cases hc2 : (lcmpW u_priority_rp0 jp1) < (0 : Int32)
    · skip
      refine own_st (fun t k => XS.ifYes X1.here hx rfl (pc0 := 6) (pc' := 27) rfl (hb hby own_d19_6) rfl ((if0 _ _).trans (tlt hc2).1) (by decide) (by decide) k) ?_
      refine own_st (fun t k => XS.iconst X1.here hx rfl (hb hby own_d19_27) k) ?_
      refine own_st (fun t k => XS.goto X1.here hx rfl (pc0 := 28) (pc' := 32) rfl (hb hby own_d19_28) (by decide) (by decide) k) ?_
      show own_Go _ _ _ _ T1 (mkF m 32 #[.val (.ref rp0), .val (.long jp1), .second, .val (.long jp2), .second] [(.int (1 : Int32))])
      exact own_retZ X1 hx hlk (t := .boolean) hret (by simp) (hb hby own_d19_32) (by decide) (by decide) e1 ⟨N1, rfl, (Or.inl ⟨rfl, (by have o0 := (lw_lt _ _).mp hc2; simp only [own_lt, Int64.lt_iff_toInt_lt, ← Int64.toInt_inj] at o0 ⊢; omega), trivial⟩)⟩
    · skip
      refine own_st (fun t k => XS.ifNo X1.here hx rfl (hb hby own_d19_6) rfl ((if0 _ _).trans (flt hc2).1) k) ?_
      refine own_st (fun t k => XS.aloadN X1.here hx rfl (hb hby own_d19_9) rfl rfl k) ?_
      show own_Go _ _ _ _ T1 (mkF m 10 #[.val (.ref rp0), .val (.long jp1), .second, .val (.long jp2), .second] [(.ref rp0)])
      obtain ⟨cq3, kq3, q3a, q3b, q3c⟩ := isOf hZ e1 E_rp0
      obtain ⟨_, _, ⟨T3, L3, k3, n3⟩, -, X3, ⟨Lc3, hQ3, l3, y3, z3⟩, st3⟩ := X1.virtualBack hx (y := own_y5) (z := own_y5) hown (mvT hZ (own_w hw 136 rfl)) (mvT hZ (own_w hw 124 rfl)) (notFace_of_selects (args := #[]) (mvT hZ (own_w hw 126 rfl))) (mvT hZ (own_w hw 126 rfl)) (mvT hZ (own_w hw 125 rfl)) (by decide) (backOf (W := 0) (own_rm17 l Z a0 hw [] rp0 u_priority_rp0 h0 n0 Z0 F_priority_rp0) hZ (own_w hw 127 rfl) (own_w hw 5 rfl) (by decide) (by decide)) q3a q3c (g := (mkF m 10 #[.val (.ref rp0), .val (.long jp1), .second, .val (.long jp2), .second] [(.ref rp0)])) rfl (by rw [hml]; rfl) (Steps.refl _) (argsL := []) (rest := []) (lenOf own_pd13 rfl) rfl (by show 2 * 0 + _ ≤ _; exact Nat.le_of_eq rfl) (hb hby own_d19_10) (fun _ _ => ⟨rfl, e1, (by decide : 0 + 0 ≤ _), (by decide : 0 + 0 ≤ _)⟩)
      dsimp only [Pt.U, Pt.locs, Pt.cells, Pt.slots] at X3 l3 y3 z3 st3 hQ3
      subst l3 y3 z3
      obtain ⟨N3q, e3, hL3⟩ := hQ3
      have N3 := Fr.app N1 N3q
      rcases hL3 with ⟨rfl, -⟩
      · skip
        refine own_st (fun t k => st3.trans k) ?_
        refine own_st (fun t k => XS.lloadN X3.here hx rfl (hb hby own_d19_13) rfl k) ?_
        show own_Go _ _ _ _ T3 (mkF m 14 #[.val (.ref rp0), .val (.long jp1), .second, .val (.long jp2), .second] [(.long jp1), (.long u_priority_rp0)])
        refine own_st (fun t k => XS.lcmp X3.here hx rfl (hb hby own_d19_14) rfl k) ?_
        show own_Go _ _ _ _ T3 (mkF m 15 #[.val (.ref rp0), .val (.long jp1), .second, .val (.long jp2), .second] [(.int (lcmpW u_priority_rp0 jp1))])
        by_cases hc4 : (lcmpW u_priority_rp0 jp1) = (0 : Int32)
        · skip
          refine own_st (fun t k => XS.ifNo X3.here hx rfl (hb hby own_d19_15) rfl ((if0 _ _).trans (teq hc4).2) k) ?_
          refine own_st (fun t k => XS.aloadN X3.here hx rfl (hb hby own_d19_18) rfl rfl k) ?_
          show own_Go _ _ _ _ T3 (mkF m 19 #[.val (.ref rp0), .val (.long jp1), .second, .val (.long jp2), .second] [(.ref rp0)])
          obtain ⟨cq5, kq5, q5a, q5b, q5c⟩ := isOf hZ e3 E_rp0
          obtain ⟨_, _, ⟨T5, L5, k5, n5⟩, -, X5, ⟨Lc5, hQ5, l5, y5, z5⟩, st5⟩ := X3.virtualBack hx (y := own_y10) (z := own_y10) hown (mvT hZ (own_w hw 144 rfl)) (mvT hZ (own_w hw 129 rfl)) (notFace_of_selects (args := #[]) (mvT hZ (own_w hw 131 rfl))) (mvT hZ (own_w hw 131 rfl)) (mvT hZ (own_w hw 130 rfl)) (by decide) (backOf (W := 0) (own_rm18 l Z a0 hw [] rp0 u_id_rp0 h0 n0 Z0 F_id_rp0) hZ (own_w hw 132 rfl) (own_w hw 5 rfl) (by decide) (by decide)) q5a q5c (g := (mkF m 19 #[.val (.ref rp0), .val (.long jp1), .second, .val (.long jp2), .second] [(.ref rp0)])) rfl (by rw [hml]; rfl) (Steps.refl _) (argsL := []) (rest := []) (lenOf own_pd13 rfl) rfl (by show 2 * 0 + _ ≤ _; exact Nat.le_of_eq rfl) (hb hby own_d19_19) (fun _ _ => ⟨rfl, e3, (by decide : 0 + 0 ≤ _), (by decide : 0 + 0 ≤ _)⟩)
          dsimp only [Pt.U, Pt.locs, Pt.cells, Pt.slots] at X5 l5 y5 z5 st5 hQ5
          subst l5 y5 z5
          obtain ⟨N5q, e5, hL5⟩ := hQ5
          have N5 := Fr.app N3 N5q
          rcases hL5 with ⟨rfl, -⟩
          · skip
            refine own_st (fun t k => st5.trans k) ?_
            show own_Go _ _ _ _ T5 (mkF m 22 #[.val (.ref rp0), .val (.long jp1), .second, .val (.long jp2), .second] [(.long u_id_rp0)])
            refine own_st (fun t k => XS.lloadN X5.here hx rfl (hb hby own_d19_22) rfl k) ?_
            refine own_st (fun t k => XS.lcmp X5.here hx rfl (hb hby own_d19_23) rfl k) ?_
            show own_Go _ _ _ _ T5 (mkF m 24 #[.val (.ref rp0), .val (.long jp1), .second, .val (.long jp2), .second] [(.int (lcmpW u_id_rp0 jp2))])
            by_cases hc6 : (lcmpW u_id_rp0 jp2) < (0 : Int32)
            · skip
              refine own_st (fun t k => XS.ifNo X5.here hx rfl (hb hby own_d19_24) rfl ((if0 _ _).trans (tlt hc6).2.1) k) ?_
              refine own_st (fun t k => XS.iconst X5.here hx rfl (hb hby own_d19_27) k) ?_
              show own_Go _ _ _ _ T5 (mkF m 28 #[.val (.ref rp0), .val (.long jp1), .second, .val (.long jp2), .second] [(.int (1 : Int32))])
              refine own_st (fun t k => XS.goto X5.here hx rfl (pc0 := 28) (pc' := 32) rfl (hb hby own_d19_28) (by decide) (by decide) k) ?_
              show own_Go _ _ _ _ T5 (mkF m 32 #[.val (.ref rp0), .val (.long jp1), .second, .val (.long jp2), .second] [(.int (1 : Int32))])
              exact own_retZ X5 hx hlk (t := .boolean) hret (by simp) (hb hby own_d19_32) (by decide) (by decide) e5 ⟨N5, rfl, (Or.inl ⟨rfl, (by have o0 := mt (lw_lt _ _).mpr hc2; have o1 := (lw_eq _ _).mp hc4; have o2 := (lw_lt _ _).mp hc6; simp only [own_lt, Int64.lt_iff_toInt_lt, ← Int64.toInt_inj] at o0 o1 o2 ⊢; omega), trivial⟩)⟩
            · skip
              refine own_st (fun t k => XS.ifYes X5.here hx rfl (pc0 := 24) (pc' := 31) rfl (hb hby own_d19_24) rfl ((if0 _ _).trans (flt hc6).2.1) (by decide) (by decide) k) ?_
              refine own_st (fun t k => XS.iconst X5.here hx rfl (hb hby own_d19_31) k) ?_
              show own_Go _ _ _ _ T5 (mkF m 32 #[.val (.ref rp0), .val (.long jp1), .second, .val (.long jp2), .second] [(.int (0 : Int32))])
              exact own_retZ X5 hx hlk (t := .boolean) hret (by simp) (hb hby own_d19_32) (by decide) (by decide) e5 ⟨N5, rfl, (Or.inr ⟨rfl, (by have o0 := mt (lw_lt _ _).mpr hc2; have o1 := (lw_eq _ _).mp hc4; have o2 := mt (lw_lt _ _).mpr hc6; simp only [own_lt, Int64.lt_iff_toInt_lt, ← Int64.toInt_inj] at o0 o1 o2 ⊢; omega), trivial⟩)⟩
        · skip
          refine own_st (fun t k => XS.ifYes X3.here hx rfl (pc0 := 15) (pc' := 31) rfl (hb hby own_d19_15) rfl ((if0 _ _).trans (feq hc4).2) (by decide) (by decide) k) ?_
          show own_Go _ _ _ _ T3 (mkF m 31 #[.val (.ref rp0), .val (.long jp1), .second, .val (.long jp2), .second] [])
          refine own_st (fun t k => XS.iconst X3.here hx rfl (hb hby own_d19_31) k) ?_
          show own_Go _ _ _ _ T3 (mkF m 32 #[.val (.ref rp0), .val (.long jp1), .second, .val (.long jp2), .second] [(.int (0 : Int32))])
          exact own_retZ X3 hx hlk (t := .boolean) hret (by simp) (hb hby own_d19_32) (by decide) (by decide) e3 ⟨N3, rfl, (Or.inr ⟨rfl, (by have o0 := mt (lw_lt _ _).mpr hc2; have o1 := mt (lw_eq _ _).mpr hc4; simp only [own_lt, Int64.lt_iff_toInt_lt, ← Int64.toInt_inj] at o0 o1 ⊢; omega), trivial⟩)⟩
theorem own_pd14 : parseMethodDescriptor "(Lcom/example/lonborg/lonborg/Item;JJ)Z" = some ⟨[(.object own_s1), .long, .long], some .boolean⟩ := by decide +kernel
theorem own_d10_12 : decode prog_4_method_9_code 12 = .ok (.iload_n 2, 1) := by decide +kernel
theorem own_d10_13 : decode prog_4_method_9_code 13 = .ok (.iload_n 3, 1) := by decide +kernel
theorem own_d10_14 : decode prog_4_method_9_code 14 = .ok (.iadd, 1) := by decide +kernel
theorem own_d10_15 : decode prog_4_method_9_code 15 = .ok (.iconst 1, 1) := by decide +kernel
theorem own_d10_16 : decode prog_4_method_9_code 16 = .ok (.iushr, 1) := by decide +kernel
theorem own_d10_17 : decode prog_4_method_9_code 17 = .ok (.istore 4, 2) := by decide +kernel
theorem own_d10_19 : decode prog_4_method_9_code 19 = .ok (.aload_n 0, 1) := by decide +kernel
theorem own_d10_20 : decode prog_4_method_9_code 20 = .ok (.getfield 11, 3) := by decide +kernel
theorem own_d10_23 : decode prog_4_method_9_code 23 = .ok (.iload 4, 2) := by decide +kernel
theorem own_d10_25 : decode prog_4_method_9_code 25 = .ok (.aaload, 1) := by decide +kernel
theorem own_d10_26 : decode prog_4_method_9_code 26 = .ok (.aload_n 1, 1) := by decide +kernel
theorem own_d10_27 : decode prog_4_method_9_code 27 = .ok (.invokevirtual 67, 3) := by decide +kernel
theorem own_d10_30 : decode prog_4_method_9_code 30 = .ok (.aload_n 1, 1) := by decide +kernel
theorem own_d10_31 : decode prog_4_method_9_code 31 = .ok (.invokevirtual 71, 3) := by decide +kernel
theorem own_d10_34 : decode prog_4_method_9_code 34 = .ok (.invokestatic 74, 3) := by decide +kernel
theorem own_d10_37 : decode prog_4_method_9_code 37 = .ok (.ifCond .eq 11, 3) := by decide +kernel
theorem own_d10_40 : decode prog_4_method_9_code 40 = .ok (.iload 4, 2) := by decide +kernel
theorem own_d10_42 : decode prog_4_method_9_code 42 = .ok (.iconst 1, 1) := by decide +kernel
theorem own_d10_43 : decode prog_4_method_9_code 43 = .ok (.iadd, 1) := by decide +kernel
theorem own_d10_44 : decode prog_4_method_9_code 44 = .ok (.istore_n 2, 1) := by decide +kernel
theorem own_d10_45 : decode prog_4_method_9_code 45 = .ok (.goto 6, 3) := by decide +kernel
theorem own_d10_48 : decode prog_4_method_9_code 48 = .ok (.iload 4, 2) := by decide +kernel
theorem own_d10_50 : decode prog_4_method_9_code 50 = .ok (.istore_n 3, 1) := by decide +kernel
theorem own_d10_51 : decode prog_4_method_9_code 51 = .ok (.goto (-44), 3) := by decide +kernel
def own_Q10_101 (Z : State) (b2x4_14c5015 : Addr) (b5005 : Addr) (b2x5_18c4c5015 : Addr) (k2x5_18c4c5015c2c5044 : ClassId) (b5001 : Addr) (j12 : Int64) (j16 : Int64) (jp1 : Int64) (jp4 : Int64) (h0 : Heap) (n0 : Nat) (v : Option Value) (h : Heap) (L : List Loc) : Prop := Fr n0 L ∧ Keep h0 h [] ∧ ((v = some (.int (((((0 : Int32) + ((0 : Int32) + (1 : Int32))).toUInt32 >>> ((1 : Int32) &&& 31).toUInt32).toInt32) + (1 : Int32))) ∧ (own_lt jp1 jp4 j12 j16) ∧ True) ∨ (v = some (.int (0 : Int32)) ∧ (¬ (own_lt jp1 jp4 j12 j16)) ∧ True))
set_option maxRecDepth 65536 in
set_option maxHeartbeats 40000000 in
theorem own_rm10_101 (l : Launch) (Z : State) (a0 : Array Value) (hw : ∀ d ∈ tables_1, d.before a0 Z = true) (ws : List Jvm.Cond) (b2x4_14c5015 : Addr) (b5005 : Addr) (b2x5_18c4c5015 : Addr) (k2x5_18c4c5015c2c5044 : ClassId) (b5001 : Addr) (j12 : Int64) (j16 : Int64) (jp1 : Int64) (jp4 : Int64) (h0 : Heap) (n0 : Nat) (Z0 : n0 ≤ h0.size) (P0 : Fld Z h0 b2x4_14c5015 own_s0 "count" "I" (.int ((0 : Int32) + (1 : Int32)))) (P1 : Fld Z h0 b2x4_14c5015 own_s5 "items" own_s8 (.ref b2x5_18c4c5015)) (P2 : Arv Z h0 b2x5_18c4c5015 k2x5_18c4c5015c2c5044 (.object own_s1) (64 : Int32) [(.ref b5001)] .null) (OFc5044_0_0 : Ovr Z k2x5_18c4c5015c2c5044 own_s1) (P4 : Fld Z h0 b5005 own_s1 "priority" "J" (.long j12)) (P5 : Exa Z h0 b5005 own_s1) (P6 : Fld Z h0 b5005 own_s1 "id" "J" (.long j16)) (P7 : Fld Z h0 b5001 own_s1 "priority" "J" (.long jp1)) (P8 : Fld Z h0 b5001 own_s1 "id" "J" (.long jp4)) (P9 : Exa Z h0 b5001 own_s1) :
    MetFree l own_y4 (head1 (Jvm.Cond.code own_y4 prog_4_method_9_code 5 (some .int) :: ws) ({ frames := 2, cells := 0, slots := 0, locals := 28 } : Room)) (fun a U => a = #[(.ref b2x4_14c5015), (.ref b5005)] ∧ Z.Warmed39 U.vm ∧ U.heap = h0) (fun _ _ _ _ _ => True) (fun _ U o U' => ∃ v L, o = .returned v ∧ own_Q10_101 Z b2x4_14c5015 b5005 b2x5_18c4c5015 k2x5_18c4c5015c2c5044 b5001 j12 j16 jp1 jp4 h0 n0 v U'.heap L ∧ FrameEnd U o U' L ({ frames := 2, cells := 0, slots := 0, locals := 28 } : Room).cells ({ frames := 2, cells := 0, slots := 0, locals := 28 } : Room).slots) := by
  refine MetFree.of_bodySF (plainFor_of_name own_pn2) hisR ?_
  intro p e s m args below meth c s₁ Bd hml0 hP hK
  obtain ⟨rfl, hZ, hh⟩ := hP
  have hx := Bd.exec
  have hlk := Bd.notSynchronized
  have hret := Bd.returns
  have hby := Bd.bytes
  have hml : c.maxLocals = 5 := hml0
  have hown : s.vm.findClass own_s5 = some m.cls := findClass_of_methodNamed Bd.named
  have hnm := (name_of_methodNamed Bd.named Bd.method).1
  have X0 : Stand p l e ({ frames := 2, cells := 0, slots := 0, locals := 28 } : Room) s m #[(.ref b2x4_14c5015), (.ref b5005)] below meth c s₁ [] 0 0 := Stand.of_body Bd
  have e0 : s₁.heap = h0 := by rw [← hh, Bd.state]; rfl
  have N0 := Fr.nil n0
  refine own_open (Q := own_Q10_101 Z b2x4_14c5015 b5005 b2x5_18c4c5015 k2x5_18c4c5015c2c5044 b5001 j12 j16 jp1 jp4 h0 n0) (own_ef10 m b2x4_14c5015 b5005) ?_
  refine own_st (fun t k => XS.iconst X0.here hx rfl (hb hby own_d10_0) k) ?_
  refine own_st (fun t k => XS.istoreN X0.here hx rfl (hb hby own_d10_1) rfl (l' := #[.val (.ref b2x4_14c5015), .val (.ref b5005), .val (.int (0 : Int32)), .unset, .unset]) rfl k) ?_
  refine own_st (fun t k => XS.aloadN X0.here hx rfl (hb hby own_d10_2) rfl rfl k) ?_
  show own_Go _ _ _ _ s₁ (mkF m 3 #[.val (.ref b2x4_14c5015), .val (.ref b5005), .val (.int (0 : Int32)), .unset, .unset] [(.ref b2x4_14c5015)])
  obtain ⟨T1, X1, e1, st1⟩ := getF X0 hx hZ hown (host := "") (Or.inl (own_w hw 77 rfl)) (Via.of (own_w hw 78 rfl)) e0 P0 (g := (mkF m 3 #[.val (.ref b2x4_14c5015), .val (.ref b5005), .val (.int (0 : Int32)), .unset, .unset] [(.ref b2x4_14c5015)])) rfl rfl (hb hby own_d10_3)
  refine own_st st1 ?_
  refine own_st (fun t k => XS.istoreN X1.here hx rfl (hb hby own_d10_6) rfl (l' := #[.val (.ref b2x4_14c5015), .val (.ref b5005), .val (.int (0 : Int32)), .val (.int ((0 : Int32) + (1 : Int32))), .unset]) rfl k) ?_
  refine own_st (fun t k => XS.iloadN X1.here hx rfl (hb hby own_d10_7) rfl k) ?_
  refine own_st (fun t k => XS.iloadN X1.here hx rfl (hb hby own_d10_8) rfl k) ?_
  show own_Go _ _ _ _ T1 (mkF m 9 #[.val (.ref b2x4_14c5015), .val (.ref b5005), .val (.int (0 : Int32)), .val (.int ((0 : Int32) + (1 : Int32))), .unset] [(.int ((0 : Int32) + (1 : Int32))), (.int (0 : Int32))])
  refine own_st (fun t k => XS.icmpNo X1.here hx rfl (hb hby own_d10_9) rfl (tlt (by decide : (0 : Int32) < ((0 : Int32) + (1 : Int32)))).2.1 k) ?_
  refine own_st (fun t k => XS.iloadN X1.here hx rfl (hb hby own_d10_12) rfl k) ?_
  refine own_st (fun t k => XS.iloadN X1.here hx rfl (hb hby own_d10_13) rfl k) ?_
  refine own_st (fun t k => XS.iadd X1.here hx rfl (hb hby own_d10_14) rfl k) ?_
  show own_Go _ _ _ _ T1 (mkF m 15 #[.val (.ref b2x4_14c5015), .val (.ref b5005), .val (.int (0 : Int32)), .val (.int ((0 : Int32) + (1 : Int32))), .unset] [(.int ((0 : Int32) + ((0 : Int32) + (1 : Int32))))])
  refine own_st (fun t k => XS.iconst X1.here hx rfl (hb hby own_d10_15) k) ?_
  show own_Go _ _ _ _ T1 (mkF m 16 #[.val (.ref b2x4_14c5015), .val (.ref b5005), .val (.int (0 : Int32)), .val (.int ((0 : Int32) + (1 : Int32))), .unset] [(.int (1 : Int32)), (.int ((0 : Int32) + ((0 : Int32) + (1 : Int32))))])
  refine own_st (fun t k => XS.iushr X1.here hx rfl (hb hby own_d10_16) rfl k) ?_
  refine own_st (fun t k => XS.istore X1.here hx rfl (hb hby own_d10_17) rfl (l' := #[.val (.ref b2x4_14c5015), .val (.ref b5005), .val (.int (0 : Int32)), .val (.int ((0 : Int32) + (1 : Int32))), .val (.int ((((0 : Int32) + ((0 : Int32) + (1 : Int32))).toUInt32 >>> ((1 : Int32) &&& 31).toUInt32).toInt32))]) rfl k) ?_
  refine own_st (fun t k => XS.aloadN X1.here hx rfl (hb hby own_d10_19) rfl rfl k) ?_
  show own_Go _ _ _ _ T1 (mkF m 20 #[.val (.ref b2x4_14c5015), .val (.ref b5005), .val (.int (0 : Int32)), .val (.int ((0 : Int32) + (1 : Int32))), .val (.int ((((0 : Int32) + ((0 : Int32) + (1 : Int32))).toUInt32 >>> ((1 : Int32) &&& 31).toUInt32).toInt32))] [(.ref b2x4_14c5015)])
  obtain ⟨T2, X2, e2, st2⟩ := getF X1 hx hZ hown (host := "") (Or.inl (own_w hw 52 rfl)) Via.refl e1 P1 (g := (mkF m 20 #[.val (.ref b2x4_14c5015), .val (.ref b5005), .val (.int (0 : Int32)), .val (.int ((0 : Int32) + (1 : Int32))), .val (.int ((((0 : Int32) + ((0 : Int32) + (1 : Int32))).toUInt32 >>> ((1 : Int32) &&& 31).toUInt32).toInt32))] [(.ref b2x4_14c5015)])) rfl rfl (hb hby own_d10_20)
  refine own_st st2 ?_
  refine own_st (fun t k => XS.iload X2.here hx rfl (hb hby own_d10_23) rfl k) ?_
  show own_Go _ _ _ _ T2 (mkF m 25 #[.val (.ref b2x4_14c5015), .val (.ref b5005), .val (.int (0 : Int32)), .val (.int ((0 : Int32) + (1 : Int32))), .val (.int ((((0 : Int32) + ((0 : Int32) + (1 : Int32))).toUInt32 >>> ((1 : Int32) &&& 31).toUInt32).toInt32))] [(.int ((((0 : Int32) + ((0 : Int32) + (1 : Int32))).toUInt32 >>> ((1 : Int32) &&& 31).toUInt32).toInt32)), (.ref b2x5_18c4c5015)])
  refine own_st (own_aaload X2 hx hZ e2 P2 rfl (j := ((((0 : Int32) + ((0 : Int32) + (1 : Int32))).toUInt32 >>> ((1 : Int32) &&& 31).toUInt32).toInt32)) (v := (.ref b5001)) ⟨by decide, by decide⟩ rfl (g := (mkF m 25 #[.val (.ref b2x4_14c5015), .val (.ref b5005), .val (.int (0 : Int32)), .val (.int ((0 : Int32) + (1 : Int32))), .val (.int ((((0 : Int32) + ((0 : Int32) + (1 : Int32))).toUInt32 >>> ((1 : Int32) &&& 31).toUInt32).toInt32))] [(.int ((((0 : Int32) + ((0 : Int32) + (1 : Int32))).toUInt32 >>> ((1 : Int32) &&& 31).toUInt32).toInt32)), (.ref b2x5_18c4c5015)])) rfl rfl (hb hby own_d10_25)) ?_
  refine own_st (fun t k => XS.aloadN X2.here hx rfl (hb hby own_d10_26) rfl rfl k) ?_
  show own_Go _ _ _ _ T2 (mkF m 27 #[.val (.ref b2x4_14c5015), .val (.ref b5005), .val (.int (0 : Int32)), .val (.int ((0 : Int32) + (1 : Int32))), .val (.int ((((0 : Int32) + ((0 : Int32) + (1 : Int32))).toUInt32 >>> ((1 : Int32) &&& 31).toUInt32).toInt32))] [(.ref b5005), (.ref b5001)])
  obtain ⟨cq3, kq3, q3a, q3b, q3c⟩ := isOf hZ e2 P5
  obtain ⟨_, _, ⟨T3, L3, k3, n3⟩, -, X3, ⟨Lc3, hQ3, l3, y3, z3⟩, st3⟩ := X2.virtualBack hx (y := own_y5) (z := own_y5) hown (mvT hZ (own_w hw 123 rfl)) (mvT hZ (own_w hw 124 rfl)) (notFace_of_selects (args := #[]) (mvT hZ (own_w hw 126 rfl))) (mvT hZ (own_w hw 126 rfl)) (mvT hZ (own_w hw 125 rfl)) (by decide) (backOf (W := 1) (own_rm17 l Z a0 hw [] b5005 j12 h0 n0 Z0 P4) hZ (own_w hw 127 rfl) (own_w hw 5 rfl) (by decide) (by decide)) q3a q3c (g := (mkF m 27 #[.val (.ref b2x4_14c5015), .val (.ref b5005), .val (.int (0 : Int32)), .val (.int ((0 : Int32) + (1 : Int32))), .val (.int ((((0 : Int32) + ((0 : Int32) + (1 : Int32))).toUInt32 >>> ((1 : Int32) &&& 31).toUInt32).toInt32))] [(.ref b5005), (.ref b5001)])) rfl (by rw [hml]; rfl) (Steps.refl _) (argsL := []) (rest := [(.ref b5001)]) (lenOf own_pd13 rfl) rfl (by show 2 * 0 + _ ≤ _; exact Nat.le_of_eq rfl) (hb hby own_d10_27) (fun _ _ => ⟨rfl, e2, (by decide : 0 + 0 ≤ _), (by decide : 0 + 0 ≤ _)⟩)
  dsimp only [Pt.U, Pt.locs, Pt.cells, Pt.slots] at X3 l3 y3 z3 st3 hQ3
  subst l3 y3 z3
  obtain ⟨N3q, e3, hL3⟩ := hQ3
  have N3 := Fr.app N0 N3q
  rcases hL3 with ⟨rfl, -⟩
  · skip
    refine own_st (fun t k => st3.trans k) ?_
    refine own_st (fun t k => XS.aloadN X3.here hx rfl (hb hby own_d10_30) rfl rfl k) ?_
    show own_Go _ _ _ _ T3 (mkF m 31 #[.val (.ref b2x4_14c5015), .val (.ref b5005), .val (.int (0 : Int32)), .val (.int ((0 : Int32) + (1 : Int32))), .val (.int ((((0 : Int32) + ((0 : Int32) + (1 : Int32))).toUInt32 >>> ((1 : Int32) &&& 31).toUInt32).toInt32))] [(.ref b5005), (.long j12), (.ref b5001)])
    obtain ⟨cq4, kq4, q4a, q4b, q4c⟩ := isOf hZ e3 P5
    obtain ⟨_, _, ⟨T4, L4, k4, n4⟩, -, X4, ⟨Lc4, hQ4, l4, y4, z4⟩, st4⟩ := X3.virtualBack hx (y := own_y10) (z := own_y10) hown (mvT hZ (own_w hw 128 rfl)) (mvT hZ (own_w hw 129 rfl)) (notFace_of_selects (args := #[]) (mvT hZ (own_w hw 131 rfl))) (mvT hZ (own_w hw 131 rfl)) (mvT hZ (own_w hw 130 rfl)) (by decide) (backOf (W := 3) (own_rm18 l Z a0 hw [] b5005 j16 h0 n0 Z0 P6) hZ (own_w hw 132 rfl) (own_w hw 5 rfl) (by decide) (by decide)) q4a q4c (g := (mkF m 31 #[.val (.ref b2x4_14c5015), .val (.ref b5005), .val (.int (0 : Int32)), .val (.int ((0 : Int32) + (1 : Int32))), .val (.int ((((0 : Int32) + ((0 : Int32) + (1 : Int32))).toUInt32 >>> ((1 : Int32) &&& 31).toUInt32).toInt32))] [(.ref b5005), (.long j12), (.ref b5001)])) rfl (by rw [hml]; rfl) (Steps.refl _) (argsL := []) (rest := [(.long j12), (.ref b5001)]) (lenOf own_pd13 rfl) rfl (by show 2 * 0 + _ ≤ _; exact Nat.le_of_eq rfl) (hb hby own_d10_31) (fun _ _ => ⟨rfl, e3, (by decide : 0 + 0 ≤ _), (by decide : 0 + 0 ≤ _)⟩)
    dsimp only [Pt.U, Pt.locs, Pt.cells, Pt.slots] at X4 l4 y4 z4 st4 hQ4
    subst l4 y4 z4
    obtain ⟨N4q, e4, hL4⟩ := hQ4
    have N4 := Fr.app N3 N4q
    rcases hL4 with ⟨rfl, -⟩
    · skip
      refine own_st (fun t k => st4.trans k) ?_
      show own_Go _ _ _ _ T4 (mkF m 34 #[.val (.ref b2x4_14c5015), .val (.ref b5005), .val (.int (0 : Int32)), .val (.int ((0 : Int32) + (1 : Int32))), .val (.int ((((0 : Int32) + ((0 : Int32) + (1 : Int32))).toUInt32 >>> ((1 : Int32) &&& 31).toUInt32).toInt32))] [(.long j16), (.long j12), (.ref b5001)])
      obtain ⟨_, _, ⟨T5, L5, k5, n5⟩, -, X5, ⟨Lc5, hQ5, l5, y5, z5⟩, st5⟩ := own_callSN X4 hx (y := own_y9) hown (own_mvLN hZ (own_w hw 133 rfl)) (mvT hZ (own_w hw 134 rfl)) (mvT hZ (own_w hw 28 rfl)) (mvT hZ (own_w hw 135 rfl)) (by decide) (backOf (W := 0) (own_rm19 l Z a0 hw [] b5001 j12 j16 jp1 jp4 h0 n0 Z0 P7 P9 P8) hZ (own_w hw 135 rfl) (own_w hw 28 rfl) (by decide) (by decide)) (g := (mkF m 34 #[.val (.ref b2x4_14c5015), .val (.ref b5005), .val (.int (0 : Int32)), .val (.int ((0 : Int32) + (1 : Int32))), .val (.int ((((0 : Int32) + ((0 : Int32) + (1 : Int32))).toUInt32 >>> ((1 : Int32) &&& 31).toUInt32).toInt32))] [(.long j16), (.long j12), (.ref b5001)])) rfl (by rw [hml]; rfl) (argsL := [(.ref b5001), (.long j12), (.long j16)]) (rest := []) (lenOf own_pd14 rfl) rfl (by show 2 * 0 + _ ≤ _; exact Nat.le_of_eq rfl) (hb hby own_d10_34) (fun _ _ => ⟨rfl, e4, (by decide : 0 + 0 ≤ _), (by decide : 0 + 0 ≤ _)⟩)
      dsimp only [Pt.U, Pt.locs, Pt.cells, Pt.slots] at X5 l5 y5 z5 st5 hQ5
      subst l5 y5 z5
      obtain ⟨N5q, e5, hL5⟩ := hQ5
      have N5 := Fr.app N4 N5q
      rcases hL5 with ⟨rfl, hq5_0_0, -⟩ | ⟨rfl, hq5_1_0, -⟩
      · skip
        refine own_st st5 ?_
        show own_Go _ _ _ _ T5 (mkF m 37 #[.val (.ref b2x4_14c5015), .val (.ref b5005), .val (.int (0 : Int32)), .val (.int ((0 : Int32) + (1 : Int32))), .val (.int ((((0 : Int32) + ((0 : Int32) + (1 : Int32))).toUInt32 >>> ((1 : Int32) &&& 31).toUInt32).toInt32))] [(.int (1 : Int32))])
        refine own_st (fun t k => XS.ifNo X5.here hx rfl (hb hby own_d10_37) rfl ((if0 _ _).trans (feq (by decide : ¬ ((1 : Int32) = (0 : Int32)))).1) k) ?_
        refine own_st (fun t k => XS.iload X5.here hx rfl (hb hby own_d10_40) rfl k) ?_
        refine own_st (fun t k => XS.iconst X5.here hx rfl (hb hby own_d10_42) k) ?_
        refine own_st (fun t k => XS.iadd X5.here hx rfl (hb hby own_d10_43) rfl k) ?_
        show own_Go _ _ _ _ T5 (mkF m 44 #[.val (.ref b2x4_14c5015), .val (.ref b5005), .val (.int (0 : Int32)), .val (.int ((0 : Int32) + (1 : Int32))), .val (.int ((((0 : Int32) + ((0 : Int32) + (1 : Int32))).toUInt32 >>> ((1 : Int32) &&& 31).toUInt32).toInt32))] [(.int (((((0 : Int32) + ((0 : Int32) + (1 : Int32))).toUInt32 >>> ((1 : Int32) &&& 31).toUInt32).toInt32) + (1 : Int32)))])
        refine own_st (fun t k => XS.istoreN X5.here hx rfl (hb hby own_d10_44) rfl (l' := #[.val (.ref b2x4_14c5015), .val (.ref b5005), .val (.int (((((0 : Int32) + ((0 : Int32) + (1 : Int32))).toUInt32 >>> ((1 : Int32) &&& 31).toUInt32).toInt32) + (1 : Int32))), .val (.int ((0 : Int32) + (1 : Int32))), .val (.int ((((0 : Int32) + ((0 : Int32) + (1 : Int32))).toUInt32 >>> ((1 : Int32) &&& 31).toUInt32).toInt32))]) rfl k) ?_
        refine own_st (fun t k => XS.goto X5.here hx rfl (pc0 := 45) (pc' := 51) rfl (hb hby own_d10_45) (by decide) (by decide) k) ?_
        refine own_st (fun t k => XS.goto X5.here hx rfl (pc0 := 51) (pc' := 7) rfl (hb hby own_d10_51) (by decide) (by decide) k) ?_
        refine own_st (fun t k => XS.iloadN X5.here hx rfl (hb hby own_d10_7) rfl k) ?_
        show own_Go _ _ _ _ T5 (mkF m 8 #[.val (.ref b2x4_14c5015), .val (.ref b5005), .val (.int (((((0 : Int32) + ((0 : Int32) + (1 : Int32))).toUInt32 >>> ((1 : Int32) &&& 31).toUInt32).toInt32) + (1 : Int32))), .val (.int ((0 : Int32) + (1 : Int32))), .val (.int ((((0 : Int32) + ((0 : Int32) + (1 : Int32))).toUInt32 >>> ((1 : Int32) &&& 31).toUInt32).toInt32))] [(.int (((((0 : Int32) + ((0 : Int32) + (1 : Int32))).toUInt32 >>> ((1 : Int32) &&& 31).toUInt32).toInt32) + (1 : Int32)))])
        refine own_st (fun t k => XS.iloadN X5.here hx rfl (hb hby own_d10_8) rfl k) ?_
        show own_Go _ _ _ _ T5 (mkF m 9 #[.val (.ref b2x4_14c5015), .val (.ref b5005), .val (.int (((((0 : Int32) + ((0 : Int32) + (1 : Int32))).toUInt32 >>> ((1 : Int32) &&& 31).toUInt32).toInt32) + (1 : Int32))), .val (.int ((0 : Int32) + (1 : Int32))), .val (.int ((((0 : Int32) + ((0 : Int32) + (1 : Int32))).toUInt32 >>> ((1 : Int32) &&& 31).toUInt32).toInt32))] [(.int ((0 : Int32) + (1 : Int32))), (.int (((((0 : Int32) + ((0 : Int32) + (1 : Int32))).toUInt32 >>> ((1 : Int32) &&& 31).toUInt32).toInt32) + (1 : Int32)))])
        refine own_st (fun t k => XS.icmpYes X5.here hx rfl (pc0 := 9) (pc' := 54) rfl (hb hby own_d10_9) rfl (flt (by decide : ¬ ((((((0 : Int32) + ((0 : Int32) + (1 : Int32))).toUInt32 >>> ((1 : Int32) &&& 31).toUInt32).toInt32) + (1 : Int32)) < ((0 : Int32) + (1 : Int32))))).2.1 (by decide) (by decide) k) ?_
        refine own_st (fun t k => XS.iloadN X5.here hx rfl (hb hby own_d10_54) rfl k) ?_
        show own_Go _ _ _ _ T5 (mkF m 55 #[.val (.ref b2x4_14c5015), .val (.ref b5005), .val (.int (((((0 : Int32) + ((0 : Int32) + (1 : Int32))).toUInt32 >>> ((1 : Int32) &&& 31).toUInt32).toInt32) + (1 : Int32))), .val (.int ((0 : Int32) + (1 : Int32))), .val (.int ((((0 : Int32) + ((0 : Int32) + (1 : Int32))).toUInt32 >>> ((1 : Int32) &&& 31).toUInt32).toInt32))] [(.int (((((0 : Int32) + ((0 : Int32) + (1 : Int32))).toUInt32 >>> ((1 : Int32) &&& 31).toUInt32).toInt32) + (1 : Int32)))])
        exact own_retI X5 hx hlk hret (hb hby own_d10_55) (by decide) (by decide) e5 ⟨N5, (Keep.refl h0 []), (Or.inl ⟨rfl, hq5_0_0, trivial⟩)⟩
      · skip
        refine own_st st5 ?_
        show own_Go _ _ _ _ T5 (mkF m 37 #[.val (.ref b2x4_14c5015), .val (.ref b5005), .val (.int (0 : Int32)), .val (.int ((0 : Int32) + (1 : Int32))), .val (.int ((((0 : Int32) + ((0 : Int32) + (1 : Int32))).toUInt32 >>> ((1 : Int32) &&& 31).toUInt32).toInt32))] [(.int (0 : Int32))])
        refine own_st (fun t k => XS.ifYes X5.here hx rfl (pc0 := 37) (pc' := 48) rfl (hb hby own_d10_37) rfl ((if0 _ _).trans (teq (by decide : (0 : Int32) = (0 : Int32))).1) (by decide) (by decide) k) ?_
        refine own_st (fun t k => XS.iload X5.here hx rfl (hb hby own_d10_48) rfl k) ?_
        refine own_st (fun t k => XS.istoreN X5.here hx rfl (hb hby own_d10_50) rfl (l' := #[.val (.ref b2x4_14c5015), .val (.ref b5005), .val (.int (0 : Int32)), .val (.int ((((0 : Int32) + ((0 : Int32) + (1 : Int32))).toUInt32 >>> ((1 : Int32) &&& 31).toUInt32).toInt32)), .val (.int ((((0 : Int32) + ((0 : Int32) + (1 : Int32))).toUInt32 >>> ((1 : Int32) &&& 31).toUInt32).toInt32))]) rfl k) ?_
        refine own_st (fun t k => XS.goto X5.here hx rfl (pc0 := 51) (pc' := 7) rfl (hb hby own_d10_51) (by decide) (by decide) k) ?_
        show own_Go _ _ _ _ T5 (mkF m 7 #[.val (.ref b2x4_14c5015), .val (.ref b5005), .val (.int (0 : Int32)), .val (.int ((((0 : Int32) + ((0 : Int32) + (1 : Int32))).toUInt32 >>> ((1 : Int32) &&& 31).toUInt32).toInt32)), .val (.int ((((0 : Int32) + ((0 : Int32) + (1 : Int32))).toUInt32 >>> ((1 : Int32) &&& 31).toUInt32).toInt32))] [])
        refine own_st (fun t k => XS.iloadN X5.here hx rfl (hb hby own_d10_7) rfl k) ?_
        refine own_st (fun t k => XS.iloadN X5.here hx rfl (hb hby own_d10_8) rfl k) ?_
        show own_Go _ _ _ _ T5 (mkF m 9 #[.val (.ref b2x4_14c5015), .val (.ref b5005), .val (.int (0 : Int32)), .val (.int ((((0 : Int32) + ((0 : Int32) + (1 : Int32))).toUInt32 >>> ((1 : Int32) &&& 31).toUInt32).toInt32)), .val (.int ((((0 : Int32) + ((0 : Int32) + (1 : Int32))).toUInt32 >>> ((1 : Int32) &&& 31).toUInt32).toInt32))] [(.int ((((0 : Int32) + ((0 : Int32) + (1 : Int32))).toUInt32 >>> ((1 : Int32) &&& 31).toUInt32).toInt32)), (.int (0 : Int32))])
        refine own_st (fun t k => XS.icmpYes X5.here hx rfl (pc0 := 9) (pc' := 54) rfl (hb hby own_d10_9) rfl (flt (by decide : ¬ ((0 : Int32) < ((((0 : Int32) + ((0 : Int32) + (1 : Int32))).toUInt32 >>> ((1 : Int32) &&& 31).toUInt32).toInt32)))).2.1 (by decide) (by decide) k) ?_
        refine own_st (fun t k => XS.iloadN X5.here hx rfl (hb hby own_d10_54) rfl k) ?_
        show own_Go _ _ _ _ T5 (mkF m 55 #[.val (.ref b2x4_14c5015), .val (.ref b5005), .val (.int (0 : Int32)), .val (.int ((((0 : Int32) + ((0 : Int32) + (1 : Int32))).toUInt32 >>> ((1 : Int32) &&& 31).toUInt32).toInt32)), .val (.int ((((0 : Int32) + ((0 : Int32) + (1 : Int32))).toUInt32 >>> ((1 : Int32) &&& 31).toUInt32).toInt32))] [(.int (0 : Int32))])
        exact own_retI X5 hx hlk hret (hb hby own_d10_55) (by decide) (by decide) e5 ⟨N5, (Keep.refl h0 []), (Or.inr ⟨rfl, hq5_1_0, trivial⟩)⟩
theorem own_d20_0 : decode prog_18_method_4_code 0 = .ok (.aload_n 1, 1) := by decide +kernel
theorem own_d20_1 : decode prog_18_method_4_code 1 = .ok (.getfield 7, 3) := by decide +kernel
theorem own_d20_4 : decode prog_18_method_4_code 4 = .ok (.astore_n 2, 1) := by decide +kernel
theorem own_d20_5 : decode prog_18_method_4_code 5 = .ok (.iconst 0, 1) := by decide +kernel
theorem own_d20_6 : decode prog_18_method_4_code 6 = .ok (.istore_n 3, 1) := by decide +kernel
theorem own_d20_7 : decode prog_18_method_4_code 7 = .ok (.iconst 0, 1) := by decide +kernel
theorem own_d20_8 : decode prog_18_method_4_code 8 = .ok (.istore 4, 2) := by decide +kernel
theorem own_d20_10 : decode prog_18_method_4_code 10 = .ok (.iload 4, 2) := by decide +kernel
theorem own_d20_12 : decode prog_18_method_4_code 12 = .ok (.aload_n 0, 1) := by decide +kernel
theorem own_d20_13 : decode prog_18_method_4_code 13 = .ok (.getfield 7, 3) := by decide +kernel
theorem own_d20_16 : decode prog_18_method_4_code 16 = .ok (.arraylength, 1) := by decide +kernel
theorem own_d20_17 : decode prog_18_method_4_code 17 = .ok (.if_icmp .ge 97, 3) := by decide +kernel
theorem own_d20_114 : decode prog_18_method_4_code 114 = .ok (.iconst 1, 1) := by decide +kernel
theorem own_d20_115 : decode prog_18_method_4_code 115 = .ok (.ireturn, 1) := by decide +kernel
theorem own_ef20 (m : MethodId) (x0 : Addr) (x1 : Addr) : entryFrame m #[(.ref x0), (.ref x1)] 9 = mkF m 0 #[.val (.ref x0), .val (.ref x1), .unset, .unset, .unset, .unset, .unset, .unset, .unset] [] := by first | (simp [entryFrame, mkF, argsToLocals, Value.category]; done) | rfl
theorem own_pn5 : plainName own_s3 = true := by first | (simp [plainName, overriddenIn]; done) | decide +kernel
def own_Q20_107 (Z : State) (w_NONE : Addr) (w_NONE_names : Addr) (k_w_NONE_names : ClassId) (h0 : Heap) (n0 : Nat) (v : Option Value) (h : Heap) (L : List Loc) : Prop := Fr n0 L ∧ Keep h0 h [] ∧ ((v = some (.int (1 : Int32)) ∧ True))
set_option maxRecDepth 65536 in
set_option maxHeartbeats 40000000 in
theorem own_rm20_107 (l : Launch) (Z : State) (a0 : Array Value) (hw : ∀ d ∈ tables_1, d.before a0 Z = true) (ws : List Jvm.Cond) (w_NONE : Addr) (w_NONE_names : Addr) (k_w_NONE_names : ClassId) (h0 : Heap) (n0 : Nat) (Z0 : n0 ≤ h0.size) (P0 : Fld Z h0 w_NONE own_s3 "names" "[Ljava/lang/String;" (.ref w_NONE_names)) (P1 : Arv Z h0 w_NONE_names k_w_NONE_names (.object "java/lang/String") (0 : Int32) [] .null) :
    MetFree l own_y13 (head1 (Jvm.Cond.code own_y13 prog_18_method_4_code 9 (some .boolean) :: ws) ({ frames := 0, cells := 0, slots := 0, locals := 0 } : Room)) (fun a U => a = #[(.ref w_NONE), (.ref w_NONE)] ∧ Z.Warmed39 U.vm ∧ U.heap = h0) (fun _ _ _ _ _ => True) (fun _ U o U' => ∃ v L, o = .returned v ∧ own_Q20_107 Z w_NONE w_NONE_names k_w_NONE_names h0 n0 v U'.heap L ∧ FrameEnd U o U' L ({ frames := 0, cells := 0, slots := 0, locals := 0 } : Room).cells ({ frames := 0, cells := 0, slots := 0, locals := 0 } : Room).slots) := by
  refine MetFree.of_bodySF (plainFor_of_name own_pn5) hisR ?_
  intro p e s m args below meth c s₁ Bd hml0 hP hK
  obtain ⟨rfl, hZ, hh⟩ := hP
  have hx := Bd.exec
  have hlk := Bd.notSynchronized
  have hret := Bd.returns
  have hby := Bd.bytes
  have hml : c.maxLocals = 9 := hml0
  have hown : s.vm.findClass own_s3 = some m.cls := findClass_of_methodNamed Bd.named
  have hnm := (name_of_methodNamed Bd.named Bd.method).1
  have X0 : Stand p l e ({ frames := 0, cells := 0, slots := 0, locals := 0 } : Room) s m #[(.ref w_NONE), (.ref w_NONE)] below meth c s₁ [] 0 0 := Stand.of_body Bd
  have e0 : s₁.heap = h0 := by rw [← hh, Bd.state]; rfl
  have N0 := Fr.nil n0
  refine own_open (Q := own_Q20_107 Z w_NONE w_NONE_names k_w_NONE_names h0 n0) (own_ef20 m w_NONE w_NONE) ?_
  refine own_st (fun t k => XS.aloadN X0.here hx rfl (hb hby own_d20_0) rfl rfl k) ?_
  show own_Go _ _ _ _ s₁ (mkF m 1 #[.val (.ref w_NONE), .val (.ref w_NONE), .unset, .unset, .unset, .unset, .unset, .unset, .unset] [(.ref w_NONE)])
  obtain ⟨T1, X1, e1, st1⟩ := getF X0 hx hZ hown (host := "") (Or.inl (own_w hw 142 rfl)) Via.refl e0 P0 (g := (mkF m 1 #[.val (.ref w_NONE), .val (.ref w_NONE), .unset, .unset, .unset, .unset, .unset, .unset, .unset] [(.ref w_NONE)])) rfl rfl (hb hby own_d20_1)
  refine own_st st1 ?_
  refine own_st (fun t k => XS.astoreN X1.here hx rfl (hb hby own_d20_4) rfl rfl (l' := #[.val (.ref w_NONE), .val (.ref w_NONE), .val (.ref w_NONE_names), .unset, .unset, .unset, .unset, .unset, .unset]) rfl k) ?_
  show own_Go _ _ _ _ T1 (mkF m 5 #[.val (.ref w_NONE), .val (.ref w_NONE), .val (.ref w_NONE_names), .unset, .unset, .unset, .unset, .unset, .unset] [])
  refine own_st (fun t k => XS.iconst X1.here hx rfl (hb hby own_d20_5) k) ?_
  refine own_st (fun t k => XS.istoreN X1.here hx rfl (hb hby own_d20_6) rfl (l' := #[.val (.ref w_NONE), .val (.ref w_NONE), .val (.ref w_NONE_names), .val (.int (0 : Int32)), .unset, .unset, .unset, .unset, .unset]) rfl k) ?_
  refine own_st (fun t k => XS.iconst X1.here hx rfl (hb hby own_d20_7) k) ?_
  refine own_st (fun t k => XS.istore X1.here hx rfl (hb hby own_d20_8) rfl (l' := #[.val (.ref w_NONE), .val (.ref w_NONE), .val (.ref w_NONE_names), .val (.int (0 : Int32)), .val (.int (0 : Int32)), .unset, .unset, .unset, .unset]) rfl k) ?_
  show own_Go _ _ _ _ T1 (mkF m 10 #[.val (.ref w_NONE), .val (.ref w_NONE), .val (.ref w_NONE_names), .val (.int (0 : Int32)), .val (.int (0 : Int32)), .unset, .unset, .unset, .unset] [])
  refine own_st (fun t k => XS.iload X1.here hx rfl (hb hby own_d20_10) rfl k) ?_
  refine own_st (fun t k => XS.aloadN X1.here hx rfl (hb hby own_d20_12) rfl rfl k) ?_
  show own_Go _ _ _ _ T1 (mkF m 13 #[.val (.ref w_NONE), .val (.ref w_NONE), .val (.ref w_NONE_names), .val (.int (0 : Int32)), .val (.int (0 : Int32)), .unset, .unset, .unset, .unset] [(.ref w_NONE), (.int (0 : Int32))])
  obtain ⟨T2, X2, e2, st2⟩ := getF X1 hx hZ hown (host := "") (Or.inl (own_w hw 142 rfl)) Via.refl e1 P0 (g := (mkF m 13 #[.val (.ref w_NONE), .val (.ref w_NONE), .val (.ref w_NONE_names), .val (.int (0 : Int32)), .val (.int (0 : Int32)), .unset, .unset, .unset, .unset] [(.ref w_NONE), (.int (0 : Int32))])) rfl rfl (hb hby own_d20_13)
  refine own_st st2 ?_
  show own_Go _ _ _ _ T2 (mkF m 16 #[.val (.ref w_NONE), .val (.ref w_NONE), .val (.ref w_NONE_names), .val (.int (0 : Int32)), .val (.int (0 : Int32)), .unset, .unset, .unset, .unset] [(.ref w_NONE_names), (.int (0 : Int32))])
  refine own_st (own_alen X2 hx hZ e2 P1 (g := (mkF m 16 #[.val (.ref w_NONE), .val (.ref w_NONE), .val (.ref w_NONE_names), .val (.int (0 : Int32)), .val (.int (0 : Int32)), .unset, .unset, .unset, .unset] [(.ref w_NONE_names), (.int (0 : Int32))])) rfl rfl (hb hby own_d20_16)) ?_
  show own_Go _ _ _ _ T2 (mkF m 17 #[.val (.ref w_NONE), .val (.ref w_NONE), .val (.ref w_NONE_names), .val (.int (0 : Int32)), .val (.int (0 : Int32)), .unset, .unset, .unset, .unset] [(.int (0 : Int32)), (.int (0 : Int32))])
  refine own_st (fun t k => XS.icmpYes X2.here hx rfl (pc0 := 17) (pc' := 114) rfl (hb hby own_d20_17) rfl (flt (by decide : ¬ ((0 : Int32) < (0 : Int32)))).2.1 (by decide) (by decide) k) ?_
  refine own_st (fun t k => XS.iconst X2.here hx rfl (hb hby own_d20_114) k) ?_
  show own_Go _ _ _ _ T2 (mkF m 115 #[.val (.ref w_NONE), .val (.ref w_NONE), .val (.ref w_NONE_names), .val (.int (0 : Int32)), .val (.int (0 : Int32)), .unset, .unset, .unset, .unset] [(.int (1 : Int32))])
  exact own_retZ X2 hx hlk (t := .boolean) hret (by simp) (hb hby own_d20_115) (by decide) (by decide) e2 ⟨N0, (Keep.refl h0 []), ⟨rfl, trivial⟩⟩
theorem own_pd15 : parseMethodDescriptor "(Lcom/example/lonborg/lonborg/Resources;)Z" = some ⟨[(.object own_s3)], some .boolean⟩ := by decide +kernel
theorem own_d13_17 : decode prog_8_method_3_code 17 = .ok (.aload_n 0, 1) := by decide +kernel
theorem own_d13_18 : decode prog_8_method_3_code 18 = .ok (.getfield 7, 3) := by decide +kernel
theorem own_d13_21 : decode prog_8_method_3_code 21 = .ok (.iload_n 3, 1) := by decide +kernel
theorem own_d13_22 : decode prog_8_method_3_code 22 = .ok (.aaload, 1) := by decide +kernel
theorem own_d13_23 : decode prog_8_method_3_code 23 = .ok (.aload_n 1, 1) := by decide +kernel
theorem own_d13_24 : decode prog_8_method_3_code 24 = .ok (.invokevirtual 13, 3) := by decide +kernel
theorem own_d13_27 : decode prog_8_method_3_code 27 = .ok (.ifCond .eq 5, 3) := by decide +kernel
theorem own_d13_30 : decode prog_8_method_3_code 30 = .ok (.aload_n 0, 1) := by decide +kernel
theorem own_d13_31 : decode prog_8_method_3_code 31 = .ok (.areturn, 1) := by decide +kernel
def own_Q13_106 (Z : State) (b6x14_69c4c13c16c2c5044 : Addr) (w_NONE : Addr) (b3x14_69c4c13c16c2c5044 : Addr) (k3x14_69c4c13c16c2c5044 : ClassId) (w_NONE_names : Addr) (k_w_NONE_names : ClassId) (h0 : Heap) (n0 : Nat) (v : Option Value) (h : Heap) (L : List Loc) : Prop := Fr n0 L ∧ Keep h0 h [] ∧ ((v = some (.ref b6x14_69c4c13c16c2c5044) ∧ True))
set_option maxRecDepth 65536 in
set_option maxHeartbeats 40000000 in
theorem own_rm13_106 (l : Launch) (Z : State) (a0 : Array Value) (hw : ∀ d ∈ tables_1, d.before a0 Z = true) (ws : List Jvm.Cond) (b6x14_69c4c13c16c2c5044 : Addr) (w_NONE : Addr) (b3x14_69c4c13c16c2c5044 : Addr) (k3x14_69c4c13c16c2c5044 : ClassId) (w_NONE_names : Addr) (k_w_NONE_names : ClassId) (h0 : Heap) (n0 : Nat) (Z0 : n0 ≤ h0.size) (P0 : Fld Z h0 b6x14_69c4c13c16c2c5044 own_s2 "parts" own_s9 (.ref b3x14_69c4c13c16c2c5044)) (P1 : Arv Z h0 b3x14_69c4c13c16c2c5044 k3x14_69c4c13c16c2c5044 (.object own_s3) ((0 : Int32) + (1 : Int32)) [(.ref w_NONE)] .null) (OFc5044_0_9 : Ovr Z k3x14_69c4c13c16c2c5044 own_s3) (P3 : Fld Z h0 w_NONE own_s3 "names" "[Ljava/lang/String;" (.ref w_NONE_names)) (P4 : Arv Z h0 w_NONE_names k_w_NONE_names (.object "java/lang/String") (0 : Int32) [] .null) (P5 : Exa Z h0 w_NONE own_s3) :
    MetFree l own_y8 (head1 (Jvm.Cond.code own_y8 prog_8_method_3_code 4 (some (.object own_s2)) :: ws) ({ frames := 1, cells := 0, slots := 0, locals := 20 } : Room)) (fun a U => a = #[(.ref b6x14_69c4c13c16c2c5044), (.ref w_NONE)] ∧ Z.Warmed39 U.vm ∧ U.heap = h0) (fun _ _ _ _ _ => True) (fun _ U o U' => ∃ v L, o = .returned v ∧ own_Q13_106 Z b6x14_69c4c13c16c2c5044 w_NONE b3x14_69c4c13c16c2c5044 k3x14_69c4c13c16c2c5044 w_NONE_names k_w_NONE_names h0 n0 v U'.heap L ∧ FrameEnd U o U' L ({ frames := 1, cells := 0, slots := 0, locals := 20 } : Room).cells ({ frames := 1, cells := 0, slots := 0, locals := 20 } : Room).slots) := by
  refine MetFree.of_bodySF (plainFor_of_name own_pn4) hisR ?_
  intro p e s m args below meth c s₁ Bd hml0 hP hK
  obtain ⟨rfl, hZ, hh⟩ := hP
  have hx := Bd.exec
  have hlk := Bd.notSynchronized
  have hret := Bd.returns
  have hby := Bd.bytes
  have hml : c.maxLocals = 4 := hml0
  have hown : s.vm.findClass own_s2 = some m.cls := findClass_of_methodNamed Bd.named
  have hnm := (name_of_methodNamed Bd.named Bd.method).1
  have X0 : Stand p l e ({ frames := 1, cells := 0, slots := 0, locals := 20 } : Room) s m #[(.ref b6x14_69c4c13c16c2c5044), (.ref w_NONE)] below meth c s₁ [] 0 0 := Stand.of_body Bd
  have e0 : s₁.heap = h0 := by rw [← hh, Bd.state]; rfl
  have N0 := Fr.nil n0
  refine own_open (Q := own_Q13_106 Z b6x14_69c4c13c16c2c5044 w_NONE b3x14_69c4c13c16c2c5044 k3x14_69c4c13c16c2c5044 w_NONE_names k_w_NONE_names h0 n0) (own_ef13 m b6x14_69c4c13c16c2c5044 w_NONE) ?_
  refine own_st (fun t k => XS.aloadN X0.here hx rfl (hb hby own_d13_0) rfl rfl k) ?_
  show own_Go _ _ _ _ s₁ (mkF m 1 #[.val (.ref b6x14_69c4c13c16c2c5044), .val (.ref w_NONE), .unset, .unset] [(.ref b6x14_69c4c13c16c2c5044)])
  obtain ⟨T1, X1, e1, st1⟩ := getF X0 hx hZ hown (host := "") (Or.inl (own_w hw 99 rfl)) Via.refl e0 P0 (g := (mkF m 1 #[.val (.ref b6x14_69c4c13c16c2c5044), .val (.ref w_NONE), .unset, .unset] [(.ref b6x14_69c4c13c16c2c5044)])) rfl rfl (hb hby own_d13_1)
  refine own_st st1 ?_
  show own_Go _ _ _ _ T1 (mkF m 4 #[.val (.ref b6x14_69c4c13c16c2c5044), .val (.ref w_NONE), .unset, .unset] [(.ref b3x14_69c4c13c16c2c5044)])
  refine own_st (own_alen X1 hx hZ e1 P1 (g := (mkF m 4 #[.val (.ref b6x14_69c4c13c16c2c5044), .val (.ref w_NONE), .unset, .unset] [(.ref b3x14_69c4c13c16c2c5044)])) rfl rfl (hb hby own_d13_4)) ?_
  show own_Go _ _ _ _ T1 (mkF m 5 #[.val (.ref b6x14_69c4c13c16c2c5044), .val (.ref w_NONE), .unset, .unset] [(.int ((0 : Int32) + (1 : Int32)))])
  refine own_st (fun t k => XS.istoreN X1.here hx rfl (hb hby own_d13_5) rfl (l' := #[.val (.ref b6x14_69c4c13c16c2c5044), .val (.ref w_NONE), .val (.int ((0 : Int32) + (1 : Int32))), .unset]) rfl k) ?_
  refine own_st (fun t k => XS.iconst X1.here hx rfl (hb hby own_d13_6) k) ?_
  refine own_st (fun t k => XS.istoreN X1.here hx rfl (hb hby own_d13_7) rfl (l' := #[.val (.ref b6x14_69c4c13c16c2c5044), .val (.ref w_NONE), .val (.int ((0 : Int32) + (1 : Int32))), .val (.int (0 : Int32))]) rfl k) ?_
  refine own_st (fun t k => XS.iloadN X1.here hx rfl (hb hby own_d13_8) rfl k) ?_
  show own_Go _ _ _ _ T1 (mkF m 9 #[.val (.ref b6x14_69c4c13c16c2c5044), .val (.ref w_NONE), .val (.int ((0 : Int32) + (1 : Int32))), .val (.int (0 : Int32))] [(.int (0 : Int32))])
  refine own_st (fun t k => XS.aloadN X1.here hx rfl (hb hby own_d13_9) rfl rfl k) ?_
  show own_Go _ _ _ _ T1 (mkF m 10 #[.val (.ref b6x14_69c4c13c16c2c5044), .val (.ref w_NONE), .val (.int ((0 : Int32) + (1 : Int32))), .val (.int (0 : Int32))] [(.ref b6x14_69c4c13c16c2c5044), (.int (0 : Int32))])
  obtain ⟨T2, X2, e2, st2⟩ := getF X1 hx hZ hown (host := "") (Or.inl (own_w hw 99 rfl)) Via.refl e1 P0 (g := (mkF m 10 #[.val (.ref b6x14_69c4c13c16c2c5044), .val (.ref w_NONE), .val (.int ((0 : Int32) + (1 : Int32))), .val (.int (0 : Int32))] [(.ref b6x14_69c4c13c16c2c5044), (.int (0 : Int32))])) rfl rfl (hb hby own_d13_10)
  refine own_st st2 ?_
  show own_Go _ _ _ _ T2 (mkF m 13 #[.val (.ref b6x14_69c4c13c16c2c5044), .val (.ref w_NONE), .val (.int ((0 : Int32) + (1 : Int32))), .val (.int (0 : Int32))] [(.ref b3x14_69c4c13c16c2c5044), (.int (0 : Int32))])
  refine own_st (own_alen X2 hx hZ e2 P1 (g := (mkF m 13 #[.val (.ref b6x14_69c4c13c16c2c5044), .val (.ref w_NONE), .val (.int ((0 : Int32) + (1 : Int32))), .val (.int (0 : Int32))] [(.ref b3x14_69c4c13c16c2c5044), (.int (0 : Int32))])) rfl rfl (hb hby own_d13_13)) ?_
  show own_Go _ _ _ _ T2 (mkF m 14 #[.val (.ref b6x14_69c4c13c16c2c5044), .val (.ref w_NONE), .val (.int ((0 : Int32) + (1 : Int32))), .val (.int (0 : Int32))] [(.int ((0 : Int32) + (1 : Int32))), (.int (0 : Int32))])
  refine own_st (fun t k => XS.icmpNo X2.here hx rfl (hb hby own_d13_14) rfl (tlt (by decide : (0 : Int32) < ((0 : Int32) + (1 : Int32)))).2.1 k) ?_
  show own_Go _ _ _ _ T2 (mkF m 17 #[.val (.ref b6x14_69c4c13c16c2c5044), .val (.ref w_NONE), .val (.int ((0 : Int32) + (1 : Int32))), .val (.int (0 : Int32))] [])
  refine own_st (fun t k => XS.aloadN X2.here hx rfl (hb hby own_d13_17) rfl rfl k) ?_
  show own_Go _ _ _ _ T2 (mkF m 18 #[.val (.ref b6x14_69c4c13c16c2c5044), .val (.ref w_NONE), .val (.int ((0 : Int32) + (1 : Int32))), .val (.int (0 : Int32))] [(.ref b6x14_69c4c13c16c2c5044)])
  obtain ⟨T3, X3, e3, st3⟩ := getF X2 hx hZ hown (host := "") (Or.inl (own_w hw 99 rfl)) Via.refl e2 P0 (g := (mkF m 18 #[.val (.ref b6x14_69c4c13c16c2c5044), .val (.ref w_NONE), .val (.int ((0 : Int32) + (1 : Int32))), .val (.int (0 : Int32))] [(.ref b6x14_69c4c13c16c2c5044)])) rfl rfl (hb hby own_d13_18)
  refine own_st st3 ?_
  refine own_st (fun t k => XS.iloadN X3.here hx rfl (hb hby own_d13_21) rfl k) ?_
  show own_Go _ _ _ _ T3 (mkF m 22 #[.val (.ref b6x14_69c4c13c16c2c5044), .val (.ref w_NONE), .val (.int ((0 : Int32) + (1 : Int32))), .val (.int (0 : Int32))] [(.int (0 : Int32)), (.ref b3x14_69c4c13c16c2c5044)])
  refine own_st (own_aaload X3 hx hZ e3 P1 rfl (j := (0 : Int32)) (v := (.ref w_NONE)) ⟨by decide, by decide⟩ rfl (g := (mkF m 22 #[.val (.ref b6x14_69c4c13c16c2c5044), .val (.ref w_NONE), .val (.int ((0 : Int32) + (1 : Int32))), .val (.int (0 : Int32))] [(.int (0 : Int32)), (.ref b3x14_69c4c13c16c2c5044)])) rfl rfl (hb hby own_d13_22)) ?_
  show own_Go _ _ _ _ T3 (mkF m 23 #[.val (.ref b6x14_69c4c13c16c2c5044), .val (.ref w_NONE), .val (.int ((0 : Int32) + (1 : Int32))), .val (.int (0 : Int32))] [(.ref w_NONE)])
  refine own_st (fun t k => XS.aloadN X3.here hx rfl (hb hby own_d13_23) rfl rfl k) ?_
  show own_Go _ _ _ _ T3 (mkF m 24 #[.val (.ref b6x14_69c4c13c16c2c5044), .val (.ref w_NONE), .val (.int ((0 : Int32) + (1 : Int32))), .val (.int (0 : Int32))] [(.ref w_NONE), (.ref w_NONE)])
  obtain ⟨cq4, kq4, q4a, q4b, q4c⟩ := isOf hZ e3 P5
  obtain ⟨_, _, ⟨T4, L4, k4, n4⟩, -, X4, ⟨Lc4, hQ4, l4, y4, z4⟩, st4⟩ := X3.virtualBack hx (y := own_y13) (z := own_y13) hown (mvT hZ (own_w hw 137 rfl)) (mvT hZ (own_w hw 138 rfl)) (notFace_of_selects (args := #[]) (mvT hZ (own_w hw 140 rfl))) (mvT hZ (own_w hw 140 rfl)) (mvT hZ (own_w hw 139 rfl)) (by decide) (backOf (W := 0) (own_rm20_107 l Z a0 hw [] w_NONE w_NONE_names k_w_NONE_names h0 n0 Z0 P3 P4) hZ (own_w hw 141 rfl) (own_w hw 7 rfl) (by decide) (by decide)) q4a q4c (g := (mkF m 24 #[.val (.ref b6x14_69c4c13c16c2c5044), .val (.ref w_NONE), .val (.int ((0 : Int32) + (1 : Int32))), .val (.int (0 : Int32))] [(.ref w_NONE), (.ref w_NONE)])) rfl (by rw [hml]; rfl) (Steps.refl _) (argsL := [(.ref w_NONE)]) (rest := []) (lenOf own_pd15 rfl) rfl (by show 2 * 0 + _ ≤ _; exact Nat.le_of_eq rfl) (hb hby own_d13_24) (fun _ _ => ⟨rfl, e3, (by decide : 0 + 0 ≤ _), (by decide : 0 + 0 ≤ _)⟩)
  dsimp only [Pt.U, Pt.locs, Pt.cells, Pt.slots] at X4 l4 y4 z4 st4 hQ4
  subst l4 y4 z4
  obtain ⟨N4q, Kq4, hL4⟩ := hQ4
  have N4 := Fr.app N0 N4q
  have K4 : Keep h0 T4.heap [] := (Keep.refl h0 []).trans Kq4 all0
  have Z4 := Nat.le_trans Z0 Kq4.1
  rcases hL4 with ⟨rfl, -⟩
  · skip
    refine own_st (fun t k => st4.trans k) ?_
    show own_Go _ _ _ _ T4 (mkF m 27 #[.val (.ref b6x14_69c4c13c16c2c5044), .val (.ref w_NONE), .val (.int ((0 : Int32) + (1 : Int32))), .val (.int (0 : Int32))] [(.int (1 : Int32))])
    refine own_st (fun t k => XS.ifNo X4.here hx rfl (hb hby own_d13_27) rfl ((if0 _ _).trans (feq (by decide : ¬ ((1 : Int32) = (0 : Int32)))).1) k) ?_
    refine own_st (fun t k => XS.aloadN X4.here hx rfl (hb hby own_d13_30) rfl rfl k) ?_
    show own_Go _ _ _ _ T4 (mkF m 31 #[.val (.ref b6x14_69c4c13c16c2c5044), .val (.ref w_NONE), .val (.int ((0 : Int32) + (1 : Int32))), .val (.int (0 : Int32))] [(.ref b6x14_69c4c13c16c2c5044)])
    exact own_retA X4 hx hlk hret rfl rfl (hb hby own_d13_31) (by decide) (by decide) rfl ⟨N4, K4, ⟨rfl, trivial⟩⟩
def own_Q12_105 (Z : State) (b2x4_14c5015 : Addr) (w_NONE : Addr) (b6x14_69c4c13c16c2c5044 : Addr) (b3x14_69c4c13c16c2c5044 : Addr) (k3x14_69c4c13c16c2c5044 : ClassId) (w_NONE_names : Addr) (k_w_NONE_names : ClassId) (b2x5_18c4c5015 : Addr) (h0 : Heap) (n0 : Nat) (v : Option Value) (h : Heap) (L : List Loc) : Prop := Fr n0 L ∧ Keep h0 h [b2x4_14c5015] ∧ ((v = none ∧ Fld Z h b2x4_14c5015 own_s0 "count" "I" (.int ((0 : Int32) + (1 : Int32))) ∧ Fld Z h b2x4_14c5015 own_s0 "least" own_s6 (.ref b6x14_69c4c13c16c2c5044) ∧ Fld Z h b2x4_14c5015 own_s5 "items" own_s8 (.ref b2x5_18c4c5015) ∧ Fld Z h b2x4_14c5015 own_s0 "stale" "Z" (.int (0 : Int32)) ∧ True))
set_option maxRecDepth 65536 in
set_option maxHeartbeats 40000000 in
theorem own_rm12_105 (l : Launch) (Z : State) (a0 : Array Value) (hw : ∀ d ∈ tables_1, d.before a0 Z = true) (ws : List Jvm.Cond) (b2x4_14c5015 : Addr) (w_NONE : Addr) (b6x14_69c4c13c16c2c5044 : Addr) (b3x14_69c4c13c16c2c5044 : Addr) (k3x14_69c4c13c16c2c5044 : ClassId) (w_NONE_names : Addr) (k_w_NONE_names : ClassId) (b2x5_18c4c5015 : Addr) (h0 : Heap) (n0 : Nat) (Z0 : n0 ≤ h0.size) (P0 : Fld Z h0 b2x4_14c5015 own_s0 "count" "I" (.int ((0 : Int32) + (1 : Int32)))) (P1 : Fld Z h0 b2x4_14c5015 own_s0 "least" own_s6 (.ref b6x14_69c4c13c16c2c5044)) (P2 : Fld Z h0 b6x14_69c4c13c16c2c5044 own_s2 "parts" own_s9 (.ref b3x14_69c4c13c16c2c5044)) (P3 : Arv Z h0 b3x14_69c4c13c16c2c5044 k3x14_69c4c13c16c2c5044 (.object own_s3) ((0 : Int32) + (1 : Int32)) [(.ref w_NONE)] .null) (OFc5044_0_9 : Ovr Z k3x14_69c4c13c16c2c5044 own_s3) (P5 : Fld Z h0 w_NONE own_s3 "names" "[Ljava/lang/String;" (.ref w_NONE_names)) (P6 : Arv Z h0 w_NONE_names k_w_NONE_names (.object "java/lang/String") (0 : Int32) [] .null) (P7 : Exa Z h0 w_NONE own_s3) (P8 : Exa Z h0 b6x14_69c4c13c16c2c5044 own_s2) (P9 : Exa Z h0 b2x4_14c5015 own_s5) (g_b2x4_14c5015 : n0 ≤ b2x4_14c5015) (P11 : Fld Z h0 b2x4_14c5015 own_s5 "items" own_s8 (.ref b2x5_18c4c5015)) (P12 : Fld Z h0 b2x4_14c5015 own_s0 "stale" "Z" (.int (0 : Int32))) :
    MetFree l own_y6 (head1 (Jvm.Cond.code own_y6 prog_5_method_10_code 2 none :: ws) ({ frames := 2, cells := 0, slots := 0, locals := 36 } : Room)) (fun a U => a = #[(.ref b2x4_14c5015), (.ref w_NONE)] ∧ Z.Warmed39 U.vm ∧ U.heap = h0) (fun _ _ _ _ _ => True) (fun _ U o U' => ∃ v L, o = .returned v ∧ own_Q12_105 Z b2x4_14c5015 w_NONE b6x14_69c4c13c16c2c5044 b3x14_69c4c13c16c2c5044 k3x14_69c4c13c16c2c5044 w_NONE_names k_w_NONE_names b2x5_18c4c5015 h0 n0 v U'.heap L ∧ FrameEnd U o U' L ({ frames := 2, cells := 0, slots := 0, locals := 36 } : Room).cells ({ frames := 2, cells := 0, slots := 0, locals := 36 } : Room).slots) := by
  refine MetFree.of_bodySF (plainFor_of_name own_pn1) hisR ?_
  intro p e s m args below meth c s₁ Bd hml0 hP hK
  obtain ⟨rfl, hZ, hh⟩ := hP
  have hx := Bd.exec
  have hlk := Bd.notSynchronized
  have hret := Bd.returns
  have hby := Bd.bytes
  have hml : c.maxLocals = 2 := hml0
  have hown : s.vm.findClass own_s0 = some m.cls := findClass_of_methodNamed Bd.named
  have hnm := (name_of_methodNamed Bd.named Bd.method).1
  have X0 : Stand p l e ({ frames := 2, cells := 0, slots := 0, locals := 36 } : Room) s m #[(.ref b2x4_14c5015), (.ref w_NONE)] below meth c s₁ [] 0 0 := Stand.of_body Bd
  have e0 : s₁.heap = h0 := by rw [← hh, Bd.state]; rfl
  have N0 := Fr.nil n0
  refine own_open (Q := own_Q12_105 Z b2x4_14c5015 w_NONE b6x14_69c4c13c16c2c5044 b3x14_69c4c13c16c2c5044 k3x14_69c4c13c16c2c5044 w_NONE_names k_w_NONE_names b2x5_18c4c5015 h0 n0) (own_ef12 m b2x4_14c5015 w_NONE) ?_
  refine own_st (fun t k => XS.aloadN X0.here hx rfl (hb hby own_d12_0) rfl rfl k) ?_
  show own_Go _ _ _ _ s₁ (mkF m 1 #[.val (.ref b2x4_14c5015), .val (.ref w_NONE)] [(.ref b2x4_14c5015)])
  obtain ⟨T1, X1, e1, st1⟩ := getF X0 hx hZ hown (host := "") (Or.inl (own_w hw 91 rfl)) Via.refl e0 P0 (g := (mkF m 1 #[.val (.ref b2x4_14c5015), .val (.ref w_NONE)] [(.ref b2x4_14c5015)])) rfl rfl (hb hby own_d12_1)
  refine own_st st1 ?_
  show own_Go _ _ _ _ T1 (mkF m 4 #[.val (.ref b2x4_14c5015), .val (.ref w_NONE)] [(.int ((0 : Int32) + (1 : Int32)))])
  refine own_st (fun t k => XS.ifYes X1.here hx rfl (pc0 := 4) (pc' := 19) rfl (hb hby own_d12_4) rfl ((if0 _ _).trans (feq (by decide : ¬ (((0 : Int32) + (1 : Int32)) = (0 : Int32)))).2) (by decide) (by decide) k) ?_
  show own_Go _ _ _ _ T1 (mkF m 19 #[.val (.ref b2x4_14c5015), .val (.ref w_NONE)] [])
  refine own_st (fun t k => XS.aloadN X1.here hx rfl (hb hby own_d12_19) rfl rfl k) ?_
  refine own_st (fun t k => XS.aloadN X1.here hx rfl (hb hby own_d12_20) rfl rfl k) ?_
  show own_Go _ _ _ _ T1 (mkF m 21 #[.val (.ref b2x4_14c5015), .val (.ref w_NONE)] [(.ref b2x4_14c5015), (.ref b2x4_14c5015)])
  obtain ⟨T2, X2, e2, st2⟩ := getF X1 hx hZ hown (host := "") (Or.inl (own_w hw 48 rfl)) Via.refl e1 P1 (g := (mkF m 21 #[.val (.ref b2x4_14c5015), .val (.ref w_NONE)] [(.ref b2x4_14c5015), (.ref b2x4_14c5015)])) rfl rfl (hb hby own_d12_21)
  refine own_st st2 ?_
  refine own_st (fun t k => XS.aloadN X2.here hx rfl (hb hby own_d12_24) rfl rfl k) ?_
  show own_Go _ _ _ _ T2 (mkF m 25 #[.val (.ref b2x4_14c5015), .val (.ref w_NONE)] [(.ref w_NONE), (.ref b6x14_69c4c13c16c2c5044), (.ref b2x4_14c5015)])
  obtain ⟨cq3, kq3, q3a, q3b, q3c⟩ := isOf hZ e2 P8
  obtain ⟨_, _, ⟨T3, L3, k3, n3⟩, -, X3, ⟨Lc3, hQ3, l3, y3, z3⟩, st3⟩ := X2.virtualBack hx (y := own_y8) (z := own_y8) hown (mvT hZ (own_w hw 94 rfl)) (mvT hZ (own_w hw 95 rfl)) (notFace_of_selects (args := #[]) (mvT hZ (own_w hw 97 rfl))) (mvT hZ (own_w hw 97 rfl)) (mvT hZ (own_w hw 96 rfl)) (by decide) (backOf (W := 1) (own_rm13_106 l Z a0 hw [] b6x14_69c4c13c16c2c5044 w_NONE b3x14_69c4c13c16c2c5044 k3x14_69c4c13c16c2c5044 w_NONE_names k_w_NONE_names h0 n0 Z0 P2 P3 OFc5044_0_9 P5 P6 P7) hZ (own_w hw 98 rfl) (own_w hw 46 rfl) (by decide) (by decide)) q3a q3c (g := (mkF m 25 #[.val (.ref b2x4_14c5015), .val (.ref w_NONE)] [(.ref w_NONE), (.ref b6x14_69c4c13c16c2c5044), (.ref b2x4_14c5015)])) rfl (by rw [hml]; rfl) (Steps.refl _) (argsL := [(.ref w_NONE)]) (rest := [(.ref b2x4_14c5015)]) (lenOf own_pd9 rfl) rfl (by show 2 * 0 + _ ≤ _; exact Nat.le_of_eq rfl) (hb hby own_d12_25) (fun _ _ => ⟨rfl, e2, (by decide : 0 + 0 ≤ _), (by decide : 0 + 0 ≤ _)⟩)
  dsimp only [Pt.U, Pt.locs, Pt.cells, Pt.slots] at X3 l3 y3 z3 st3 hQ3
  subst l3 y3 z3
  obtain ⟨N3q, Kq3, hL3⟩ := hQ3
  have N3 := Fr.app N0 N3q
  have K3 : Keep h0 T3.heap [b2x4_14c5015] := (Keep.refl h0 [b2x4_14c5015]).trans Kq3 all0
  have Z3 := Nat.le_trans Z0 Kq3.1
  rcases hL3 with ⟨rfl, -⟩
  · skip
    refine own_st (fun t k => st3.trans k) ?_
    show own_Go _ _ _ _ T3 (mkF m 28 #[.val (.ref b2x4_14c5015), .val (.ref w_NONE)] [(.ref b6x14_69c4c13c16c2c5044), (.ref b2x4_14c5015)])
    have f4 := (P9.keep Kq3)
    have f5 := (P1.keep Kq3 nin0)
    obtain ⟨T6, h6, X6, e6, W6, st6⟩ := putF X3 hx hZ hown (host := "") (Or.inl (own_w hw 48 rfl)) Via.refl rfl f5 f4 (Or.inl (own_w hw 49 rfl)) (own_w hw 34 rfl) (ty := (.object own_s2)) (by decide) rfl rfl (g := (mkF m 28 #[.val (.ref b2x4_14c5015), .val (.ref w_NONE)] [(.ref b6x14_69c4c13c16c2c5044), (.ref b2x4_14c5015)])) rfl rfl (hb hby own_d12_28)
    refine own_st st6 ?_
    have K6 : Keep h0 h6 [b2x4_14c5015] := K3.wr W6 (Or.inl (List.mem_of_getElem? (i := 0) rfl))
    have Z6 := Nat.le_trans Z3 (Keep.of_wr W6).1
    have N6 := Fr.snoc X6 N3 g_b2x4_14c5015
    have F6 := f5.same W6
    show own_Go _ _ _ _ T6 (mkF m 31 #[.val (.ref b2x4_14c5015), .val (.ref w_NONE)] [])
    have f7 := ((P0.keep Kq3 nin0).other W6 (Or.inr (slot_ne (Or.inl (own_w hw 79 rfl)) (Or.inl (own_w hw 49 rfl)) (by decide) (t := .int) (t' := (.object own_s2)) (by decide) (by decide))))
    have f8 := ((P11.keep Kq3 nin0).other W6 (Or.inr (slot_ne (Or.inr (own_w hw 53 rfl)) (Or.inl (own_w hw 49 rfl)) (by decide) (t := (.array (.object own_s1))) (t' := (.object own_s2)) (by decide) (by decide))))
    have f9 := ((P12.keep Kq3 nin0).other W6 (Or.inr (slot_ne (Or.inl (own_w hw 93 rfl)) (Or.inl (own_w hw 49 rfl)) (by decide) (t := .boolean) (t' := (.object own_s2)) (by decide) (by decide))))
    exact own_retV X6 hx hlk hret (hb hby own_d12_31) (by decide) (by decide) e6 ⟨N6, K6, ⟨rfl, f7, F6, f8, f9, trivial⟩⟩
def own_Q9_100 (Z : State) (b2x4_14c5015 : Addr) (b5005 : Addr) (b2x5_18c4c5015 : Addr) (k2x5_18c4c5015c2c5044 : ClassId) (b5001 : Addr) (j12 : Int64) (j16 : Int64) (jp1 : Int64) (jp4 : Int64) (w_NONE : Addr) (b6x14_69c4c13c16c2c5044 : Addr) (b3x14_69c4c13c16c2c5044 : Addr) (k3x14_69c4c13c16c2c5044 : ClassId) (w_NONE_names : Addr) (k_w_NONE_names : ClassId) (h0 : Heap) (n0 : Nat) (v : Option Value) (h : Heap) (L : List Loc) : Prop := Fr n0 L ∧ Keep h0 h [b2x4_14c5015, b2x5_18c4c5015] ∧ ((∃ k2x5_18c4c5015c2c5044 : ClassId, v = some .null ∧ (own_lt jp1 jp4 j12 j16) ∧ Fld Z h b2x4_14c5015 own_s0 "count" "I" (.int (((0 : Int32) + (1 : Int32)) + (1 : Int32))) ∧ Fld Z h b2x4_14c5015 own_s5 "items" own_s8 (.ref b2x5_18c4c5015) ∧ Fld Z h b2x4_14c5015 own_s0 "least" own_s6 (.ref b6x14_69c4c13c16c2c5044) ∧ Fld Z h b2x4_14c5015 own_s0 "stale" "Z" (.int (0 : Int32)) ∧ Arv Z h b2x5_18c4c5015 k2x5_18c4c5015c2c5044 (.object own_s1) (64 : Int32) [(.ref b5001), (.ref b5005)] .null ∧ Ovr Z k2x5_18c4c5015c2c5044 own_s1 ∧ True) ∨ (∃ k2x5_18c4c5015c2c5044 : ClassId, v = some .null ∧ (¬ (own_lt jp1 jp4 j12 j16)) ∧ Fld Z h b2x4_14c5015 own_s0 "count" "I" (.int (((0 : Int32) + (1 : Int32)) + (1 : Int32))) ∧ Fld Z h b2x4_14c5015 own_s5 "items" own_s8 (.ref b2x5_18c4c5015) ∧ Fld Z h b2x4_14c5015 own_s0 "least" own_s6 (.ref b6x14_69c4c13c16c2c5044) ∧ Fld Z h b2x4_14c5015 own_s0 "stale" "Z" (.int (0 : Int32)) ∧ Arv Z h b2x5_18c4c5015 k2x5_18c4c5015c2c5044 (.object own_s1) (64 : Int32) [(.ref b5005), (.ref b5001)] .null ∧ Ovr Z k2x5_18c4c5015c2c5044 own_s1 ∧ True))
set_option maxRecDepth 65536 in
set_option maxHeartbeats 40000000 in
theorem own_rm9_100 (l : Launch) (Z : State) (a0 : Array Value) (hw : ∀ d ∈ tables_1, d.before a0 Z = true) (ws : List Jvm.Cond) (b2x4_14c5015 : Addr) (b5005 : Addr) (b2x5_18c4c5015 : Addr) (k2x5_18c4c5015c2c5044 : ClassId) (b5001 : Addr) (j12 : Int64) (j16 : Int64) (jp1 : Int64) (jp4 : Int64) (w_NONE : Addr) (b6x14_69c4c13c16c2c5044 : Addr) (b3x14_69c4c13c16c2c5044 : Addr) (k3x14_69c4c13c16c2c5044 : ClassId) (w_NONE_names : Addr) (k_w_NONE_names : ClassId) (h0 : Heap) (n0 : Nat) (Z0 : n0 ≤ h0.size) (P0 : Fld Z h0 b2x4_14c5015 own_s0 "count" "I" (.int ((0 : Int32) + (1 : Int32)))) (P1 : Fld Z h0 b2x4_14c5015 own_s5 "items" own_s8 (.ref b2x5_18c4c5015)) (P2 : Arv Z h0 b2x5_18c4c5015 k2x5_18c4c5015c2c5044 (.object own_s1) (64 : Int32) [(.ref b5001)] .null) (OFc5044_0_0 : Ovr Z k2x5_18c4c5015c2c5044 own_s1) (P4 : Fld Z h0 b5005 own_s1 "priority" "J" (.long j12)) (P5 : Exa Z h0 b5005 own_s1) (P6 : Fld Z h0 b5005 own_s1 "id" "J" (.long j16)) (P7 : Fld Z h0 b5001 own_s1 "priority" "J" (.long jp1)) (P8 : Fld Z h0 b5001 own_s1 "id" "J" (.long jp4)) (P9 : Exa Z h0 b5001 own_s1) (P10 : Exa Z h0 b2x4_14c5015 own_s5) (P11 : Fld Z h0 b5005 own_s1 "needs" "Lcom/example/lonborg/lonborg/Resources;" (.ref w_NONE)) (P12 : Fld Z h0 b2x4_14c5015 own_s0 "least" own_s6 (.ref b6x14_69c4c13c16c2c5044)) (P13 : Fld Z h0 b6x14_69c4c13c16c2c5044 own_s2 "parts" own_s9 (.ref b3x14_69c4c13c16c2c5044)) (P14 : Arv Z h0 b3x14_69c4c13c16c2c5044 k3x14_69c4c13c16c2c5044 (.object own_s3) ((0 : Int32) + (1 : Int32)) [(.ref w_NONE)] .null) (OFc5044_0_9 : Ovr Z k3x14_69c4c13c16c2c5044 own_s3) (P16 : Fld Z h0 w_NONE own_s3 "names" "[Ljava/lang/String;" (.ref w_NONE_names)) (P17 : Arv Z h0 w_NONE_names k_w_NONE_names (.object "java/lang/String") (0 : Int32) [] .null) (P18 : Exa Z h0 w_NONE own_s3) (P19 : Exa Z h0 b6x14_69c4c13c16c2c5044 own_s2) (P20 : Fld Z h0 b2x4_14c5015 own_s0 "stale" "Z" (.int (0 : Int32))) (g_b2x4_14c5015 : n0 ≤ b2x4_14c5015) (P22 : Exa Z h0 b2x5_18c4c5015 own_s8) (g_b2x5_18c4c5015 : n0 ≤ b2x5_18c4c5015) :
    MetFree l own_y11 (head1 (Jvm.Cond.code own_y11 prog_4_method_2_code 4 (some (.object own_s0)) :: ws) ({ frames := 3, cells := 0, slots := 0, locals := 49 } : Room)) (fun a U => a = #[(.ref b2x4_14c5015), (.ref b5005)] ∧ Z.Warmed39 U.vm ∧ U.heap = h0) (fun _ _ _ _ _ => True) (fun _ U o U' => ∃ v L, o = .returned v ∧ own_Q9_100 Z b2x4_14c5015 b5005 b2x5_18c4c5015 k2x5_18c4c5015c2c5044 b5001 j12 j16 jp1 jp4 w_NONE b6x14_69c4c13c16c2c5044 b3x14_69c4c13c16c2c5044 k3x14_69c4c13c16c2c5044 w_NONE_names k_w_NONE_names h0 n0 v U'.heap L ∧ FrameEnd U o U' L ({ frames := 3, cells := 0, slots := 0, locals := 49 } : Room).cells ({ frames := 3, cells := 0, slots := 0, locals := 49 } : Room).slots) := by
  refine MetFree.of_bodySF (plainFor_of_name own_pn2) hisR ?_
  intro p e s m args below meth c s₁ Bd hml0 hP hK
  obtain ⟨rfl, hZ, hh⟩ := hP
  have hx := Bd.exec
  have hlk := Bd.notSynchronized
  have hret := Bd.returns
  have hby := Bd.bytes
  have hml : c.maxLocals = 4 := hml0
  have hown : s.vm.findClass own_s5 = some m.cls := findClass_of_methodNamed Bd.named
  have hnm := (name_of_methodNamed Bd.named Bd.method).1
  have X0 : Stand p l e ({ frames := 3, cells := 0, slots := 0, locals := 49 } : Room) s m #[(.ref b2x4_14c5015), (.ref b5005)] below meth c s₁ [] 0 0 := Stand.of_body Bd
  have e0 : s₁.heap = h0 := by rw [← hh, Bd.state]; rfl
  have N0 := Fr.nil n0
  refine own_open (Q := own_Q9_100 Z b2x4_14c5015 b5005 b2x5_18c4c5015 k2x5_18c4c5015c2c5044 b5001 j12 j16 jp1 jp4 w_NONE b6x14_69c4c13c16c2c5044 b3x14_69c4c13c16c2c5044 k3x14_69c4c13c16c2c5044 w_NONE_names k_w_NONE_names h0 n0) (own_ef9 m b2x4_14c5015 b5005) ?_
  refine own_st (fun t k => XS.aloadN X0.here hx rfl (hb hby own_d9_0) rfl rfl k) ?_
  refine own_st (fun t k => XS.aloadN X0.here hx rfl (hb hby own_d9_1) rfl rfl k) ?_
  show own_Go _ _ _ _ s₁ (mkF m 2 #[.val (.ref b2x4_14c5015), .val (.ref b5005), .unset, .unset] [(.ref b5005), (.ref b2x4_14c5015)])
  obtain ⟨cq1, q1, q1'⟩ := P10.cell
  obtain ⟨_, _, ⟨T1, L1, k1, n1⟩, -, X1, ⟨Lc1, hQ1, l1, y1, z1⟩, st1⟩ := X0.privateBack hx (y := own_y4) hown (mvT hZ (own_w hw 73 rfl)) (mvT hZ (own_w hw 74 rfl)) (own_psel hZ (own_w hw 34 rfl) (own_w hw 75 rfl) (own_w hw 74 rfl) (by decide)) (Cond.privateMethod_at (mvP hZ (own_w hw 75 rfl) (args := #[]))) (mvT hZ (own_w hw 76 rfl)) (by decide) (backOf (W := 0) (own_rm10_101 l Z a0 hw [] b2x4_14c5015 b5005 b2x5_18c4c5015 k2x5_18c4c5015c2c5044 b5001 j12 j16 jp1 jp4 h0 n0 Z0 P0 P1 P2 OFc5044_0_0 P4 P5 P6 P7 P8 P9) hZ (own_w hw 76 rfl) (own_w hw 35 rfl) (by decide) (by decide)) (g := (mkF m 2 #[.val (.ref b2x4_14c5015), .val (.ref b5005), .unset, .unset] [(.ref b5005), (.ref b2x4_14c5015)])) rfl (by rw [hml]; rfl) (Steps.refl _) (a := b2x4_14c5015) (by rw [e0]; exact q1) q1' (argsL := [(.ref b5005)]) (rest := []) (lenOf own_pd4 rfl) rfl (by show 2 * 0 + _ ≤ _; exact Nat.le_of_eq rfl) (hb hby own_d9_2) (fun _ _ => ⟨rfl, e0, (by decide : 0 + 0 ≤ _), (by decide : 0 + 0 ≤ _)⟩)
  dsimp only [Pt.U, Pt.locs, Pt.cells, Pt.slots] at X1 l1 y1 z1 st1 hQ1
  subst l1 y1 z1
  obtain ⟨N1q, Kq1, hL1⟩ := hQ1
  have N1 := Fr.app N0 N1q
  have K1 : Keep h0 T1.heap [b2x4_14c5015, b2x5_18c4c5015] := (Keep.refl h0 [b2x4_14c5015, b2x5_18c4c5015]).trans Kq1 all0
  have Z1 := Nat.le_trans Z0 Kq1.1
  rcases hL1 with ⟨rfl, hq1_0_0, -⟩ | ⟨rfl, hq1_1_0, -⟩
  · skip
    refine own_st (fun t k => st1.trans k) ?_
    show own_Go _ _ _ _ T1 (mkF m 5 #[.val (.ref b2x4_14c5015), .val (.ref b5005), .unset, .unset] [(.int (((((0 : Int32) + ((0 : Int32) + (1 : Int32))).toUInt32 >>> ((1 : Int32) &&& 31).toUInt32).toInt32) + (1 : Int32)))])
    refine own_st (fun t k => XS.istoreN X1.here hx rfl (hb hby own_d9_5) rfl (l' := #[.val (.ref b2x4_14c5015), .val (.ref b5005), .val (.int (((((0 : Int32) + ((0 : Int32) + (1 : Int32))).toUInt32 >>> ((1 : Int32) &&& 31).toUInt32).toInt32) + (1 : Int32))), .unset]) rfl k) ?_
    refine own_st (fun t k => XS.aloadN X1.here hx rfl (hb hby own_d9_6) rfl rfl k) ?_
    show own_Go _ _ _ _ T1 (mkF m 7 #[.val (.ref b2x4_14c5015), .val (.ref b5005), .val (.int (((((0 : Int32) + ((0 : Int32) + (1 : Int32))).toUInt32 >>> ((1 : Int32) &&& 31).toUInt32).toInt32) + (1 : Int32))), .unset] [(.ref b2x4_14c5015)])
    have f2 := (P0.keep Kq1 nin0)
    obtain ⟨T3, X3, e3, st3⟩ := getF X1 hx hZ hown (host := "") (Or.inl (own_w hw 77 rfl)) (Via.of (own_w hw 78 rfl)) rfl f2 (g := (mkF m 7 #[.val (.ref b2x4_14c5015), .val (.ref b5005), .val (.int (((((0 : Int32) + ((0 : Int32) + (1 : Int32))).toUInt32 >>> ((1 : Int32) &&& 31).toUInt32).toInt32) + (1 : Int32))), .unset] [(.ref b2x4_14c5015)])) rfl rfl (hb hby own_d9_7)
    refine own_st st3 ?_
    refine own_st (fun t k => XS.bipush X3.here hx rfl (hb hby own_d9_10) k) ?_
    show own_Go _ _ _ _ T3 (mkF m 12 #[.val (.ref b2x4_14c5015), .val (.ref b5005), .val (.int (((((0 : Int32) + ((0 : Int32) + (1 : Int32))).toUInt32 >>> ((1 : Int32) &&& 31).toUInt32).toInt32) + (1 : Int32))), .unset] [(.int (64 : Int32)), (.int ((0 : Int32) + (1 : Int32)))])
    refine own_st (fun t k => XS.icmpNo X3.here hx rfl (hb hby own_d9_12) rfl (tlt (by decide : ((0 : Int32) + (1 : Int32)) < (64 : Int32))).2.1 k) ?_
    refine own_st (fun t k => XS.aloadN X3.here hx rfl (hb hby own_d9_15) rfl rfl k) ?_
    refine own_st (fun t k => XS.aloadN X3.here hx rfl (hb hby own_d9_16) rfl rfl k) ?_
    show own_Go _ _ _ _ T3 (mkF m 17 #[.val (.ref b2x4_14c5015), .val (.ref b5005), .val (.int (((((0 : Int32) + ((0 : Int32) + (1 : Int32))).toUInt32 >>> ((1 : Int32) &&& 31).toUInt32).toInt32) + (1 : Int32))), .unset] [(.ref b5005), (.ref b2x4_14c5015)])
    have f4 := (P11.keep Kq1 nin0)
    have f6 := (P5.keep Kq1)
    obtain ⟨cq5, kq5, q5a, q5b, q5c⟩ := isOf hZ e3 f6
    obtain ⟨_, _, ⟨T5, L5, k5, n5⟩, -, X5, ⟨Lc5, hQ5, l5, y5, z5⟩, st5⟩ := X3.virtualBack hx (y := own_y0) (z := own_y0) hown (mvT hZ (own_w hw 80 rfl)) (mvT hZ (own_w hw 81 rfl)) (notFace_of_selects (args := #[]) (mvT hZ (own_w hw 83 rfl))) (mvT hZ (own_w hw 83 rfl)) (mvT hZ (own_w hw 82 rfl)) (by decide) (backOf (W := 1) (own_rm11 l Z a0 hw [] b5005 w_NONE T1.heap n0 Z1 f4) hZ (own_w hw 84 rfl) (own_w hw 5 rfl) (by decide) (by decide)) q5a q5c (g := (mkF m 17 #[.val (.ref b2x4_14c5015), .val (.ref b5005), .val (.int (((((0 : Int32) + ((0 : Int32) + (1 : Int32))).toUInt32 >>> ((1 : Int32) &&& 31).toUInt32).toInt32) + (1 : Int32))), .unset] [(.ref b5005), (.ref b2x4_14c5015)])) rfl (by rw [hml]; rfl) (Steps.refl _) (argsL := []) (rest := [(.ref b2x4_14c5015)]) (lenOf own_pd5 rfl) rfl (by show 2 * 0 + _ ≤ _; exact Nat.le_of_eq rfl) (hb hby own_d9_17) (fun _ _ => ⟨rfl, e3, (by decide : 0 + 0 ≤ _), (by decide : 0 + 0 ≤ _)⟩)
    dsimp only [Pt.U, Pt.locs, Pt.cells, Pt.slots] at X5 l5 y5 z5 st5 hQ5
    subst l5 y5 z5
    obtain ⟨N5q, e5, hL5⟩ := hQ5
    have N5 := Fr.app N1 N5q
    rcases hL5 with ⟨rfl, -⟩
    · skip
      refine own_st (fun t k => st5.trans k) ?_
      show own_Go _ _ _ _ T5 (mkF m 20 #[.val (.ref b2x4_14c5015), .val (.ref b5005), .val (.int (((((0 : Int32) + ((0 : Int32) + (1 : Int32))).toUInt32 >>> ((1 : Int32) &&& 31).toUInt32).toInt32) + (1 : Int32))), .unset] [(.ref w_NONE), (.ref b2x4_14c5015)])
      have f7 := (P12.keep Kq1 nin0)
      have f8 := (P13.keep Kq1 nin0)
      have f9 := (P14.keep Kq1 nin0)
      have f10 := (P16.keep Kq1 nin0)
      have f11 := (P17.keep Kq1 nin0)
      have f12 := (P18.keep Kq1)
      have f13 := (P19.keep Kq1)
      have f14 := (P10.keep Kq1)
      have f15 := (P1.keep Kq1 nin0)
      have f16 := (P20.keep Kq1 nin0)
      obtain ⟨cq17, kq17, q17a, q17b, q17c⟩ := isOf hZ e5 f14
      obtain ⟨_, _, ⟨T17, L17, k17, n17⟩, -, X17, ⟨Lc17, hQ17, l17, y17, z17⟩, st17⟩ := X5.virtualBackUp hx (owner := own_s0) (x := own_y14) (y := own_y6) hown (mvT hZ (own_w hw 85 rfl)) (mvT hZ (own_w hw 86 rfl)) (mvT hZ (own_w hw 87 rfl)) (by decide) (mvT hZ (own_w hw 89 rfl)) (mvT hZ (own_w hw 88 rfl)) (backOf (W := 0) (own_rm12_105 l Z a0 hw [] b2x4_14c5015 w_NONE b6x14_69c4c13c16c2c5044 b3x14_69c4c13c16c2c5044 k3x14_69c4c13c16c2c5044 w_NONE_names k_w_NONE_names b2x5_18c4c5015 T1.heap n0 Z1 f2 f7 f8 f9 OFc5044_0_9 f10 f11 f12 f13 f14 g_b2x4_14c5015 f15 f16) hZ (own_w hw 90 rfl) (own_w hw 42 rfl) (by decide) (by decide)) q17a q17c (g := (mkF m 20 #[.val (.ref b2x4_14c5015), .val (.ref b5005), .val (.int (((((0 : Int32) + ((0 : Int32) + (1 : Int32))).toUInt32 >>> ((1 : Int32) &&& 31).toUInt32).toInt32) + (1 : Int32))), .unset] [(.ref w_NONE), (.ref b2x4_14c5015)])) rfl (by rw [hml]; rfl) (Steps.refl _) (argsL := [(.ref w_NONE)]) (rest := []) (lenOf own_pd10 rfl) rfl (by show 2 * 0 + _ ≤ _; exact Nat.le_of_eq rfl) (hb hby own_d9_20) (fun _ _ => ⟨rfl, e5, (by decide : 0 + 0 ≤ _), (by decide : 0 + 0 ≤ _)⟩)
      dsimp only [Pt.U, Pt.locs, Pt.cells, Pt.slots] at X17 l17 y17 z17 st17 hQ17
      subst l17 y17 z17
      obtain ⟨N17q, Kq17, hL17⟩ := hQ17
      have N17 := Fr.app N5 N17q
      have K17 : Keep h0 T17.heap [b2x4_14c5015, b2x5_18c4c5015] := K1.trans Kq17 (allS (Or.inl (List.mem_of_getElem? (i := 0) rfl)) all0)
      have Z17 := Nat.le_trans Z1 Kq17.1
      rcases hL17 with ⟨rfl, Fc17_0_0, Fc17_0_1, Fc17_0_2, Fc17_0_3, -⟩
      · skip
        refine own_st (fun t k => st17.trans k) ?_
        refine own_st (fun t k => XS.aloadN X17.here hx rfl (hb hby own_d9_23) rfl rfl k) ?_
        show own_Go _ _ _ _ T17 (mkF m 24 #[.val (.ref b2x4_14c5015), .val (.ref b5005), .val (.int (((((0 : Int32) + ((0 : Int32) + (1 : Int32))).toUInt32 >>> ((1 : Int32) &&& 31).toUInt32).toInt32) + (1 : Int32))), .unset] [(.ref b2x4_14c5015)])
        obtain ⟨T18, X18, e18, st18⟩ := getF X17 hx hZ hown (host := "") (Or.inl (own_w hw 52 rfl)) Via.refl rfl Fc17_0_2 (g := (mkF m 24 #[.val (.ref b2x4_14c5015), .val (.ref b5005), .val (.int (((((0 : Int32) + ((0 : Int32) + (1 : Int32))).toUInt32 >>> ((1 : Int32) &&& 31).toUInt32).toInt32) + (1 : Int32))), .unset] [(.ref b2x4_14c5015)])) rfl rfl (hb hby own_d9_24)
        refine own_st st18 ?_
        refine own_st (fun t k => XS.iloadN X18.here hx rfl (hb hby own_d9_27) rfl k) ?_
        show own_Go _ _ _ _ T18 (mkF m 28 #[.val (.ref b2x4_14c5015), .val (.ref b5005), .val (.int (((((0 : Int32) + ((0 : Int32) + (1 : Int32))).toUInt32 >>> ((1 : Int32) &&& 31).toUInt32).toInt32) + (1 : Int32))), .unset] [(.int (((((0 : Int32) + ((0 : Int32) + (1 : Int32))).toUInt32 >>> ((1 : Int32) &&& 31).toUInt32).toInt32) + (1 : Int32))), (.ref b2x5_18c4c5015)])
        refine own_st (fun t k => XS.aloadN X18.here hx rfl (hb hby own_d9_28) rfl rfl k) ?_
        show own_Go _ _ _ _ T18 (mkF m 29 #[.val (.ref b2x4_14c5015), .val (.ref b5005), .val (.int (((((0 : Int32) + ((0 : Int32) + (1 : Int32))).toUInt32 >>> ((1 : Int32) &&& 31).toUInt32).toInt32) + (1 : Int32))), .unset] [(.ref b2x4_14c5015), (.int (((((0 : Int32) + ((0 : Int32) + (1 : Int32))).toUInt32 >>> ((1 : Int32) &&& 31).toUInt32).toInt32) + (1 : Int32))), (.ref b2x5_18c4c5015)])
        obtain ⟨T19, X19, e19, st19⟩ := getF X18 hx hZ hown (host := "") (Or.inl (own_w hw 52 rfl)) Via.refl e18 Fc17_0_2 (g := (mkF m 29 #[.val (.ref b2x4_14c5015), .val (.ref b5005), .val (.int (((((0 : Int32) + ((0 : Int32) + (1 : Int32))).toUInt32 >>> ((1 : Int32) &&& 31).toUInt32).toInt32) + (1 : Int32))), .unset] [(.ref b2x4_14c5015), (.int (((((0 : Int32) + ((0 : Int32) + (1 : Int32))).toUInt32 >>> ((1 : Int32) &&& 31).toUInt32).toInt32) + (1 : Int32))), (.ref b2x5_18c4c5015)])) rfl rfl (hb hby own_d9_29)
        refine own_st st19 ?_
        refine own_st (fun t k => XS.iloadN X19.here hx rfl (hb hby own_d9_32) rfl k) ?_
        refine own_st (fun t k => XS.iconst X19.here hx rfl (hb hby own_d9_33) k) ?_
        show own_Go _ _ _ _ T19 (mkF m 34 #[.val (.ref b2x4_14c5015), .val (.ref b5005), .val (.int (((((0 : Int32) + ((0 : Int32) + (1 : Int32))).toUInt32 >>> ((1 : Int32) &&& 31).toUInt32).toInt32) + (1 : Int32))), .unset] [(.int (1 : Int32)), (.int (((((0 : Int32) + ((0 : Int32) + (1 : Int32))).toUInt32 >>> ((1 : Int32) &&& 31).toUInt32).toInt32) + (1 : Int32))), (.ref b2x5_18c4c5015), (.int (((((0 : Int32) + ((0 : Int32) + (1 : Int32))).toUInt32 >>> ((1 : Int32) &&& 31).toUInt32).toInt32) + (1 : Int32))), (.ref b2x5_18c4c5015)])
        refine own_st (fun t k => XS.iadd X19.here hx rfl (hb hby own_d9_34) rfl k) ?_
        refine own_st (fun t k => XS.aloadN X19.here hx rfl (hb hby own_d9_35) rfl rfl k) ?_
        show own_Go _ _ _ _ T19 (mkF m 36 #[.val (.ref b2x4_14c5015), .val (.ref b5005), .val (.int (((((0 : Int32) + ((0 : Int32) + (1 : Int32))).toUInt32 >>> ((1 : Int32) &&& 31).toUInt32).toInt32) + (1 : Int32))), .unset] [(.ref b2x4_14c5015), (.int ((((((0 : Int32) + ((0 : Int32) + (1 : Int32))).toUInt32 >>> ((1 : Int32) &&& 31).toUInt32).toInt32) + (1 : Int32)) + (1 : Int32))), (.ref b2x5_18c4c5015), (.int (((((0 : Int32) + ((0 : Int32) + (1 : Int32))).toUInt32 >>> ((1 : Int32) &&& 31).toUInt32).toInt32) + (1 : Int32))), (.ref b2x5_18c4c5015)])
        obtain ⟨T20, X20, e20, st20⟩ := getF X19 hx hZ hown (host := "") (Or.inl (own_w hw 77 rfl)) (Via.of (own_w hw 78 rfl)) e19 Fc17_0_0 (g := (mkF m 36 #[.val (.ref b2x4_14c5015), .val (.ref b5005), .val (.int (((((0 : Int32) + ((0 : Int32) + (1 : Int32))).toUInt32 >>> ((1 : Int32) &&& 31).toUInt32).toInt32) + (1 : Int32))), .unset] [(.ref b2x4_14c5015), (.int ((((((0 : Int32) + ((0 : Int32) + (1 : Int32))).toUInt32 >>> ((1 : Int32) &&& 31).toUInt32).toInt32) + (1 : Int32)) + (1 : Int32))), (.ref b2x5_18c4c5015), (.int (((((0 : Int32) + ((0 : Int32) + (1 : Int32))).toUInt32 >>> ((1 : Int32) &&& 31).toUInt32).toInt32) + (1 : Int32))), (.ref b2x5_18c4c5015)])) rfl rfl (hb hby own_d9_36)
        refine own_st st20 ?_
        refine own_st (fun t k => XS.iloadN X20.here hx rfl (hb hby own_d9_39) rfl k) ?_
        show own_Go _ _ _ _ T20 (mkF m 40 #[.val (.ref b2x4_14c5015), .val (.ref b5005), .val (.int (((((0 : Int32) + ((0 : Int32) + (1 : Int32))).toUInt32 >>> ((1 : Int32) &&& 31).toUInt32).toInt32) + (1 : Int32))), .unset] [(.int (((((0 : Int32) + ((0 : Int32) + (1 : Int32))).toUInt32 >>> ((1 : Int32) &&& 31).toUInt32).toInt32) + (1 : Int32))), (.int ((0 : Int32) + (1 : Int32))), (.int ((((((0 : Int32) + ((0 : Int32) + (1 : Int32))).toUInt32 >>> ((1 : Int32) &&& 31).toUInt32).toInt32) + (1 : Int32)) + (1 : Int32))), (.ref b2x5_18c4c5015), (.int (((((0 : Int32) + ((0 : Int32) + (1 : Int32))).toUInt32 >>> ((1 : Int32) &&& 31).toUInt32).toInt32) + (1 : Int32))), (.ref b2x5_18c4c5015)])
        refine own_st (fun t k => XS.isub X20.here hx rfl (hb hby own_d9_40) rfl k) ?_
        show own_Go _ _ _ _ T20 (mkF m 41 #[.val (.ref b2x4_14c5015), .val (.ref b5005), .val (.int (((((0 : Int32) + ((0 : Int32) + (1 : Int32))).toUInt32 >>> ((1 : Int32) &&& 31).toUInt32).toInt32) + (1 : Int32))), .unset] [(.int (((0 : Int32) + (1 : Int32)) - (((((0 : Int32) + ((0 : Int32) + (1 : Int32))).toUInt32 >>> ((1 : Int32) &&& 31).toUInt32).toInt32) + (1 : Int32)))), (.int ((((((0 : Int32) + ((0 : Int32) + (1 : Int32))).toUInt32 >>> ((1 : Int32) &&& 31).toUInt32).toInt32) + (1 : Int32)) + (1 : Int32))), (.ref b2x5_18c4c5015), (.int (((((0 : Int32) + ((0 : Int32) + (1 : Int32))).toUInt32 >>> ((1 : Int32) &&& 31).toUInt32).toInt32) + (1 : Int32))), (.ref b2x5_18c4c5015)])
        have f22 := ((P2.keep Kq1 nin0).keep Kq17 (ninS (ne_exa P22 P10 (by decide)) nin0))
        obtain ⟨T21, X21, e21, st21⟩ := own_cp0 X20 hx hZ hown (own_w hw 118 rfl) (own_w hw 121 rfl) (own_w hw 119 rfl) (own_w hw 120 rfl) e20 f22 f22 (sp := (((((0 : Int32) + ((0 : Int32) + (1 : Int32))).toUInt32 >>> ((1 : Int32) &&& 31).toUInt32).toInt32) + (1 : Int32))) (dp := ((((((0 : Int32) + ((0 : Int32) + (1 : Int32))).toUInt32 >>> ((1 : Int32) &&& 31).toUInt32).toInt32) + (1 : Int32)) + (1 : Int32))) (nn := (((0 : Int32) + (1 : Int32)) - (((((0 : Int32) + ((0 : Int32) + (1 : Int32))).toUInt32 >>> ((1 : Int32) &&& 31).toUInt32).toInt32) + (1 : Int32)))) rfl (Or.inr ⟨rfl, rfl⟩) (by decide) (by decide) (by decide) (by decide) (g := (mkF m 41 #[.val (.ref b2x4_14c5015), .val (.ref b5005), .val (.int (((((0 : Int32) + ((0 : Int32) + (1 : Int32))).toUInt32 >>> ((1 : Int32) &&& 31).toUInt32).toInt32) + (1 : Int32))), .unset] [(.int (((0 : Int32) + (1 : Int32)) - (((((0 : Int32) + ((0 : Int32) + (1 : Int32))).toUInt32 >>> ((1 : Int32) &&& 31).toUInt32).toInt32) + (1 : Int32)))), (.int ((((((0 : Int32) + ((0 : Int32) + (1 : Int32))).toUInt32 >>> ((1 : Int32) &&& 31).toUInt32).toInt32) + (1 : Int32)) + (1 : Int32))), (.ref b2x5_18c4c5015), (.int (((((0 : Int32) + ((0 : Int32) + (1 : Int32))).toUInt32 >>> ((1 : Int32) &&& 31).toUInt32).toInt32) + (1 : Int32))), (.ref b2x5_18c4c5015)])) rfl (by rw [hml]; rfl) rfl (hb hby own_d9_41) (by decide) (W := 0) (by show 2 * 0 + _ ≤ _; exact Nat.le_of_eq rfl) (by decide)
        refine own_st st21 ?_
        refine own_st (fun t k => XS.aloadN X21.here hx rfl (hb hby own_d9_44) rfl rfl k) ?_
        show own_Go _ _ _ _ T21 (mkF m 45 #[.val (.ref b2x4_14c5015), .val (.ref b5005), .val (.int (((((0 : Int32) + ((0 : Int32) + (1 : Int32))).toUInt32 >>> ((1 : Int32) &&& 31).toUInt32).toInt32) + (1 : Int32))), .unset] [(.ref b2x4_14c5015)])
        obtain ⟨T23, X23, e23, st23⟩ := getF X21 hx hZ hown (host := "") (Or.inl (own_w hw 52 rfl)) Via.refl e21 Fc17_0_2 (g := (mkF m 45 #[.val (.ref b2x4_14c5015), .val (.ref b5005), .val (.int (((((0 : Int32) + ((0 : Int32) + (1 : Int32))).toUInt32 >>> ((1 : Int32) &&& 31).toUInt32).toInt32) + (1 : Int32))), .unset] [(.ref b2x4_14c5015)])) rfl rfl (hb hby own_d9_45)
        refine own_st st23 ?_
        show own_Go _ _ _ _ T23 (mkF m 48 #[.val (.ref b2x4_14c5015), .val (.ref b5005), .val (.int (((((0 : Int32) + ((0 : Int32) + (1 : Int32))).toUInt32 >>> ((1 : Int32) &&& 31).toUInt32).toInt32) + (1 : Int32))), .unset] [(.ref b2x5_18c4c5015)])
        refine own_st (fun t k => XS.iloadN X23.here hx rfl (hb hby own_d9_48) rfl k) ?_
        refine own_st (fun t k => XS.aloadN X23.here hx rfl (hb hby own_d9_49) rfl rfl k) ?_
        show own_Go _ _ _ _ T23 (mkF m 50 #[.val (.ref b2x4_14c5015), .val (.ref b5005), .val (.int (((((0 : Int32) + ((0 : Int32) + (1 : Int32))).toUInt32 >>> ((1 : Int32) &&& 31).toUInt32).toInt32) + (1 : Int32))), .unset] [(.ref b5005), (.int (((((0 : Int32) + ((0 : Int32) + (1 : Int32))).toUInt32 >>> ((1 : Int32) &&& 31).toUInt32).toInt32) + (1 : Int32))), (.ref b2x5_18c4c5015)])
        have Pd24 := f22.pad (pad_rep [(.ref b5001)] .null 1)
        obtain ⟨c24, A24, q24, S24, M24, H24, G24⟩ := Pd24
        have f25 := (f6.keep Kq17)
        obtain ⟨T24, h24, X24, e24, W24, st24⟩ := stR X23 hx hZ e23 A24 (j := (((((0 : Int32) + ((0 : Int32) + (1 : Int32))).toUInt32 >>> ((1 : Int32) &&& 31).toUInt32).toInt32) + (1 : Int32))) (inb_of S24 ⟨by decide, by decide⟩) rfl (Sto.ofV A24 q24 OFc5044_0_0 (Ins.self f25)) (g := (mkF m 50 #[.val (.ref b2x4_14c5015), .val (.ref b5005), .val (.int (((((0 : Int32) + ((0 : Int32) + (1 : Int32))).toUInt32 >>> ((1 : Int32) &&& 31).toUInt32).toInt32) + (1 : Int32))), .unset] [(.ref b5005), (.int (((((0 : Int32) + ((0 : Int32) + (1 : Int32))).toUInt32 >>> ((1 : Int32) &&& 31).toUInt32).toInt32) + (1 : Int32))), (.ref b2x5_18c4c5015)])) rfl rfl (hb hby own_d9_50)
        refine own_st st24 ?_
        have K24 : Keep h0 h24 [b2x4_14c5015, b2x5_18c4c5015] := K17.wr W24 (Or.inl (List.mem_of_getElem? (i := 1) rfl))
        have Z24 := Nat.le_trans Z17 (Keep.of_wr W24).1
        have N24 := Fr.snoc X24 N17 g_b2x5_18c4c5015
        have V24 : Arv Z h24 b2x5_18c4c5015 k2x5_18c4c5015c2c5044 (.object own_s1) (64 : Int32) [(.ref b5001), (.ref b5005)] .null := Arv.set A24 q24 S24 M24 H24 G24 rfl W24 1 rfl (Nat.le_of_ble_eq_true rfl)
        refine own_st (fun t k => XS.aloadN X24.here hx rfl (hb hby own_d9_51) rfl rfl k) ?_
        show own_Go _ _ _ _ T24 (mkF m 52 #[.val (.ref b2x4_14c5015), .val (.ref b5005), .val (.int (((((0 : Int32) + ((0 : Int32) + (1 : Int32))).toUInt32 >>> ((1 : Int32) &&& 31).toUInt32).toInt32) + (1 : Int32))), .unset] [(.ref b2x4_14c5015)])
        refine own_st (fun t k => XS.dup X24.here hx rfl (hb hby own_d9_52) rfl rfl k) ?_
        show own_Go _ _ _ _ T24 (mkF m 53 #[.val (.ref b2x4_14c5015), .val (.ref b5005), .val (.int (((((0 : Int32) + ((0 : Int32) + (1 : Int32))).toUInt32 >>> ((1 : Int32) &&& 31).toUInt32).toInt32) + (1 : Int32))), .unset] [(.ref b2x4_14c5015), (.ref b2x4_14c5015)])
        have f26 := (Fc17_0_0.other W24 (Or.inl (ne_exa P10 P22 (by decide))))
        obtain ⟨T27, X27, e27, st27⟩ := getF X24 hx hZ hown (host := "") (Or.inl (own_w hw 77 rfl)) (Via.of (own_w hw 78 rfl)) e24 f26 (g := (mkF m 53 #[.val (.ref b2x4_14c5015), .val (.ref b5005), .val (.int (((((0 : Int32) + ((0 : Int32) + (1 : Int32))).toUInt32 >>> ((1 : Int32) &&& 31).toUInt32).toInt32) + (1 : Int32))), .unset] [(.ref b2x4_14c5015), (.ref b2x4_14c5015)])) rfl rfl (hb hby own_d9_53)
        refine own_st st27 ?_
        refine own_st (fun t k => XS.iconst X27.here hx rfl (hb hby own_d9_56) k) ?_
        refine own_st (fun t k => XS.iadd X27.here hx rfl (hb hby own_d9_57) rfl k) ?_
        show own_Go _ _ _ _ T27 (mkF m 58 #[.val (.ref b2x4_14c5015), .val (.ref b5005), .val (.int (((((0 : Int32) + ((0 : Int32) + (1 : Int32))).toUInt32 >>> ((1 : Int32) &&& 31).toUInt32).toInt32) + (1 : Int32))), .unset] [(.int (((0 : Int32) + (1 : Int32)) + (1 : Int32))), (.ref b2x4_14c5015)])
        have f28 := (P10.keep K24)
        obtain ⟨T29, h29, X29, e29, W29, st29⟩ := putF X27 hx hZ hown (host := "") (Or.inl (own_w hw 77 rfl)) (Via.of (own_w hw 78 rfl)) e27 f26 f28 (Or.inl (own_w hw 79 rfl)) (own_w hw 34 rfl) (ty := .int) (by decide) rfl rfl (g := (mkF m 58 #[.val (.ref b2x4_14c5015), .val (.ref b5005), .val (.int (((((0 : Int32) + ((0 : Int32) + (1 : Int32))).toUInt32 >>> ((1 : Int32) &&& 31).toUInt32).toInt32) + (1 : Int32))), .unset] [(.int (((0 : Int32) + (1 : Int32)) + (1 : Int32))), (.ref b2x4_14c5015)])) rfl rfl (hb hby own_d9_58)
        refine own_st st29 ?_
        have K29 : Keep h0 h29 [b2x4_14c5015, b2x5_18c4c5015] := K24.wr W29 (Or.inl (List.mem_of_getElem? (i := 0) rfl))
        have Z29 := Nat.le_trans Z24 (Keep.of_wr W29).1
        have N29 := Fr.snoc X29 N24 g_b2x4_14c5015
        have F29 := f26.same W29
        refine own_st (fun t k => XS.aconstNull X29.here hx rfl (hb hby own_d9_61) k) ?_
        show own_Go _ _ _ _ T29 (mkF m 62 #[.val (.ref b2x4_14c5015), .val (.ref b5005), .val (.int (((((0 : Int32) + ((0 : Int32) + (1 : Int32))).toUInt32 >>> ((1 : Int32) &&& 31).toUInt32).toInt32) + (1 : Int32))), .unset] [.null])
        have f30 := ((Fc17_0_2.other W24 (Or.inl (ne_exa P10 P22 (by decide)))).other W29 (Or.inr (slot_ne (Or.inr (own_w hw 53 rfl)) (Or.inl (own_w hw 79 rfl)) (by decide) (t := (.array (.object own_s1))) (t' := .int) (by decide) (by decide))))
        have f31 := ((Fc17_0_1.other W24 (Or.inl (ne_exa P10 P22 (by decide)))).other W29 (Or.inr (slot_ne (Or.inl (own_w hw 49 rfl)) (Or.inl (own_w hw 79 rfl)) (by decide) (t := (.object own_s2)) (t' := .int) (by decide) (by decide))))
        have f32 := ((Fc17_0_3.other W24 (Or.inl (ne_exa P10 P22 (by decide)))).other W29 (Or.inr (slot_ne (Or.inl (own_w hw 93 rfl)) (Or.inl (own_w hw 79 rfl)) (by decide) (t := .boolean) (t' := .int) (by decide) (by decide))))
        have f33 := (V24.other W29 (ne_exa P22 P10 (by decide)))
        exact own_retA X29 hx hlk hret rfl rfl (hb hby own_d9_62) (by decide) (by decide) e29 ⟨N29, K29, (Or.inl ⟨_, rfl, hq1_0_0, F29, f30, f31, f32, f33, OFc5044_0_0, trivial⟩)⟩
  · skip
    refine own_st (fun t k => st1.trans k) ?_
    refine own_st (fun t k => XS.istoreN X1.here hx rfl (hb hby own_d9_5) rfl (l' := #[.val (.ref b2x4_14c5015), .val (.ref b5005), .val (.int (0 : Int32)), .unset]) rfl k) ?_
    show own_Go _ _ _ _ T1 (mkF m 6 #[.val (.ref b2x4_14c5015), .val (.ref b5005), .val (.int (0 : Int32)), .unset] [])
    refine own_st (fun t k => XS.aloadN X1.here hx rfl (hb hby own_d9_6) rfl rfl k) ?_
    show own_Go _ _ _ _ T1 (mkF m 7 #[.val (.ref b2x4_14c5015), .val (.ref b5005), .val (.int (0 : Int32)), .unset] [(.ref b2x4_14c5015)])
    have f34 := (P0.keep Kq1 nin0)
    obtain ⟨T35, X35, e35, st35⟩ := getF X1 hx hZ hown (host := "") (Or.inl (own_w hw 77 rfl)) (Via.of (own_w hw 78 rfl)) rfl f34 (g := (mkF m 7 #[.val (.ref b2x4_14c5015), .val (.ref b5005), .val (.int (0 : Int32)), .unset] [(.ref b2x4_14c5015)])) rfl rfl (hb hby own_d9_7)
    refine own_st st35 ?_
    refine own_st (fun t k => XS.bipush X35.here hx rfl (hb hby own_d9_10) k) ?_
    show own_Go _ _ _ _ T35 (mkF m 12 #[.val (.ref b2x4_14c5015), .val (.ref b5005), .val (.int (0 : Int32)), .unset] [(.int (64 : Int32)), (.int ((0 : Int32) + (1 : Int32)))])
    refine own_st (fun t k => XS.icmpNo X35.here hx rfl (hb hby own_d9_12) rfl (tlt (by decide : ((0 : Int32) + (1 : Int32)) < (64 : Int32))).2.1 k) ?_
    show own_Go _ _ _ _ T35 (mkF m 15 #[.val (.ref b2x4_14c5015), .val (.ref b5005), .val (.int (0 : Int32)), .unset] [])
    refine own_st (fun t k => XS.aloadN X35.here hx rfl (hb hby own_d9_15) rfl rfl k) ?_
    refine own_st (fun t k => XS.aloadN X35.here hx rfl (hb hby own_d9_16) rfl rfl k) ?_
    show own_Go _ _ _ _ T35 (mkF m 17 #[.val (.ref b2x4_14c5015), .val (.ref b5005), .val (.int (0 : Int32)), .unset] [(.ref b5005), (.ref b2x4_14c5015)])
    have f36 := (P11.keep Kq1 nin0)
    have f38 := (P5.keep Kq1)
    obtain ⟨cq37, kq37, q37a, q37b, q37c⟩ := isOf hZ e35 f38
    obtain ⟨_, _, ⟨T37, L37, k37, n37⟩, -, X37, ⟨Lc37, hQ37, l37, y37, z37⟩, st37⟩ := X35.virtualBack hx (y := own_y0) (z := own_y0) hown (mvT hZ (own_w hw 80 rfl)) (mvT hZ (own_w hw 81 rfl)) (notFace_of_selects (args := #[]) (mvT hZ (own_w hw 83 rfl))) (mvT hZ (own_w hw 83 rfl)) (mvT hZ (own_w hw 82 rfl)) (by decide) (backOf (W := 1) (own_rm11 l Z a0 hw [] b5005 w_NONE T1.heap n0 Z1 f36) hZ (own_w hw 84 rfl) (own_w hw 5 rfl) (by decide) (by decide)) q37a q37c (g := (mkF m 17 #[.val (.ref b2x4_14c5015), .val (.ref b5005), .val (.int (0 : Int32)), .unset] [(.ref b5005), (.ref b2x4_14c5015)])) rfl (by rw [hml]; rfl) (Steps.refl _) (argsL := []) (rest := [(.ref b2x4_14c5015)]) (lenOf own_pd5 rfl) rfl (by show 2 * 0 + _ ≤ _; exact Nat.le_of_eq rfl) (hb hby own_d9_17) (fun _ _ => ⟨rfl, e35, (by decide : 0 + 0 ≤ _), (by decide : 0 + 0 ≤ _)⟩)
    dsimp only [Pt.U, Pt.locs, Pt.cells, Pt.slots] at X37 l37 y37 z37 st37 hQ37
    subst l37 y37 z37
    obtain ⟨N37q, e37, hL37⟩ := hQ37
    have N37 := Fr.app N1 N37q
    rcases hL37 with ⟨rfl, -⟩
    · skip
      refine own_st (fun t k => st37.trans k) ?_
      show own_Go _ _ _ _ T37 (mkF m 20 #[.val (.ref b2x4_14c5015), .val (.ref b5005), .val (.int (0 : Int32)), .unset] [(.ref w_NONE), (.ref b2x4_14c5015)])
      have f39 := (P12.keep Kq1 nin0)
      have f40 := (P13.keep Kq1 nin0)
      have f41 := (P14.keep Kq1 nin0)
      have f42 := (P16.keep Kq1 nin0)
      have f43 := (P17.keep Kq1 nin0)
      have f44 := (P18.keep Kq1)
      have f45 := (P19.keep Kq1)
      have f46 := (P10.keep Kq1)
      have f47 := (P1.keep Kq1 nin0)
      have f48 := (P20.keep Kq1 nin0)
      obtain ⟨cq49, kq49, q49a, q49b, q49c⟩ := isOf hZ e37 f46
      obtain ⟨_, _, ⟨T49, L49, k49, n49⟩, -, X49, ⟨Lc49, hQ49, l49, y49, z49⟩, st49⟩ := X37.virtualBackUp hx (owner := own_s0) (x := own_y14) (y := own_y6) hown (mvT hZ (own_w hw 85 rfl)) (mvT hZ (own_w hw 86 rfl)) (mvT hZ (own_w hw 87 rfl)) (by decide) (mvT hZ (own_w hw 89 rfl)) (mvT hZ (own_w hw 88 rfl)) (backOf (W := 0) (own_rm12_105 l Z a0 hw [] b2x4_14c5015 w_NONE b6x14_69c4c13c16c2c5044 b3x14_69c4c13c16c2c5044 k3x14_69c4c13c16c2c5044 w_NONE_names k_w_NONE_names b2x5_18c4c5015 T1.heap n0 Z1 f34 f39 f40 f41 OFc5044_0_9 f42 f43 f44 f45 f46 g_b2x4_14c5015 f47 f48) hZ (own_w hw 90 rfl) (own_w hw 42 rfl) (by decide) (by decide)) q49a q49c (g := (mkF m 20 #[.val (.ref b2x4_14c5015), .val (.ref b5005), .val (.int (0 : Int32)), .unset] [(.ref w_NONE), (.ref b2x4_14c5015)])) rfl (by rw [hml]; rfl) (Steps.refl _) (argsL := [(.ref w_NONE)]) (rest := []) (lenOf own_pd10 rfl) rfl (by show 2 * 0 + _ ≤ _; exact Nat.le_of_eq rfl) (hb hby own_d9_20) (fun _ _ => ⟨rfl, e37, (by decide : 0 + 0 ≤ _), (by decide : 0 + 0 ≤ _)⟩)
      dsimp only [Pt.U, Pt.locs, Pt.cells, Pt.slots] at X49 l49 y49 z49 st49 hQ49
      subst l49 y49 z49
      obtain ⟨N49q, Kq49, hL49⟩ := hQ49
      have N49 := Fr.app N37 N49q
      have K49 : Keep h0 T49.heap [b2x4_14c5015, b2x5_18c4c5015] := K1.trans Kq49 (allS (Or.inl (List.mem_of_getElem? (i := 0) rfl)) all0)
      have Z49 := Nat.le_trans Z1 Kq49.1
      rcases hL49 with ⟨rfl, Fc49_0_0, Fc49_0_1, Fc49_0_2, Fc49_0_3, -⟩
      · skip
        refine own_st (fun t k => st49.trans k) ?_
        show own_Go _ _ _ _ T49 (mkF m 23 #[.val (.ref b2x4_14c5015), .val (.ref b5005), .val (.int (0 : Int32)), .unset] [])
        refine own_st (fun t k => XS.aloadN X49.here hx rfl (hb hby own_d9_23) rfl rfl k) ?_
        show own_Go _ _ _ _ T49 (mkF m 24 #[.val (.ref b2x4_14c5015), .val (.ref b5005), .val (.int (0 : Int32)), .unset] [(.ref b2x4_14c5015)])
        obtain ⟨T50, X50, e50, st50⟩ := getF X49 hx hZ hown (host := "") (Or.inl (own_w hw 52 rfl)) Via.refl rfl Fc49_0_2 (g := (mkF m 24 #[.val (.ref b2x4_14c5015), .val (.ref b5005), .val (.int (0 : Int32)), .unset] [(.ref b2x4_14c5015)])) rfl rfl (hb hby own_d9_24)
        refine own_st st50 ?_
        refine own_st (fun t k => XS.iloadN X50.here hx rfl (hb hby own_d9_27) rfl k) ?_
        refine own_st (fun t k => XS.aloadN X50.here hx rfl (hb hby own_d9_28) rfl rfl k) ?_
        show own_Go _ _ _ _ T50 (mkF m 29 #[.val (.ref b2x4_14c5015), .val (.ref b5005), .val (.int (0 : Int32)), .unset] [(.ref b2x4_14c5015), (.int (0 : Int32)), (.ref b2x5_18c4c5015)])
        obtain ⟨T51, X51, e51, st51⟩ := getF X50 hx hZ hown (host := "") (Or.inl (own_w hw 52 rfl)) Via.refl e50 Fc49_0_2 (g := (mkF m 29 #[.val (.ref b2x4_14c5015), .val (.ref b5005), .val (.int (0 : Int32)), .unset] [(.ref b2x4_14c5015), (.int (0 : Int32)), (.ref b2x5_18c4c5015)])) rfl rfl (hb hby own_d9_29)
        refine own_st st51 ?_
        refine own_st (fun t k => XS.iloadN X51.here hx rfl (hb hby own_d9_32) rfl k) ?_
        refine own_st (fun t k => XS.iconst X51.here hx rfl (hb hby own_d9_33) k) ?_
        refine own_st (fun t k => XS.iadd X51.here hx rfl (hb hby own_d9_34) rfl k) ?_
        show own_Go _ _ _ _ T51 (mkF m 35 #[.val (.ref b2x4_14c5015), .val (.ref b5005), .val (.int (0 : Int32)), .unset] [(.int ((0 : Int32) + (1 : Int32))), (.ref b2x5_18c4c5015), (.int (0 : Int32)), (.ref b2x5_18c4c5015)])
        refine own_st (fun t k => XS.aloadN X51.here hx rfl (hb hby own_d9_35) rfl rfl k) ?_
        show own_Go _ _ _ _ T51 (mkF m 36 #[.val (.ref b2x4_14c5015), .val (.ref b5005), .val (.int (0 : Int32)), .unset] [(.ref b2x4_14c5015), (.int ((0 : Int32) + (1 : Int32))), (.ref b2x5_18c4c5015), (.int (0 : Int32)), (.ref b2x5_18c4c5015)])
        obtain ⟨T52, X52, e52, st52⟩ := getF X51 hx hZ hown (host := "") (Or.inl (own_w hw 77 rfl)) (Via.of (own_w hw 78 rfl)) e51 Fc49_0_0 (g := (mkF m 36 #[.val (.ref b2x4_14c5015), .val (.ref b5005), .val (.int (0 : Int32)), .unset] [(.ref b2x4_14c5015), (.int ((0 : Int32) + (1 : Int32))), (.ref b2x5_18c4c5015), (.int (0 : Int32)), (.ref b2x5_18c4c5015)])) rfl rfl (hb hby own_d9_36)
        refine own_st st52 ?_
        refine own_st (fun t k => XS.iloadN X52.here hx rfl (hb hby own_d9_39) rfl k) ?_
        refine own_st (fun t k => XS.isub X52.here hx rfl (hb hby own_d9_40) rfl k) ?_
        show own_Go _ _ _ _ T52 (mkF m 41 #[.val (.ref b2x4_14c5015), .val (.ref b5005), .val (.int (0 : Int32)), .unset] [(.int (((0 : Int32) + (1 : Int32)) - (0 : Int32))), (.int ((0 : Int32) + (1 : Int32))), (.ref b2x5_18c4c5015), (.int (0 : Int32)), (.ref b2x5_18c4c5015)])
        have f54 := ((P2.keep Kq1 nin0).keep Kq49 (ninS (ne_exa P22 P10 (by decide)) nin0))
        have Pd53 := f54.pad (pad_rep [(.ref b5001)] .null 1)
        have f55 := (P9.keep K49)
        obtain ⟨T53, h53, L53, X53, e53, N53, Kq53, V53', st53⟩ := cpA X52 hx hZ hown (own_w hw 118 rfl) (own_w hw 121 rfl) (own_w hw 119 rfl) (own_w hw 120 rfl) e52 f54 Pd53 (Or.inr ⟨rfl, rfl, ⟨(own_sto Pd53 OFc5044_0_0 (Ins.self f55)), trivial⟩⟩) (sp := (0 : Int32)) (dp := ((0 : Int32) + (1 : Int32))) (nn := (((0 : Int32) + (1 : Int32)) - (0 : Int32))) (by decide) (by decide) (by decide) (by decide) (by decide) (us := [(.ref b5001)]) rfl (Nat.le_of_ble_eq_true rfl) N49 g_b2x5_18c4c5015 (g := (mkF m 41 #[.val (.ref b2x4_14c5015), .val (.ref b5005), .val (.int (0 : Int32)), .unset] [(.int (((0 : Int32) + (1 : Int32)) - (0 : Int32))), (.int ((0 : Int32) + (1 : Int32))), (.ref b2x5_18c4c5015), (.int (0 : Int32)), (.ref b2x5_18c4c5015)])) rfl (by rw [hml]; rfl) rfl (hb hby own_d9_41) (by decide) (W := 0) (by show 2 * 0 + _ ≤ _; exact Nat.le_of_eq rfl) (by decide)
        have V53 : Arv Z h53 b2x5_18c4c5015 k2x5_18c4c5015c2c5044 (.object own_s1) (64 : Int32) [(.ref b5001), (.ref b5001)] .null := V53'
        refine own_st st53 ?_
        have K53 : Keep h0 h53 [b2x4_14c5015, b2x5_18c4c5015] := K49.trans Kq53 (allS (Or.inl (List.mem_of_getElem? (i := 1) rfl)) all0)
        have Z53 := Nat.le_trans Z49 Kq53.1
        refine own_st (fun t k => XS.aloadN X53.here hx rfl (hb hby own_d9_44) rfl rfl k) ?_
        show own_Go _ _ _ _ T53 (mkF m 45 #[.val (.ref b2x4_14c5015), .val (.ref b5005), .val (.int (0 : Int32)), .unset] [(.ref b2x4_14c5015)])
        have f56 := (Fc49_0_2.keep Kq53 (ninS (ne_exa P10 P22 (by decide)) nin0))
        obtain ⟨T57, X57, e57, st57⟩ := getF X53 hx hZ hown (host := "") (Or.inl (own_w hw 52 rfl)) Via.refl e53 f56 (g := (mkF m 45 #[.val (.ref b2x4_14c5015), .val (.ref b5005), .val (.int (0 : Int32)), .unset] [(.ref b2x4_14c5015)])) rfl rfl (hb hby own_d9_45)
        refine own_st st57 ?_
        refine own_st (fun t k => XS.iloadN X57.here hx rfl (hb hby own_d9_48) rfl k) ?_
        show own_Go _ _ _ _ T57 (mkF m 49 #[.val (.ref b2x4_14c5015), .val (.ref b5005), .val (.int (0 : Int32)), .unset] [(.int (0 : Int32)), (.ref b2x5_18c4c5015)])
        refine own_st (fun t k => XS.aloadN X57.here hx rfl (hb hby own_d9_49) rfl rfl k) ?_
        show own_Go _ _ _ _ T57 (mkF m 50 #[.val (.ref b2x4_14c5015), .val (.ref b5005), .val (.int (0 : Int32)), .unset] [(.ref b5005), (.int (0 : Int32)), (.ref b2x5_18c4c5015)])
        obtain ⟨c58, A58, q58, S58, M58, H58, G58⟩ := V53
        have f59 := (P5.keep K53)
        obtain ⟨T58, h58, X58, e58, W58, st58⟩ := stR X57 hx hZ e57 A58 (j := (0 : Int32)) (inb_of S58 ⟨by decide, by decide⟩) rfl (Sto.ofV A58 q58 OFc5044_0_0 (Ins.self f59)) (g := (mkF m 50 #[.val (.ref b2x4_14c5015), .val (.ref b5005), .val (.int (0 : Int32)), .unset] [(.ref b5005), (.int (0 : Int32)), (.ref b2x5_18c4c5015)])) rfl rfl (hb hby own_d9_50)
        refine own_st st58 ?_
        have K58 : Keep h0 h58 [b2x4_14c5015, b2x5_18c4c5015] := K53.wr W58 (Or.inl (List.mem_of_getElem? (i := 1) rfl))
        have Z58 := Nat.le_trans Z53 (Keep.of_wr W58).1
        have N58 := Fr.snoc X58 N53 g_b2x5_18c4c5015
        have V58 : Arv Z h58 b2x5_18c4c5015 k2x5_18c4c5015c2c5044 (.object own_s1) (64 : Int32) [(.ref b5005), (.ref b5001)] .null := Arv.set A58 q58 S58 M58 H58 G58 rfl W58 0 rfl (Nat.le_of_ble_eq_true rfl)
        refine own_st (fun t k => XS.aloadN X58.here hx rfl (hb hby own_d9_51) rfl rfl k) ?_
        refine own_st (fun t k => XS.dup X58.here hx rfl (hb hby own_d9_52) rfl rfl k) ?_
        show own_Go _ _ _ _ T58 (mkF m 53 #[.val (.ref b2x4_14c5015), .val (.ref b5005), .val (.int (0 : Int32)), .unset] [(.ref b2x4_14c5015), (.ref b2x4_14c5015)])
        have f60 := ((Fc49_0_0.keep Kq53 (ninS (ne_exa P10 P22 (by decide)) nin0)).other W58 (Or.inl (ne_exa P10 P22 (by decide))))
        obtain ⟨T61, X61, e61, st61⟩ := getF X58 hx hZ hown (host := "") (Or.inl (own_w hw 77 rfl)) (Via.of (own_w hw 78 rfl)) e58 f60 (g := (mkF m 53 #[.val (.ref b2x4_14c5015), .val (.ref b5005), .val (.int (0 : Int32)), .unset] [(.ref b2x4_14c5015), (.ref b2x4_14c5015)])) rfl rfl (hb hby own_d9_53)
        refine own_st st61 ?_
        refine own_st (fun t k => XS.iconst X61.here hx rfl (hb hby own_d9_56) k) ?_
        refine own_st (fun t k => XS.iadd X61.here hx rfl (hb hby own_d9_57) rfl k) ?_
        show own_Go _ _ _ _ T61 (mkF m 58 #[.val (.ref b2x4_14c5015), .val (.ref b5005), .val (.int (0 : Int32)), .unset] [(.int (((0 : Int32) + (1 : Int32)) + (1 : Int32))), (.ref b2x4_14c5015)])
        have f62 := (P10.keep K58)
        obtain ⟨T63, h63, X63, e63, W63, st63⟩ := putF X61 hx hZ hown (host := "") (Or.inl (own_w hw 77 rfl)) (Via.of (own_w hw 78 rfl)) e61 f60 f62 (Or.inl (own_w hw 79 rfl)) (own_w hw 34 rfl) (ty := .int) (by decide) rfl rfl (g := (mkF m 58 #[.val (.ref b2x4_14c5015), .val (.ref b5005), .val (.int (0 : Int32)), .unset] [(.int (((0 : Int32) + (1 : Int32)) + (1 : Int32))), (.ref b2x4_14c5015)])) rfl rfl (hb hby own_d9_58)
        refine own_st st63 ?_
        have K63 : Keep h0 h63 [b2x4_14c5015, b2x5_18c4c5015] := K58.wr W63 (Or.inl (List.mem_of_getElem? (i := 0) rfl))
        have Z63 := Nat.le_trans Z58 (Keep.of_wr W63).1
        have N63 := Fr.snoc X63 N58 g_b2x4_14c5015
        have F63 := f60.same W63
        show own_Go _ _ _ _ T63 (mkF m 61 #[.val (.ref b2x4_14c5015), .val (.ref b5005), .val (.int (0 : Int32)), .unset] [])
        refine own_st (fun t k => XS.aconstNull X63.here hx rfl (hb hby own_d9_61) k) ?_
        show own_Go _ _ _ _ T63 (mkF m 62 #[.val (.ref b2x4_14c5015), .val (.ref b5005), .val (.int (0 : Int32)), .unset] [.null])
        have f64 := ((f56.other W58 (Or.inl (ne_exa P10 P22 (by decide)))).other W63 (Or.inr (slot_ne (Or.inr (own_w hw 53 rfl)) (Or.inl (own_w hw 79 rfl)) (by decide) (t := (.array (.object own_s1))) (t' := .int) (by decide) (by decide))))
        have f65 := (((Fc49_0_1.keep Kq53 (ninS (ne_exa P10 P22 (by decide)) nin0)).other W58 (Or.inl (ne_exa P10 P22 (by decide)))).other W63 (Or.inr (slot_ne (Or.inl (own_w hw 49 rfl)) (Or.inl (own_w hw 79 rfl)) (by decide) (t := (.object own_s2)) (t' := .int) (by decide) (by decide))))
        have f66 := (((Fc49_0_3.keep Kq53 (ninS (ne_exa P10 P22 (by decide)) nin0)).other W58 (Or.inl (ne_exa P10 P22 (by decide)))).other W63 (Or.inr (slot_ne (Or.inl (own_w hw 93 rfl)) (Or.inl (own_w hw 79 rfl)) (by decide) (t := .boolean) (t' := .int) (by decide) (by decide))))
        have f67 := (V58.other W63 (ne_exa P22 P10 (by decide)))
        exact own_retA X63 hx hlk hret rfl rfl (hb hby own_d9_62) (by decide) (by decide) e63 ⟨N63, K63, (Or.inr ⟨_, rfl, hq1_1_0, F63, f64, f65, f66, f67, OFc5044_0_0, trivial⟩)⟩
def own_Q8_91 (Z : State) (b5013 : Addr) (b5005 : Addr) (b2x4_14c5015 : Addr) (b2x5_18c4c5015 : Addr) (k2x5_18c4c5015c2c5044 : ClassId) (b5001 : Addr) (j12 : Int64) (j16 : Int64) (jp1 : Int64) (jp4 : Int64) (w_NONE : Addr) (b6x14_69c4c13c16c2c5044 : Addr) (b3x14_69c4c13c16c2c5044 : Addr) (k3x14_69c4c13c16c2c5044 : ClassId) (w_NONE_names : Addr) (k_w_NONE_names : ClassId) (h0 : Heap) (n0 : Nat) (v : Option Value) (h : Heap) (L : List Loc) : Prop := Fr n0 L ∧ Keep h0 h [b2x5_18c4c5015, b2x4_14c5015, b5013] ∧ ((∃ k2x5_18c4c5015c2c5044c2 : ClassId, v = none ∧ (own_lt jp1 jp4 j12 j16) ∧ Arv Z h b2x5_18c4c5015 k2x5_18c4c5015c2c5044c2 (.object own_s1) (64 : Int32) [(.ref b5001), (.ref b5005)] .null ∧ Ovr Z k2x5_18c4c5015c2c5044c2 own_s1 ∧ Fld Z h b2x4_14c5015 own_s0 "count" "I" (.int (((0 : Int32) + (1 : Int32)) + (1 : Int32))) ∧ Fld Z h b2x4_14c5015 own_s5 "items" own_s8 (.ref b2x5_18c4c5015) ∧ Fld Z h b2x4_14c5015 own_s0 "least" own_s6 (.ref b6x14_69c4c13c16c2c5044) ∧ Fld Z h b2x4_14c5015 own_s0 "stale" "Z" (.int (0 : Int32)) ∧ Fld Z h b5013 own_s4 "root" "Lcom/example/lonborg/lonborg/ItemTree$Node;" (.ref b2x4_14c5015) ∧ Fld Z h b5013 own_s4 "size" "J" (.long (((0 : Int64) + (1 : Int64)) + (1 : Int64))) ∧ True) ∨ (∃ k2x5_18c4c5015c2c5044c2 : ClassId, v = none ∧ (¬ (own_lt jp1 jp4 j12 j16)) ∧ Arv Z h b2x5_18c4c5015 k2x5_18c4c5015c2c5044c2 (.object own_s1) (64 : Int32) [(.ref b5005), (.ref b5001)] .null ∧ Ovr Z k2x5_18c4c5015c2c5044c2 own_s1 ∧ Fld Z h b2x4_14c5015 own_s0 "count" "I" (.int (((0 : Int32) + (1 : Int32)) + (1 : Int32))) ∧ Fld Z h b2x4_14c5015 own_s5 "items" own_s8 (.ref b2x5_18c4c5015) ∧ Fld Z h b2x4_14c5015 own_s0 "least" own_s6 (.ref b6x14_69c4c13c16c2c5044) ∧ Fld Z h b2x4_14c5015 own_s0 "stale" "Z" (.int (0 : Int32)) ∧ Fld Z h b5013 own_s4 "root" "Lcom/example/lonborg/lonborg/ItemTree$Node;" (.ref b2x4_14c5015) ∧ Fld Z h b5013 own_s4 "size" "J" (.long (((0 : Int64) + (1 : Int64)) + (1 : Int64))) ∧ True))
set_option maxRecDepth 65536 in
set_option maxHeartbeats 40000000 in
theorem own_rm8_91 (l : Launch) (Z : State) (a0 : Array Value) (hw : ∀ d ∈ tables_1, d.before a0 Z = true) (ws : List Jvm.Cond) (b5013 : Addr) (b5005 : Addr) (b2x4_14c5015 : Addr) (b2x5_18c4c5015 : Addr) (k2x5_18c4c5015c2c5044 : ClassId) (b5001 : Addr) (j12 : Int64) (j16 : Int64) (jp1 : Int64) (jp4 : Int64) (w_NONE : Addr) (b6x14_69c4c13c16c2c5044 : Addr) (b3x14_69c4c13c16c2c5044 : Addr) (k3x14_69c4c13c16c2c5044 : ClassId) (w_NONE_names : Addr) (k_w_NONE_names : ClassId) (h0 : Heap) (n0 : Nat) (Z0 : n0 ≤ h0.size) (P0 : Fld Z h0 b5013 own_s4 "root" "Lcom/example/lonborg/lonborg/ItemTree$Node;" (.ref b2x4_14c5015)) (P1 : Fld Z h0 b2x4_14c5015 own_s0 "count" "I" (.int ((0 : Int32) + (1 : Int32)))) (P2 : Fld Z h0 b2x4_14c5015 own_s5 "items" own_s8 (.ref b2x5_18c4c5015)) (P3 : Arv Z h0 b2x5_18c4c5015 k2x5_18c4c5015c2c5044 (.object own_s1) (64 : Int32) [(.ref b5001)] .null) (OFc5044_0_0 : Ovr Z k2x5_18c4c5015c2c5044 own_s1) (P5 : Fld Z h0 b5005 own_s1 "priority" "J" (.long j12)) (P6 : Exa Z h0 b5005 own_s1) (P7 : Fld Z h0 b5005 own_s1 "id" "J" (.long j16)) (P8 : Fld Z h0 b5001 own_s1 "priority" "J" (.long jp1)) (P9 : Fld Z h0 b5001 own_s1 "id" "J" (.long jp4)) (P10 : Exa Z h0 b5001 own_s1) (P11 : Exa Z h0 b2x4_14c5015 own_s5) (P12 : Fld Z h0 b5005 own_s1 "needs" "Lcom/example/lonborg/lonborg/Resources;" (.ref w_NONE)) (P13 : Fld Z h0 b2x4_14c5015 own_s0 "least" own_s6 (.ref b6x14_69c4c13c16c2c5044)) (P14 : Fld Z h0 b6x14_69c4c13c16c2c5044 own_s2 "parts" own_s9 (.ref b3x14_69c4c13c16c2c5044)) (P15 : Arv Z h0 b3x14_69c4c13c16c2c5044 k3x14_69c4c13c16c2c5044 (.object own_s3) ((0 : Int32) + (1 : Int32)) [(.ref w_NONE)] .null) (OFc5044_0_9 : Ovr Z k3x14_69c4c13c16c2c5044 own_s3) (P17 : Fld Z h0 w_NONE own_s3 "names" "[Ljava/lang/String;" (.ref w_NONE_names)) (P18 : Arv Z h0 w_NONE_names k_w_NONE_names (.object "java/lang/String") (0 : Int32) [] .null) (P19 : Exa Z h0 w_NONE own_s3) (P20 : Exa Z h0 b6x14_69c4c13c16c2c5044 own_s2) (P21 : Fld Z h0 b2x4_14c5015 own_s0 "stale" "Z" (.int (0 : Int32))) (P22 : Exa Z h0 b2x5_18c4c5015 own_s8) (g_b2x4_14c5015 : n0 ≤ b2x4_14c5015) (g_b2x5_18c4c5015 : n0 ≤ b2x5_18c4c5015) (P25 : Fld Z h0 b5013 own_s4 "size" "J" (.long ((0 : Int64) + (1 : Int64)))) (P26 : Exa Z h0 b5013 own_s4) (g_b5013 : n0 ≤ b5013) :
    MetFree l own_y2 (head1 (Jvm.Cond.code own_y2 prog_2_method_2_code 3 none :: ws) ({ frames := 4, cells := 0, slots := 0, locals := 64 } : Room)) (fun a U => a = #[(.ref b5013), (.ref b5005)] ∧ Z.Warmed39 U.vm ∧ U.heap = h0) (fun _ _ _ _ _ => True) (fun _ U o U' => ∃ v L, o = .returned v ∧ own_Q8_91 Z b5013 b5005 b2x4_14c5015 b2x5_18c4c5015 k2x5_18c4c5015c2c5044 b5001 j12 j16 jp1 jp4 w_NONE b6x14_69c4c13c16c2c5044 b3x14_69c4c13c16c2c5044 k3x14_69c4c13c16c2c5044 w_NONE_names k_w_NONE_names h0 n0 v U'.heap L ∧ FrameEnd U o U' L ({ frames := 4, cells := 0, slots := 0, locals := 64 } : Room).cells ({ frames := 4, cells := 0, slots := 0, locals := 64 } : Room).slots) := by
  refine MetFree.of_bodySF (plainFor_of_name own_pn3) hisR ?_
  intro p e s m args below meth c s₁ Bd hml0 hP hK
  obtain ⟨rfl, hZ, hh⟩ := hP
  have hx := Bd.exec
  have hlk := Bd.notSynchronized
  have hret := Bd.returns
  have hby := Bd.bytes
  have hml : c.maxLocals = 3 := hml0
  have hown : s.vm.findClass own_s4 = some m.cls := findClass_of_methodNamed Bd.named
  have hnm := (name_of_methodNamed Bd.named Bd.method).1
  have X0 : Stand p l e ({ frames := 4, cells := 0, slots := 0, locals := 64 } : Room) s m #[(.ref b5013), (.ref b5005)] below meth c s₁ [] 0 0 := Stand.of_body Bd
  have e0 : s₁.heap = h0 := by rw [← hh, Bd.state]; rfl
  have N0 := Fr.nil n0
  refine own_open (Q := own_Q8_91 Z b5013 b5005 b2x4_14c5015 b2x5_18c4c5015 k2x5_18c4c5015c2c5044 b5001 j12 j16 jp1 jp4 w_NONE b6x14_69c4c13c16c2c5044 b3x14_69c4c13c16c2c5044 k3x14_69c4c13c16c2c5044 w_NONE_names k_w_NONE_names h0 n0) (own_ef8 m b5013 b5005) ?_
  refine own_st (fun t k => XS.aloadN X0.here hx rfl (hb hby own_d8_0) rfl rfl k) ?_
  show own_Go _ _ _ _ s₁ (mkF m 1 #[.val (.ref b5013), .val (.ref b5005), .unset] [(.ref b5013)])
  obtain ⟨T1, X1, e1, st1⟩ := getF X0 hx hZ hown (host := "") (Or.inl (own_w hw 54 rfl)) Via.refl e0 P0 (g := (mkF m 1 #[.val (.ref b5013), .val (.ref b5005), .unset] [(.ref b5013)])) rfl rfl (hb hby own_d8_1)
  refine own_st st1 ?_
  refine own_st (fun t k => XS.aloadN X1.here hx rfl (hb hby own_d8_4) rfl rfl k) ?_
  show own_Go _ _ _ _ T1 (mkF m 5 #[.val (.ref b5013), .val (.ref b5005), .unset] [(.ref b5005), (.ref b2x4_14c5015)])
  obtain ⟨cq2, kq2, q2a, q2b, q2c⟩ := isOf hZ e1 P11
  obtain ⟨_, _, ⟨T2, L2, k2, n2⟩, -, X2, ⟨Lc2, hQ2, l2, y2, z2⟩, st2⟩ := X1.virtualBack hx (y := (⟨own_s0, "add", own_s10⟩ : MethodName)) (z := own_y11) hown (mvT hZ (own_w hw 68 rfl)) (mvT hZ (own_w hw 69 rfl)) (own_nf (args := #[]) (mvT hZ (own_w hw 89 rfl)) rfl) (mvT hZ (own_w hw 70 rfl)) (mvT hZ (own_w hw 71 rfl)) (by decide) (backOf (W := 0) (own_rm9_100 l Z a0 hw [] b2x4_14c5015 b5005 b2x5_18c4c5015 k2x5_18c4c5015c2c5044 b5001 j12 j16 jp1 jp4 w_NONE b6x14_69c4c13c16c2c5044 b3x14_69c4c13c16c2c5044 k3x14_69c4c13c16c2c5044 w_NONE_names k_w_NONE_names h0 n0 Z0 P1 P2 P3 OFc5044_0_0 P5 P6 P7 P8 P9 P10 P11 P12 P13 P14 P15 OFc5044_0_9 P17 P18 P19 P20 P21 g_b2x4_14c5015 P22 g_b2x5_18c4c5015) hZ (own_w hw 72 rfl) (own_w hw 35 rfl) (by decide) (by decide)) q2a q2c (g := (mkF m 5 #[.val (.ref b5013), .val (.ref b5005), .unset] [(.ref b5005), (.ref b2x4_14c5015)])) rfl (by rw [hml]; rfl) (Steps.refl _) (argsL := [(.ref b5005)]) (rest := []) (lenOf own_pd11 rfl) rfl (by show 2 * 0 + _ ≤ _; exact Nat.le_of_eq rfl) (hb hby own_d8_5) (fun _ _ => ⟨rfl, e1, (by decide : 0 + 0 ≤ _), (by decide : 0 + 0 ≤ _)⟩)
  dsimp only [Pt.U, Pt.locs, Pt.cells, Pt.slots] at X2 l2 y2 z2 st2 hQ2
  subst l2 y2 z2
  obtain ⟨N2q, Kq2, hL2⟩ := hQ2
  have N2 := Fr.app N0 N2q
  have K2 : Keep h0 T2.heap [b2x5_18c4c5015, b2x4_14c5015, b5013] := (Keep.refl h0 [b2x5_18c4c5015, b2x4_14c5015, b5013]).trans Kq2 (allS (Or.inl (List.mem_of_getElem? (i := 1) rfl)) (allS (Or.inl (List.mem_of_getElem? (i := 0) rfl)) all0))
  have Z2 := Nat.le_trans Z0 Kq2.1
  rcases hL2 with ⟨k2x5_18c4c5015c2c5044c2, rfl, hq2_0_0, Fc2_0_0, Fc2_0_1, Fc2_0_2, Fc2_0_3, Fc2_0_4, OFc2_0_4, -⟩ | ⟨k2x5_18c4c5015c2c5044c2, rfl, hq2_1_0, Fc2_1_0, Fc2_1_1, Fc2_1_2, Fc2_1_3, Fc2_1_4, OFc2_1_4, -⟩
  · skip
    refine own_st (fun t k => st2.trans k) ?_
    refine own_st (fun t k => XS.astoreN X2.here hx rfl (hb hby own_d8_8) rfl rfl (l' := #[.val (.ref b5013), .val (.ref b5005), .val .null]) rfl k) ?_
    refine own_st (fun t k => XS.aloadN X2.here hx rfl (hb hby own_d8_9) rfl rfl k) ?_
    refine own_st (fun t k => XS.ifnullYes X2.here hx rfl (pc0 := 10) (pc' := 29) rfl (hb hby own_d8_10) rfl (by decide) (by decide) k) ?_
    show own_Go _ _ _ _ T2 (mkF m 29 #[.val (.ref b5013), .val (.ref b5005), .val .null] [])
    refine own_st (fun t k => XS.aloadN X2.here hx rfl (hb hby own_d8_29) rfl rfl k) ?_
    refine own_st (fun t k => XS.dup X2.here hx rfl (hb hby own_d8_30) rfl rfl k) ?_
    show own_Go _ _ _ _ T2 (mkF m 31 #[.val (.ref b5013), .val (.ref b5005), .val .null] [(.ref b5013), (.ref b5013)])
    have f3 := (P25.keep Kq2 (ninS (ne_exa P26 P11 (by decide)) (ninS (ne_exa P26 P22 (by decide)) nin0)))
    obtain ⟨T4, X4, e4, st4⟩ := getF X2 hx hZ hown (host := "") (Or.inl (own_w hw 61 rfl)) Via.refl rfl f3 (g := (mkF m 31 #[.val (.ref b5013), .val (.ref b5005), .val .null] [(.ref b5013), (.ref b5013)])) rfl rfl (hb hby own_d8_31)
    refine own_st st4 ?_
    refine own_st (fun t k => XS.lconst X4.here hx rfl (hb hby own_d8_34) k) ?_
    show own_Go _ _ _ _ T4 (mkF m 35 #[.val (.ref b5013), .val (.ref b5005), .val .null] [(.long (1 : Int64)), (.long ((0 : Int64) + (1 : Int64))), (.ref b5013)])
    refine own_st (fun t k => XS.ladd X4.here hx rfl (hb hby own_d8_35) rfl k) ?_
    show own_Go _ _ _ _ T4 (mkF m 36 #[.val (.ref b5013), .val (.ref b5005), .val .null] [(.long (((0 : Int64) + (1 : Int64)) + (1 : Int64))), (.ref b5013)])
    have f5 := (P26.keep Kq2)
    obtain ⟨T6, h6, X6, e6, W6, st6⟩ := putF X4 hx hZ hown (host := "") (Or.inl (own_w hw 61 rfl)) Via.refl e4 f3 f5 (Or.inl (own_w hw 62 rfl)) (own_w hw 27 rfl) (ty := .long) (by decide) rfl rfl (g := (mkF m 36 #[.val (.ref b5013), .val (.ref b5005), .val .null] [(.long (((0 : Int64) + (1 : Int64)) + (1 : Int64))), (.ref b5013)])) rfl rfl (hb hby own_d8_36)
    refine own_st st6 ?_
    have K6 : Keep h0 h6 [b2x5_18c4c5015, b2x4_14c5015, b5013] := K2.wr W6 (Or.inl (List.mem_of_getElem? (i := 2) rfl))
    have Z6 := Nat.le_trans Z2 (Keep.of_wr W6).1
    have N6 := Fr.snoc X6 N2 g_b5013
    have F6 := f3.same W6
    show own_Go _ _ _ _ T6 (mkF m 39 #[.val (.ref b5013), .val (.ref b5005), .val .null] [])
    have f7 := (Fc2_0_4.other W6 (ne_exa P22 P26 (by decide)))
    have f8 := (Fc2_0_0.other W6 (Or.inl (ne_exa P11 P26 (by decide))))
    have f9 := (Fc2_0_1.other W6 (Or.inl (ne_exa P11 P26 (by decide))))
    have f10 := (Fc2_0_2.other W6 (Or.inl (ne_exa P11 P26 (by decide))))
    have f11 := (Fc2_0_3.other W6 (Or.inl (ne_exa P11 P26 (by decide))))
    have f12 := ((P0.keep Kq2 (ninS (ne_exa P26 P11 (by decide)) (ninS (ne_exa P26 P22 (by decide)) nin0))).other W6 (Or.inr (slot_ne (Or.inl (own_w hw 55 rfl)) (Or.inl (own_w hw 62 rfl)) (by decide) (t := (.object own_s0)) (t' := .long) (by decide) (by decide))))
    exact own_retV X6 hx hlk hret (hb hby own_d8_39) (by decide) (by decide) e6 ⟨N6, K6, (Or.inl ⟨_, rfl, hq2_0_0, f7, OFc2_0_4, f8, f9, f10, f11, f12, F6, trivial⟩)⟩
  · skip
    refine own_st (fun t k => st2.trans k) ?_
    refine own_st (fun t k => XS.astoreN X2.here hx rfl (hb hby own_d8_8) rfl rfl (l' := #[.val (.ref b5013), .val (.ref b5005), .val .null]) rfl k) ?_
    show own_Go _ _ _ _ T2 (mkF m 9 #[.val (.ref b5013), .val (.ref b5005), .val .null] [])
    refine own_st (fun t k => XS.aloadN X2.here hx rfl (hb hby own_d8_9) rfl rfl k) ?_
    refine own_st (fun t k => XS.ifnullYes X2.here hx rfl (pc0 := 10) (pc' := 29) rfl (hb hby own_d8_10) rfl (by decide) (by decide) k) ?_
    refine own_st (fun t k => XS.aloadN X2.here hx rfl (hb hby own_d8_29) rfl rfl k) ?_
    refine own_st (fun t k => XS.dup X2.here hx rfl (hb hby own_d8_30) rfl rfl k) ?_
    show own_Go _ _ _ _ T2 (mkF m 31 #[.val (.ref b5013), .val (.ref b5005), .val .null] [(.ref b5013), (.ref b5013)])
    have f13 := (P25.keep Kq2 (ninS (ne_exa P26 P11 (by decide)) (ninS (ne_exa P26 P22 (by decide)) nin0)))
    obtain ⟨T14, X14, e14, st14⟩ := getF X2 hx hZ hown (host := "") (Or.inl (own_w hw 61 rfl)) Via.refl rfl f13 (g := (mkF m 31 #[.val (.ref b5013), .val (.ref b5005), .val .null] [(.ref b5013), (.ref b5013)])) rfl rfl (hb hby own_d8_31)
    refine own_st st14 ?_
    refine own_st (fun t k => XS.lconst X14.here hx rfl (hb hby own_d8_34) k) ?_
    refine own_st (fun t k => XS.ladd X14.here hx rfl (hb hby own_d8_35) rfl k) ?_
    show own_Go _ _ _ _ T14 (mkF m 36 #[.val (.ref b5013), .val (.ref b5005), .val .null] [(.long (((0 : Int64) + (1 : Int64)) + (1 : Int64))), (.ref b5013)])
    have f15 := (P26.keep Kq2)
    obtain ⟨T16, h16, X16, e16, W16, st16⟩ := putF X14 hx hZ hown (host := "") (Or.inl (own_w hw 61 rfl)) Via.refl e14 f13 f15 (Or.inl (own_w hw 62 rfl)) (own_w hw 27 rfl) (ty := .long) (by decide) rfl rfl (g := (mkF m 36 #[.val (.ref b5013), .val (.ref b5005), .val .null] [(.long (((0 : Int64) + (1 : Int64)) + (1 : Int64))), (.ref b5013)])) rfl rfl (hb hby own_d8_36)
    refine own_st st16 ?_
    have K16 : Keep h0 h16 [b2x5_18c4c5015, b2x4_14c5015, b5013] := K2.wr W16 (Or.inl (List.mem_of_getElem? (i := 2) rfl))
    have Z16 := Nat.le_trans Z2 (Keep.of_wr W16).1
    have N16 := Fr.snoc X16 N2 g_b5013
    have F16 := f13.same W16
    show own_Go _ _ _ _ T16 (mkF m 39 #[.val (.ref b5013), .val (.ref b5005), .val .null] [])
    have f17 := (Fc2_1_4.other W16 (ne_exa P22 P26 (by decide)))
    have f18 := (Fc2_1_0.other W16 (Or.inl (ne_exa P11 P26 (by decide))))
    have f19 := (Fc2_1_1.other W16 (Or.inl (ne_exa P11 P26 (by decide))))
    have f20 := (Fc2_1_2.other W16 (Or.inl (ne_exa P11 P26 (by decide))))
    have f21 := (Fc2_1_3.other W16 (Or.inl (ne_exa P11 P26 (by decide))))
    have f22 := ((P0.keep Kq2 (ninS (ne_exa P26 P11 (by decide)) (ninS (ne_exa P26 P22 (by decide)) nin0))).other W16 (Or.inr (slot_ne (Or.inl (own_w hw 55 rfl)) (Or.inl (own_w hw 62 rfl)) (by decide) (t := (.object own_s0)) (t' := .long) (by decide) (by decide))))
    exact own_retV X16 hx hlk hret (hb hby own_d8_39) (by decide) (by decide) e16 ⟨N16, K16, (Or.inr ⟨_, rfl, hq2_1_0, f17, OFc2_1_4, f18, f19, f20, f21, f22, F16, trivial⟩)⟩
theorem own_d21_0 : decode method_2_code 0 = .ok (.lload_n 0, 1) := by decide +kernel
theorem own_d21_1 : decode method_2_code 1 = .ok (.lload 4, 2) := by decide +kernel
theorem own_d21_3 : decode method_2_code 3 = .ok (.lcmp, 1) := by decide +kernel
theorem own_d21_4 : decode method_2_code 4 = .ok (.ifCond .le 5, 3) := by decide +kernel
theorem own_d21_7 : decode method_2_code 7 = .ok (.iconst 1, 1) := by decide +kernel
theorem own_d21_8 : decode method_2_code 8 = .ok (.ireturn, 1) := by decide +kernel
theorem own_d21_9 : decode method_2_code 9 = .ok (.lload_n 0, 1) := by decide +kernel
theorem own_d21_10 : decode method_2_code 10 = .ok (.lload 4, 2) := by decide +kernel
theorem own_d21_12 : decode method_2_code 12 = .ok (.lcmp, 1) := by decide +kernel
theorem own_d21_13 : decode method_2_code 13 = .ok (.ifCond .ne 12, 3) := by decide +kernel
theorem own_d21_16 : decode method_2_code 16 = .ok (.lload_n 2, 1) := by decide +kernel
theorem own_d21_17 : decode method_2_code 17 = .ok (.lload 6, 2) := by decide +kernel
theorem own_d21_19 : decode method_2_code 19 = .ok (.lcmp, 1) := by decide +kernel
theorem own_d21_20 : decode method_2_code 20 = .ok (.ifCond .le 5, 3) := by decide +kernel
theorem own_d21_23 : decode method_2_code 23 = .ok (.iconst 1, 1) := by decide +kernel
theorem own_d21_24 : decode method_2_code 24 = .ok (.ireturn, 1) := by decide +kernel
theorem own_d21_25 : decode method_2_code 25 = .ok (.iconst 0, 1) := by decide +kernel
theorem own_d21_26 : decode method_2_code 26 = .ok (.ireturn, 1) := by decide +kernel
theorem own_ef21 (m : MethodId) (x0 : Int64) (x1 : Int64) (x2 : Int64) (x3 : Int64) : entryFrame m #[(.long x0), (.long x1), (.long x2), (.long x3)] 8 = mkF m 0 #[.val (.long x0), .second, .val (.long x1), .second, .val (.long x2), .second, .val (.long x3), .second] [] := by first | (simp [entryFrame, mkF, argsToLocals, Value.category]; done) | rfl
theorem own_pn6 : plainName own_s12 = true := by first | (simp [plainName, overriddenIn]; done) | decide +kernel
def own_Q21 (jp0 : Int64) (jp1 : Int64) (jp2 : Int64) (jp3 : Int64) (h0 : Heap) (n0 : Nat) (v : Option Value) (h : Heap) (L : List Loc) : Prop := Fr n0 L ∧ h = h0 ∧ ((v = some (.int (1 : Int32)) ∧ (own_lt jp2 jp3 jp0 jp1) ∧ True) ∨ (v = some (.int (0 : Int32)) ∧ (¬ (own_lt jp2 jp3 jp0 jp1)) ∧ True))
set_option maxRecDepth 65536 in
set_option maxHeartbeats 40000000 in
theorem own_rm21 (l : Launch) (Z : State) (a0 : Array Value) (hw : ∀ d ∈ tables_1, d.before a0 Z = true) (ws : List Jvm.Cond) (jp0 : Int64) (jp1 : Int64) (jp2 : Int64) (jp3 : Int64) (h0 : Heap) (n0 : Nat) (Z0 : n0 ≤ h0.size) :
    MetFree l own_y3 (head1 (Jvm.Cond.code own_y3 method_2_code 8 (some .boolean) :: ws) ({ frames := 0, cells := 0, slots := 0, locals := 0 } : Room)) (fun a U => a = #[(.long jp0), (.long jp1), (.long jp2), (.long jp3)] ∧ Z.Warmed39 U.vm ∧ U.heap = h0) (fun _ _ _ _ _ => True) (fun _ U o U' => ∃ v L, o = .returned v ∧ own_Q21 jp0 jp1 jp2 jp3 h0 n0 v U'.heap L ∧ FrameEnd U o U' L ({ frames := 0, cells := 0, slots := 0, locals := 0 } : Room).cells ({ frames := 0, cells := 0, slots := 0, locals := 0 } : Room).slots) := by
  refine MetFree.of_bodySF (plainFor_of_name own_pn6) hisR ?_
  intro p e s m args below meth c s₁ Bd hml0 hP hK
  obtain ⟨rfl, hZ, hh⟩ := hP
  have hx := Bd.exec
  have hlk := Bd.notSynchronized
  have hret := Bd.returns
  have hby := Bd.bytes
  have hml : c.maxLocals = 8 := hml0
  have hown : s.vm.findClass own_s12 = some m.cls := findClass_of_methodNamed Bd.named
  have hnm := (name_of_methodNamed Bd.named Bd.method).1
  have X0 : Stand p l e ({ frames := 0, cells := 0, slots := 0, locals := 0 } : Room) s m #[(.long jp0), (.long jp1), (.long jp2), (.long jp3)] below meth c s₁ [] 0 0 := Stand.of_body Bd
  have e0 : s₁.heap = h0 := by rw [← hh, Bd.state]; rfl
  have N0 := Fr.nil n0
  refine own_open (Q := own_Q21 jp0 jp1 jp2 jp3 h0 n0) (own_ef21 m jp0 jp1 jp2 jp3) ?_
  refine own_st (fun t k => XS.lloadN X0.here hx rfl (hb hby own_d21_0) rfl k) ?_
  refine own_st (fun t k => XS.lload X0.here hx rfl (hb hby own_d21_1) rfl k) ?_
  refine own_st (fun t k => XS.lcmp X0.here hx rfl (hb hby own_d21_3) rfl k) ?_
  show own_Go _ _ _ _ s₁ (mkF m 4 #[.val (.long jp0), .second, .val (.long jp1), .second, .val (.long jp2), .second, .val (.long jp3), .second] [(.int (lcmpW jp0 jp2))])
  by_cases hc1 : (0 : Int32) < (lcmpW jp0 jp2)
  · skip
    refine own_st (fun t k => XS.ifNo X0.here hx rfl (hb hby own_d21_4) rfl ((if0 _ _).trans (tlt hc1).2.2.2) k) ?_
    refine own_st (fun t k => XS.iconst X0.here hx rfl (hb hby own_d21_7) k) ?_
    show own_Go _ _ _ _ s₁ (mkF m 8 #[.val (.long jp0), .second, .val (.long jp1), .second, .val (.long jp2), .second, .val (.long jp3), .second] [(.int (1 : Int32))])
    exact own_retZ X0 hx hlk (t := .boolean) hret (by simp) (hb hby own_d21_8) (by decide) (by decide) e0 ⟨N0, rfl, (Or.inl ⟨rfl, (by have o0 := (lw_gt _ _).mp hc1; simp only [own_lt, Int64.lt_iff_toInt_lt, ← Int64.toInt_inj] at o0 ⊢; omega), trivial⟩)⟩
  · skip
    refine own_st (fun t k => XS.ifYes X0.here hx rfl (pc0 := 4) (pc' := 9) rfl (hb hby own_d21_4) rfl ((if0 _ _).trans (flt hc1).2.2.2) (by decide) (by decide) k) ?_
    refine own_st (fun t k => XS.lloadN X0.here hx rfl (hb hby own_d21_9) rfl k) ?_
    show own_Go _ _ _ _ s₁ (mkF m 10 #[.val (.long jp0), .second, .val (.long jp1), .second, .val (.long jp2), .second, .val (.long jp3), .second] [(.long jp0)])
    refine own_st (fun t k => XS.lload X0.here hx rfl (hb hby own_d21_10) rfl k) ?_
    refine own_st (fun t k => XS.lcmp X0.here hx rfl (hb hby own_d21_12) rfl k) ?_
    show own_Go _ _ _ _ s₁ (mkF m 13 #[.val (.long jp0), .second, .val (.long jp1), .second, .val (.long jp2), .second, .val (.long jp3), .second] [(.int (lcmpW jp0 jp2))])
    by_cases hc2 : (lcmpW jp0 jp2) = (0 : Int32)
    · skip
      refine own_st (fun t k => XS.ifNo X0.here hx rfl (hb hby own_d21_13) rfl ((if0 _ _).trans (teq hc2).2) k) ?_
      refine own_st (fun t k => XS.lloadN X0.here hx rfl (hb hby own_d21_16) rfl k) ?_
      show own_Go _ _ _ _ s₁ (mkF m 17 #[.val (.long jp0), .second, .val (.long jp1), .second, .val (.long jp2), .second, .val (.long jp3), .second] [(.long jp1)])
      refine own_st (fun t k => XS.lload X0.here hx rfl (hb hby own_d21_17) rfl k) ?_
      refine own_st (fun t k => XS.lcmp X0.here hx rfl (hb hby own_d21_19) rfl k) ?_
      show own_Go _ _ _ _ s₁ (mkF m 20 #[.val (.long jp0), .second, .val (.long jp1), .second, .val (.long jp2), .second, .val (.long jp3), .second] [(.int (lcmpW jp1 jp3))])
      by_cases hc3 : (0 : Int32) < (lcmpW jp1 jp3)
      · skip
        refine own_st (fun t k => XS.ifNo X0.here hx rfl (hb hby own_d21_20) rfl ((if0 _ _).trans (tlt hc3).2.2.2) k) ?_
        refine own_st (fun t k => XS.iconst X0.here hx rfl (hb hby own_d21_23) k) ?_
        show own_Go _ _ _ _ s₁ (mkF m 24 #[.val (.long jp0), .second, .val (.long jp1), .second, .val (.long jp2), .second, .val (.long jp3), .second] [(.int (1 : Int32))])
        exact own_retZ X0 hx hlk (t := .boolean) hret (by simp) (hb hby own_d21_24) (by decide) (by decide) e0 ⟨N0, rfl, (Or.inl ⟨rfl, (by have o0 := mt (lw_gt _ _).mpr hc1; have o1 := (lw_eq _ _).mp hc2; have o2 := (lw_gt _ _).mp hc3; simp only [own_lt, Int64.lt_iff_toInt_lt, ← Int64.toInt_inj] at o0 o1 o2 ⊢; omega), trivial⟩)⟩
      · skip
        refine own_st (fun t k => XS.ifYes X0.here hx rfl (pc0 := 20) (pc' := 25) rfl (hb hby own_d21_20) rfl ((if0 _ _).trans (flt hc3).2.2.2) (by decide) (by decide) k) ?_
        refine own_st (fun t k => XS.iconst X0.here hx rfl (hb hby own_d21_25) k) ?_
        show own_Go _ _ _ _ s₁ (mkF m 26 #[.val (.long jp0), .second, .val (.long jp1), .second, .val (.long jp2), .second, .val (.long jp3), .second] [(.int (0 : Int32))])
        exact own_retZ X0 hx hlk (t := .boolean) hret (by simp) (hb hby own_d21_26) (by decide) (by decide) e0 ⟨N0, rfl, (Or.inr ⟨rfl, (by have o0 := mt (lw_gt _ _).mpr hc1; have o1 := (lw_eq _ _).mp hc2; have o2 := mt (lw_gt _ _).mpr hc3; simp only [own_lt, Int64.lt_iff_toInt_lt, ← Int64.toInt_inj] at o0 o1 o2 ⊢; omega), trivial⟩)⟩
    · skip
      refine own_st (fun t k => XS.ifYes X0.here hx rfl (pc0 := 13) (pc' := 25) rfl (hb hby own_d21_13) rfl ((if0 _ _).trans (feq hc2).2) (by decide) (by decide) k) ?_
      refine own_st (fun t k => XS.iconst X0.here hx rfl (hb hby own_d21_25) k) ?_
      show own_Go _ _ _ _ s₁ (mkF m 26 #[.val (.long jp0), .second, .val (.long jp1), .second, .val (.long jp2), .second, .val (.long jp3), .second] [(.int (0 : Int32))])
      exact own_retZ X0 hx hlk (t := .boolean) hret (by simp) (hb hby own_d21_26) (by decide) (by decide) e0 ⟨N0, rfl, (Or.inr ⟨rfl, (by have o0 := mt (lw_gt _ _).mpr hc1; have o1 := mt (lw_eq _ _).mpr hc2; simp only [own_lt, Int64.lt_iff_toInt_lt, ← Int64.toInt_inj] at o0 o1 ⊢; omega), trivial⟩)⟩
theorem own_pd16 : parseMethodDescriptor "(JJJJ)Z" = some ⟨[.long, .long, .long, .long], some .boolean⟩ := by decide +kernel
def own_Q22_109 (Z : State) (b2x4_14c5015 : Addr) (b2x5_18c4c5015 : Addr) (k2x5_18c4c5015c2c5044c2c5064 : ClassId) (b5001 : Addr) (b5005 : Addr) (h0 : Heap) (n0 : Nat) (v : Option Value) (h : Heap) (L : List Loc) : Prop := Fr n0 L ∧ Keep h0 h [] ∧ ((v = some (.ref b5005) ∧ True))
set_option maxRecDepth 65536 in
set_option maxHeartbeats 40000000 in
theorem own_rm22_109 (l : Launch) (Z : State) (a0 : Array Value) (hw : ∀ d ∈ tables_1, d.before a0 Z = true) (ws : List Jvm.Cond) (b2x4_14c5015 : Addr) (b2x5_18c4c5015 : Addr) (k2x5_18c4c5015c2c5044c2c5064 : ClassId) (b5001 : Addr) (b5005 : Addr) (h0 : Heap) (n0 : Nat) (Z0 : n0 ≤ h0.size) (P0 : Fld Z h0 b2x4_14c5015 own_s5 "items" own_s8 (.ref b2x5_18c4c5015)) (P1 : Fld Z h0 b2x4_14c5015 own_s0 "count" "I" (.int (((0 : Int32) + (1 : Int32)) + (1 : Int32)))) (P2 : Arv Z h0 b2x5_18c4c5015 k2x5_18c4c5015c2c5044c2c5064 (.object own_s1) (64 : Int32) [(.ref b5001), (.ref b5005)] .null) (OFc5064_0_0 : Ovr Z k2x5_18c4c5015c2c5044c2c5064 own_s1) :
    MetFree l own_y12 (head1 (Jvm.Cond.code own_y12 prog_4_method_4_code 1 (some (.object own_s1)) :: ws) ({ frames := 0, cells := 0, slots := 0, locals := 0 } : Room)) (fun a U => a = #[(.ref b2x4_14c5015)] ∧ Z.Warmed39 U.vm ∧ U.heap = h0) (fun _ _ _ _ _ => True) (fun _ U o U' => ∃ v L, o = .returned v ∧ own_Q22_109 Z b2x4_14c5015 b2x5_18c4c5015 k2x5_18c4c5015c2c5044c2c5064 b5001 b5005 h0 n0 v U'.heap L ∧ FrameEnd U o U' L ({ frames := 0, cells := 0, slots := 0, locals := 0 } : Room).cells ({ frames := 0, cells := 0, slots := 0, locals := 0 } : Room).slots) := by
  refine MetFree.of_bodySF (plainFor_of_name own_pn2) hisR ?_
  intro p e s m args below meth c s₁ Bd hml0 hP hK
  obtain ⟨rfl, hZ, hh⟩ := hP
  have hx := Bd.exec
  have hlk := Bd.notSynchronized
  have hret := Bd.returns
  have hby := Bd.bytes
  have hml : c.maxLocals = 1 := hml0
  have hown : s.vm.findClass own_s5 = some m.cls := findClass_of_methodNamed Bd.named
  have hnm := (name_of_methodNamed Bd.named Bd.method).1
  have X0 : Stand p l e ({ frames := 0, cells := 0, slots := 0, locals := 0 } : Room) s m #[(.ref b2x4_14c5015)] below meth c s₁ [] 0 0 := Stand.of_body Bd
  have e0 : s₁.heap = h0 := by rw [← hh, Bd.state]; rfl
  have N0 := Fr.nil n0
  refine own_open (Q := own_Q22_109 Z b2x4_14c5015 b2x5_18c4c5015 k2x5_18c4c5015c2c5044c2c5064 b5001 b5005 h0 n0) (own_ef22 m b2x4_14c5015) ?_
  refine own_st (fun t k => XS.aloadN X0.here hx rfl (hb hby own_d22_0) rfl rfl k) ?_
  show own_Go _ _ _ _ s₁ (mkF m 1 #[.val (.ref b2x4_14c5015)] [(.ref b2x4_14c5015)])
  obtain ⟨T1, X1, e1, st1⟩ := getF X0 hx hZ hown (host := "") (Or.inl (own_w hw 52 rfl)) Via.refl e0 P0 (g := (mkF m 1 #[.val (.ref b2x4_14c5015)] [(.ref b2x4_14c5015)])) rfl rfl (hb hby own_d22_1)
  refine own_st st1 ?_
  refine own_st (fun t k => XS.aloadN X1.here hx rfl (hb hby own_d22_4) rfl rfl k) ?_
  show own_Go _ _ _ _ T1 (mkF m 5 #[.val (.ref b2x4_14c5015)] [(.ref b2x4_14c5015), (.ref b2x5_18c4c5015)])
  obtain ⟨T2, X2, e2, st2⟩ := getF X1 hx hZ hown (host := "") (Or.inl (own_w hw 77 rfl)) (Via.of (own_w hw 78 rfl)) e1 P1 (g := (mkF m 5 #[.val (.ref b2x4_14c5015)] [(.ref b2x4_14c5015), (.ref b2x5_18c4c5015)])) rfl rfl (hb hby own_d22_5)
  refine own_st st2 ?_
  refine own_st (fun t k => XS.iconst X2.here hx rfl (hb hby own_d22_8) k) ?_
  refine own_st (fun t k => XS.isub X2.here hx rfl (hb hby own_d22_9) rfl k) ?_
  show own_Go _ _ _ _ T2 (mkF m 10 #[.val (.ref b2x4_14c5015)] [(.int ((((0 : Int32) + (1 : Int32)) + (1 : Int32)) - (1 : Int32))), (.ref b2x5_18c4c5015)])
  refine own_st (own_aaload X2 hx hZ e2 P2 rfl (j := ((((0 : Int32) + (1 : Int32)) + (1 : Int32)) - (1 : Int32))) (v := (.ref b5005)) ⟨by decide, by decide⟩ rfl (g := (mkF m 10 #[.val (.ref b2x4_14c5015)] [(.int ((((0 : Int32) + (1 : Int32)) + (1 : Int32)) - (1 : Int32))), (.ref b2x5_18c4c5015)])) rfl rfl (hb hby own_d22_10)) ?_
  show own_Go _ _ _ _ T2 (mkF m 11 #[.val (.ref b2x4_14c5015)] [(.ref b5005)])
  exact own_retA X2 hx hlk hret rfl rfl (hb hby own_d22_11) (by decide) (by decide) e2 ⟨N0, (Keep.refl h0 []), ⟨rfl, trivial⟩⟩
def own_Q7_108 (Z : State) (b5013 : Addr) (b2x4_14c5015 : Addr) (b2x5_18c4c5015 : Addr) (k2x5_18c4c5015c2c5044c2c5064 : ClassId) (b5001 : Addr) (b5005 : Addr) (h0 : Heap) (n0 : Nat) (v : Option Value) (h : Heap) (L : List Loc) : Prop := Fr n0 L ∧ Keep h0 h [] ∧ ((v = some (.ref b5005) ∧ True))
set_option maxRecDepth 65536 in
set_option maxHeartbeats 40000000 in
theorem own_rm7_108 (l : Launch) (Z : State) (a0 : Array Value) (hw : ∀ d ∈ tables_1, d.before a0 Z = true) (ws : List Jvm.Cond) (b5013 : Addr) (b2x4_14c5015 : Addr) (b2x5_18c4c5015 : Addr) (k2x5_18c4c5015c2c5044c2c5064 : ClassId) (b5001 : Addr) (b5005 : Addr) (h0 : Heap) (n0 : Nat) (Z0 : n0 ≤ h0.size) (P0 : Fld Z h0 b5013 own_s4 "size" "J" (.long (((0 : Int64) + (1 : Int64)) + (1 : Int64)))) (P1 : Fld Z h0 b5013 own_s4 "root" "Lcom/example/lonborg/lonborg/ItemTree$Node;" (.ref b2x4_14c5015)) (P2 : Fld Z h0 b2x4_14c5015 own_s5 "items" own_s8 (.ref b2x5_18c4c5015)) (P3 : Fld Z h0 b2x4_14c5015 own_s0 "count" "I" (.int (((0 : Int32) + (1 : Int32)) + (1 : Int32)))) (P4 : Arv Z h0 b2x5_18c4c5015 k2x5_18c4c5015c2c5044c2c5064 (.object own_s1) (64 : Int32) [(.ref b5001), (.ref b5005)] .null) (OFc5064_0_0 : Ovr Z k2x5_18c4c5015c2c5044c2c5064 own_s1) (P6 : Exa Z h0 b2x4_14c5015 own_s5) :
    MetFree l own_y1 (head1 (Jvm.Cond.code own_y1 prog_2_method_4_code 1 (some (.object own_s1)) :: ws) ({ frames := 1, cells := 0, slots := 0, locals := 12 } : Room)) (fun a U => a = #[(.ref b5013)] ∧ Z.Warmed39 U.vm ∧ U.heap = h0) (fun _ _ _ _ _ => True) (fun _ U o U' => ∃ v L, o = .returned v ∧ own_Q7_108 Z b5013 b2x4_14c5015 b2x5_18c4c5015 k2x5_18c4c5015c2c5044c2c5064 b5001 b5005 h0 n0 v U'.heap L ∧ FrameEnd U o U' L ({ frames := 1, cells := 0, slots := 0, locals := 12 } : Room).cells ({ frames := 1, cells := 0, slots := 0, locals := 12 } : Room).slots) := by
  refine MetFree.of_bodySF (plainFor_of_name own_pn3) hisR ?_
  intro p e s m args below meth c s₁ Bd hml0 hP hK
  obtain ⟨rfl, hZ, hh⟩ := hP
  have hx := Bd.exec
  have hlk := Bd.notSynchronized
  have hret := Bd.returns
  have hby := Bd.bytes
  have hml : c.maxLocals = 1 := hml0
  have hown : s.vm.findClass own_s4 = some m.cls := findClass_of_methodNamed Bd.named
  have hnm := (name_of_methodNamed Bd.named Bd.method).1
  have X0 : Stand p l e ({ frames := 1, cells := 0, slots := 0, locals := 12 } : Room) s m #[(.ref b5013)] below meth c s₁ [] 0 0 := Stand.of_body Bd
  have e0 : s₁.heap = h0 := by rw [← hh, Bd.state]; rfl
  have N0 := Fr.nil n0
  refine own_open (Q := own_Q7_108 Z b5013 b2x4_14c5015 b2x5_18c4c5015 k2x5_18c4c5015c2c5044c2c5064 b5001 b5005 h0 n0) (own_ef7 m b5013) ?_
  refine own_st (fun t k => XS.aloadN X0.here hx rfl (hb hby own_d7_0) rfl rfl k) ?_
  show own_Go _ _ _ _ s₁ (mkF m 1 #[.val (.ref b5013)] [(.ref b5013)])
  obtain ⟨T1, X1, e1, st1⟩ := getF X0 hx hZ hown (host := "") (Or.inl (own_w hw 61 rfl)) Via.refl e0 P0 (g := (mkF m 1 #[.val (.ref b5013)] [(.ref b5013)])) rfl rfl (hb hby own_d7_1)
  refine own_st st1 ?_
  refine own_st (fun t k => XS.lconst X1.here hx rfl (hb hby own_d7_4) k) ?_
  show own_Go _ _ _ _ T1 (mkF m 5 #[.val (.ref b5013)] [(.long (0 : Int64)), (.long (((0 : Int64) + (1 : Int64)) + (1 : Int64)))])
  refine own_st (fun t k => XS.lcmp X1.here hx rfl (hb hby own_d7_5) rfl k) ?_
  show own_Go _ _ _ _ T1 (mkF m 6 #[.val (.ref b5013)] [(.int (lcmpW (((0 : Int64) + (1 : Int64)) + (1 : Int64)) (0 : Int64)))])
  refine own_st (fun t k => XS.ifYes X1.here hx rfl (pc0 := 6) (pc' := 13) rfl (hb hby own_d7_6) rfl ((if0 _ _).trans (feq (by decide : ¬ ((lcmpW (((0 : Int64) + (1 : Int64)) + (1 : Int64)) (0 : Int64)) = (0 : Int32)))).2) (by decide) (by decide) k) ?_
  refine own_st (fun t k => XS.aloadN X1.here hx rfl (hb hby own_d7_13) rfl rfl k) ?_
  show own_Go _ _ _ _ T1 (mkF m 14 #[.val (.ref b5013)] [(.ref b5013)])
  obtain ⟨T2, X2, e2, st2⟩ := getF X1 hx hZ hown (host := "") (Or.inl (own_w hw 54 rfl)) Via.refl e1 P1 (g := (mkF m 14 #[.val (.ref b5013)] [(.ref b5013)])) rfl rfl (hb hby own_d7_14)
  refine own_st st2 ?_
  show own_Go _ _ _ _ T2 (mkF m 17 #[.val (.ref b5013)] [(.ref b2x4_14c5015)])
  obtain ⟨cq3, kq3, q3a, q3b, q3c⟩ := isOf hZ e2 P6
  obtain ⟨_, _, ⟨T3, L3, k3, n3⟩, -, X3, ⟨Lc3, hQ3, l3, y3, z3⟩, st3⟩ := X2.virtualBack hx (y := (⟨own_s0, "last", own_s7⟩ : MethodName)) (z := own_y12) hown (mvT hZ (own_w hw 149 rfl)) (mvT hZ (own_w hw 150 rfl)) (own_nf (args := #[]) (mvT hZ (own_w hw 89 rfl)) rfl) (mvT hZ (own_w hw 151 rfl)) (mvT hZ (own_w hw 152 rfl)) (by decide) (backOf (W := 0) (own_rm22_109 l Z a0 hw [] b2x4_14c5015 b2x5_18c4c5015 k2x5_18c4c5015c2c5044c2c5064 b5001 b5005 h0 n0 Z0 P2 P3 P4 OFc5064_0_0) hZ (own_w hw 153 rfl) (own_w hw 35 rfl) (by decide) (by decide)) q3a q3c (g := (mkF m 17 #[.val (.ref b5013)] [(.ref b2x4_14c5015)])) rfl (by rw [hml]; rfl) (Steps.refl _) (argsL := []) (rest := []) (lenOf own_pd3 rfl) rfl (by show 2 * 0 + _ ≤ _; exact Nat.le_of_eq rfl) (hb hby own_d7_17) (fun _ _ => ⟨rfl, e2, (by decide : 0 + 0 ≤ _), (by decide : 0 + 0 ≤ _)⟩)
  dsimp only [Pt.U, Pt.locs, Pt.cells, Pt.slots] at X3 l3 y3 z3 st3 hQ3
  subst l3 y3 z3
  obtain ⟨N3q, Kq3, hL3⟩ := hQ3
  have N3 := Fr.app N0 N3q
  have K3 : Keep h0 T3.heap [] := (Keep.refl h0 []).trans Kq3 all0
  have Z3 := Nat.le_trans Z0 Kq3.1
  rcases hL3 with ⟨rfl, -⟩
  · skip
    refine own_st (fun t k => st3.trans k) ?_
    show own_Go _ _ _ _ T3 (mkF m 20 #[.val (.ref b5013)] [(.ref b5005)])
    exact own_retA X3 hx hlk hret rfl rfl (hb hby own_d7_20) (by decide) (by decide) rfl ⟨N3, K3, ⟨rfl, trivial⟩⟩
def own_Q10_125 (Z : State) (b2x4_14c5015 : Addr) (b5009 : Addr) (b2x5_18c4c5015 : Addr) (k2x5_18c4c5015c2c5044c2c5104 : ClassId) (b5001 : Addr) (b5005 : Addr) (j14 : Int64) (j18 : Int64) (j12 : Int64) (j16 : Int64) (jp1 : Int64) (jp4 : Int64) (h0 : Heap) (n0 : Nat) (v : Option Value) (h : Heap) (L : List Loc) : Prop := Fr n0 L ∧ Keep h0 h [] ∧ ((v = some (.int (((((0 : Int32) + (((0 : Int32) + (1 : Int32)) + (1 : Int32))).toUInt32 >>> ((1 : Int32) &&& 31).toUInt32).toInt32) + (1 : Int32))) ∧ (own_lt j12 j16 j14 j18) ∧ True) ∨ (v = some (.int (((((0 : Int32) + ((((0 : Int32) + (((0 : Int32) + (1 : Int32)) + (1 : Int32))).toUInt32 >>> ((1 : Int32) &&& 31).toUInt32).toInt32)).toUInt32 >>> ((1 : Int32) &&& 31).toUInt32).toInt32) + (1 : Int32))) ∧ (¬ (own_lt j12 j16 j14 j18)) ∧ (own_lt jp1 jp4 j14 j18) ∧ True) ∨ (v = some (.int (0 : Int32)) ∧ (¬ (own_lt j12 j16 j14 j18)) ∧ (¬ (own_lt jp1 jp4 j14 j18)) ∧ True))
set_option maxRecDepth 65536 in
set_option maxHeartbeats 40000000 in
theorem own_rm10_125 (l : Launch) (Z : State) (a0 : Array Value) (hw : ∀ d ∈ tables_1, d.before a0 Z = true) (ws : List Jvm.Cond) (b2x4_14c5015 : Addr) (b5009 : Addr) (b2x5_18c4c5015 : Addr) (k2x5_18c4c5015c2c5044c2c5104 : ClassId) (b5001 : Addr) (b5005 : Addr) (j14 : Int64) (j18 : Int64) (j12 : Int64) (j16 : Int64) (jp1 : Int64) (jp4 : Int64) (h0 : Heap) (n0 : Nat) (Z0 : n0 ≤ h0.size) (P0 : Fld Z h0 b2x4_14c5015 own_s0 "count" "I" (.int (((0 : Int32) + (1 : Int32)) + (1 : Int32)))) (P1 : Fld Z h0 b2x4_14c5015 own_s5 "items" own_s8 (.ref b2x5_18c4c5015)) (P2 : Arv Z h0 b2x5_18c4c5015 k2x5_18c4c5015c2c5044c2c5104 (.object own_s1) (64 : Int32) [(.ref b5001), (.ref b5005)] .null) (OFc5104_0_0 : Ovr Z k2x5_18c4c5015c2c5044c2c5104 own_s1) (P4 : Fld Z h0 b5009 own_s1 "priority" "J" (.long j14)) (P5 : Exa Z h0 b5009 own_s1) (P6 : Fld Z h0 b5009 own_s1 "id" "J" (.long j18)) (P7 : Fld Z h0 b5005 own_s1 "priority" "J" (.long j12)) (P8 : Fld Z h0 b5005 own_s1 "id" "J" (.long j16)) (P9 : Exa Z h0 b5005 own_s1) (P10 : Fld Z h0 b5001 own_s1 "priority" "J" (.long jp1)) (P11 : Fld Z h0 b5001 own_s1 "id" "J" (.long jp4)) (P12 : Exa Z h0 b5001 own_s1) :
    MetFree l own_y4 (head1 (Jvm.Cond.code own_y4 prog_4_method_9_code 5 (some .int) :: ws) ({ frames := 2, cells := 0, slots := 0, locals := 28 } : Room)) (fun a U => a = #[(.ref b2x4_14c5015), (.ref b5009)] ∧ Z.Warmed39 U.vm ∧ U.heap = h0) (fun _ _ _ _ _ => True) (fun _ U o U' => ∃ v L, o = .returned v ∧ own_Q10_125 Z b2x4_14c5015 b5009 b2x5_18c4c5015 k2x5_18c4c5015c2c5044c2c5104 b5001 b5005 j14 j18 j12 j16 jp1 jp4 h0 n0 v U'.heap L ∧ FrameEnd U o U' L ({ frames := 2, cells := 0, slots := 0, locals := 28 } : Room).cells ({ frames := 2, cells := 0, slots := 0, locals := 28 } : Room).slots) := by
  refine MetFree.of_bodySF (plainFor_of_name own_pn2) hisR ?_
  intro p e s m args below meth c s₁ Bd hml0 hP hK
  obtain ⟨rfl, hZ, hh⟩ := hP
  have hx := Bd.exec
  have hlk := Bd.notSynchronized
  have hret := Bd.returns
  have hby := Bd.bytes
  have hml : c.maxLocals = 5 := hml0
  have hown : s.vm.findClass own_s5 = some m.cls := findClass_of_methodNamed Bd.named
  have hnm := (name_of_methodNamed Bd.named Bd.method).1
  have X0 : Stand p l e ({ frames := 2, cells := 0, slots := 0, locals := 28 } : Room) s m #[(.ref b2x4_14c5015), (.ref b5009)] below meth c s₁ [] 0 0 := Stand.of_body Bd
  have e0 : s₁.heap = h0 := by rw [← hh, Bd.state]; rfl
  have N0 := Fr.nil n0
  refine own_open (Q := own_Q10_125 Z b2x4_14c5015 b5009 b2x5_18c4c5015 k2x5_18c4c5015c2c5044c2c5104 b5001 b5005 j14 j18 j12 j16 jp1 jp4 h0 n0) (own_ef10 m b2x4_14c5015 b5009) ?_
  refine own_st (fun t k => XS.iconst X0.here hx rfl (hb hby own_d10_0) k) ?_
  refine own_st (fun t k => XS.istoreN X0.here hx rfl (hb hby own_d10_1) rfl (l' := #[.val (.ref b2x4_14c5015), .val (.ref b5009), .val (.int (0 : Int32)), .unset, .unset]) rfl k) ?_
  refine own_st (fun t k => XS.aloadN X0.here hx rfl (hb hby own_d10_2) rfl rfl k) ?_
  show own_Go _ _ _ _ s₁ (mkF m 3 #[.val (.ref b2x4_14c5015), .val (.ref b5009), .val (.int (0 : Int32)), .unset, .unset] [(.ref b2x4_14c5015)])
  obtain ⟨T1, X1, e1, st1⟩ := getF X0 hx hZ hown (host := "") (Or.inl (own_w hw 77 rfl)) (Via.of (own_w hw 78 rfl)) e0 P0 (g := (mkF m 3 #[.val (.ref b2x4_14c5015), .val (.ref b5009), .val (.int (0 : Int32)), .unset, .unset] [(.ref b2x4_14c5015)])) rfl rfl (hb hby own_d10_3)
  refine own_st st1 ?_
  refine own_st (fun t k => XS.istoreN X1.here hx rfl (hb hby own_d10_6) rfl (l' := #[.val (.ref b2x4_14c5015), .val (.ref b5009), .val (.int (0 : Int32)), .val (.int (((0 : Int32) + (1 : Int32)) + (1 : Int32))), .unset]) rfl k) ?_
  refine own_st (fun t k => XS.iloadN X1.here hx rfl (hb hby own_d10_7) rfl k) ?_
  refine own_st (fun t k => XS.iloadN X1.here hx rfl (hb hby own_d10_8) rfl k) ?_
  show own_Go _ _ _ _ T1 (mkF m 9 #[.val (.ref b2x4_14c5015), .val (.ref b5009), .val (.int (0 : Int32)), .val (.int (((0 : Int32) + (1 : Int32)) + (1 : Int32))), .unset] [(.int (((0 : Int32) + (1 : Int32)) + (1 : Int32))), (.int (0 : Int32))])
  refine own_st (fun t k => XS.icmpNo X1.here hx rfl (hb hby own_d10_9) rfl (tlt (by decide : (0 : Int32) < (((0 : Int32) + (1 : Int32)) + (1 : Int32)))).2.1 k) ?_
  refine own_st (fun t k => XS.iloadN X1.here hx rfl (hb hby own_d10_12) rfl k) ?_
  refine own_st (fun t k => XS.iloadN X1.here hx rfl (hb hby own_d10_13) rfl k) ?_
  refine own_st (fun t k => XS.iadd X1.here hx rfl (hb hby own_d10_14) rfl k) ?_
  show own_Go _ _ _ _ T1 (mkF m 15 #[.val (.ref b2x4_14c5015), .val (.ref b5009), .val (.int (0 : Int32)), .val (.int (((0 : Int32) + (1 : Int32)) + (1 : Int32))), .unset] [(.int ((0 : Int32) + (((0 : Int32) + (1 : Int32)) + (1 : Int32))))])
  refine own_st (fun t k => XS.iconst X1.here hx rfl (hb hby own_d10_15) k) ?_
  show own_Go _ _ _ _ T1 (mkF m 16 #[.val (.ref b2x4_14c5015), .val (.ref b5009), .val (.int (0 : Int32)), .val (.int (((0 : Int32) + (1 : Int32)) + (1 : Int32))), .unset] [(.int (1 : Int32)), (.int ((0 : Int32) + (((0 : Int32) + (1 : Int32)) + (1 : Int32))))])
  refine own_st (fun t k => XS.iushr X1.here hx rfl (hb hby own_d10_16) rfl k) ?_
  refine own_st (fun t k => XS.istore X1.here hx rfl (hb hby own_d10_17) rfl (l' := #[.val (.ref b2x4_14c5015), .val (.ref b5009), .val (.int (0 : Int32)), .val (.int (((0 : Int32) + (1 : Int32)) + (1 : Int32))), .val (.int ((((0 : Int32) + (((0 : Int32) + (1 : Int32)) + (1 : Int32))).toUInt32 >>> ((1 : Int32) &&& 31).toUInt32).toInt32))]) rfl k) ?_
  refine own_st (fun t k => XS.aloadN X1.here hx rfl (hb hby own_d10_19) rfl rfl k) ?_
  show own_Go _ _ _ _ T1 (mkF m 20 #[.val (.ref b2x4_14c5015), .val (.ref b5009), .val (.int (0 : Int32)), .val (.int (((0 : Int32) + (1 : Int32)) + (1 : Int32))), .val (.int ((((0 : Int32) + (((0 : Int32) + (1 : Int32)) + (1 : Int32))).toUInt32 >>> ((1 : Int32) &&& 31).toUInt32).toInt32))] [(.ref b2x4_14c5015)])
  obtain ⟨T2, X2, e2, st2⟩ := getF X1 hx hZ hown (host := "") (Or.inl (own_w hw 52 rfl)) Via.refl e1 P1 (g := (mkF m 20 #[.val (.ref b2x4_14c5015), .val (.ref b5009), .val (.int (0 : Int32)), .val (.int (((0 : Int32) + (1 : Int32)) + (1 : Int32))), .val (.int ((((0 : Int32) + (((0 : Int32) + (1 : Int32)) + (1 : Int32))).toUInt32 >>> ((1 : Int32) &&& 31).toUInt32).toInt32))] [(.ref b2x4_14c5015)])) rfl rfl (hb hby own_d10_20)
  refine own_st st2 ?_
  refine own_st (fun t k => XS.iload X2.here hx rfl (hb hby own_d10_23) rfl k) ?_
  show own_Go _ _ _ _ T2 (mkF m 25 #[.val (.ref b2x4_14c5015), .val (.ref b5009), .val (.int (0 : Int32)), .val (.int (((0 : Int32) + (1 : Int32)) + (1 : Int32))), .val (.int ((((0 : Int32) + (((0 : Int32) + (1 : Int32)) + (1 : Int32))).toUInt32 >>> ((1 : Int32) &&& 31).toUInt32).toInt32))] [(.int ((((0 : Int32) + (((0 : Int32) + (1 : Int32)) + (1 : Int32))).toUInt32 >>> ((1 : Int32) &&& 31).toUInt32).toInt32)), (.ref b2x5_18c4c5015)])
  refine own_st (own_aaload X2 hx hZ e2 P2 rfl (j := ((((0 : Int32) + (((0 : Int32) + (1 : Int32)) + (1 : Int32))).toUInt32 >>> ((1 : Int32) &&& 31).toUInt32).toInt32)) (v := (.ref b5005)) ⟨by decide, by decide⟩ rfl (g := (mkF m 25 #[.val (.ref b2x4_14c5015), .val (.ref b5009), .val (.int (0 : Int32)), .val (.int (((0 : Int32) + (1 : Int32)) + (1 : Int32))), .val (.int ((((0 : Int32) + (((0 : Int32) + (1 : Int32)) + (1 : Int32))).toUInt32 >>> ((1 : Int32) &&& 31).toUInt32).toInt32))] [(.int ((((0 : Int32) + (((0 : Int32) + (1 : Int32)) + (1 : Int32))).toUInt32 >>> ((1 : Int32) &&& 31).toUInt32).toInt32)), (.ref b2x5_18c4c5015)])) rfl rfl (hb hby own_d10_25)) ?_
  refine own_st (fun t k => XS.aloadN X2.here hx rfl (hb hby own_d10_26) rfl rfl k) ?_
  show own_Go _ _ _ _ T2 (mkF m 27 #[.val (.ref b2x4_14c5015), .val (.ref b5009), .val (.int (0 : Int32)), .val (.int (((0 : Int32) + (1 : Int32)) + (1 : Int32))), .val (.int ((((0 : Int32) + (((0 : Int32) + (1 : Int32)) + (1 : Int32))).toUInt32 >>> ((1 : Int32) &&& 31).toUInt32).toInt32))] [(.ref b5009), (.ref b5005)])
  obtain ⟨cq3, kq3, q3a, q3b, q3c⟩ := isOf hZ e2 P5
  obtain ⟨_, _, ⟨T3, L3, k3, n3⟩, -, X3, ⟨Lc3, hQ3, l3, y3, z3⟩, st3⟩ := X2.virtualBack hx (y := own_y5) (z := own_y5) hown (mvT hZ (own_w hw 123 rfl)) (mvT hZ (own_w hw 124 rfl)) (notFace_of_selects (args := #[]) (mvT hZ (own_w hw 126 rfl))) (mvT hZ (own_w hw 126 rfl)) (mvT hZ (own_w hw 125 rfl)) (by decide) (backOf (W := 1) (own_rm17 l Z a0 hw [] b5009 j14 h0 n0 Z0 P4) hZ (own_w hw 127 rfl) (own_w hw 5 rfl) (by decide) (by decide)) q3a q3c (g := (mkF m 27 #[.val (.ref b2x4_14c5015), .val (.ref b5009), .val (.int (0 : Int32)), .val (.int (((0 : Int32) + (1 : Int32)) + (1 : Int32))), .val (.int ((((0 : Int32) + (((0 : Int32) + (1 : Int32)) + (1 : Int32))).toUInt32 >>> ((1 : Int32) &&& 31).toUInt32).toInt32))] [(.ref b5009), (.ref b5005)])) rfl (by rw [hml]; rfl) (Steps.refl _) (argsL := []) (rest := [(.ref b5005)]) (lenOf own_pd13 rfl) rfl (by show 2 * 0 + _ ≤ _; exact Nat.le_of_eq rfl) (hb hby own_d10_27) (fun _ _ => ⟨rfl, e2, (by decide : 0 + 0 ≤ _), (by decide : 0 + 0 ≤ _)⟩)
  dsimp only [Pt.U, Pt.locs, Pt.cells, Pt.slots] at X3 l3 y3 z3 st3 hQ3
  subst l3 y3 z3
  obtain ⟨N3q, e3, hL3⟩ := hQ3
  have N3 := Fr.app N0 N3q
  rcases hL3 with ⟨rfl, -⟩
  · skip
    refine own_st (fun t k => st3.trans k) ?_
    refine own_st (fun t k => XS.aloadN X3.here hx rfl (hb hby own_d10_30) rfl rfl k) ?_
    show own_Go _ _ _ _ T3 (mkF m 31 #[.val (.ref b2x4_14c5015), .val (.ref b5009), .val (.int (0 : Int32)), .val (.int (((0 : Int32) + (1 : Int32)) + (1 : Int32))), .val (.int ((((0 : Int32) + (((0 : Int32) + (1 : Int32)) + (1 : Int32))).toUInt32 >>> ((1 : Int32) &&& 31).toUInt32).toInt32))] [(.ref b5009), (.long j14), (.ref b5005)])
    obtain ⟨cq4, kq4, q4a, q4b, q4c⟩ := isOf hZ e3 P5
    obtain ⟨_, _, ⟨T4, L4, k4, n4⟩, -, X4, ⟨Lc4, hQ4, l4, y4, z4⟩, st4⟩ := X3.virtualBack hx (y := own_y10) (z := own_y10) hown (mvT hZ (own_w hw 128 rfl)) (mvT hZ (own_w hw 129 rfl)) (notFace_of_selects (args := #[]) (mvT hZ (own_w hw 131 rfl))) (mvT hZ (own_w hw 131 rfl)) (mvT hZ (own_w hw 130 rfl)) (by decide) (backOf (W := 3) (own_rm18 l Z a0 hw [] b5009 j18 h0 n0 Z0 P6) hZ (own_w hw 132 rfl) (own_w hw 5 rfl) (by decide) (by decide)) q4a q4c (g := (mkF m 31 #[.val (.ref b2x4_14c5015), .val (.ref b5009), .val (.int (0 : Int32)), .val (.int (((0 : Int32) + (1 : Int32)) + (1 : Int32))), .val (.int ((((0 : Int32) + (((0 : Int32) + (1 : Int32)) + (1 : Int32))).toUInt32 >>> ((1 : Int32) &&& 31).toUInt32).toInt32))] [(.ref b5009), (.long j14), (.ref b5005)])) rfl (by rw [hml]; rfl) (Steps.refl _) (argsL := []) (rest := [(.long j14), (.ref b5005)]) (lenOf own_pd13 rfl) rfl (by show 2 * 0 + _ ≤ _; exact Nat.le_of_eq rfl) (hb hby own_d10_31) (fun _ _ => ⟨rfl, e3, (by decide : 0 + 0 ≤ _), (by decide : 0 + 0 ≤ _)⟩)
    dsimp only [Pt.U, Pt.locs, Pt.cells, Pt.slots] at X4 l4 y4 z4 st4 hQ4
    subst l4 y4 z4
    obtain ⟨N4q, e4, hL4⟩ := hQ4
    have N4 := Fr.app N3 N4q
    rcases hL4 with ⟨rfl, -⟩
    · skip
      refine own_st (fun t k => st4.trans k) ?_
      show own_Go _ _ _ _ T4 (mkF m 34 #[.val (.ref b2x4_14c5015), .val (.ref b5009), .val (.int (0 : Int32)), .val (.int (((0 : Int32) + (1 : Int32)) + (1 : Int32))), .val (.int ((((0 : Int32) + (((0 : Int32) + (1 : Int32)) + (1 : Int32))).toUInt32 >>> ((1 : Int32) &&& 31).toUInt32).toInt32))] [(.long j18), (.long j14), (.ref b5005)])
      obtain ⟨_, _, ⟨T5, L5, k5, n5⟩, -, X5, ⟨Lc5, hQ5, l5, y5, z5⟩, st5⟩ := own_callSN X4 hx (y := own_y9) hown (own_mvLN hZ (own_w hw 133 rfl)) (mvT hZ (own_w hw 134 rfl)) (mvT hZ (own_w hw 28 rfl)) (mvT hZ (own_w hw 135 rfl)) (by decide) (backOf (W := 0) (own_rm19 l Z a0 hw [] b5005 j14 j18 j12 j16 h0 n0 Z0 P7 P9 P8) hZ (own_w hw 135 rfl) (own_w hw 28 rfl) (by decide) (by decide)) (g := (mkF m 34 #[.val (.ref b2x4_14c5015), .val (.ref b5009), .val (.int (0 : Int32)), .val (.int (((0 : Int32) + (1 : Int32)) + (1 : Int32))), .val (.int ((((0 : Int32) + (((0 : Int32) + (1 : Int32)) + (1 : Int32))).toUInt32 >>> ((1 : Int32) &&& 31).toUInt32).toInt32))] [(.long j18), (.long j14), (.ref b5005)])) rfl (by rw [hml]; rfl) (argsL := [(.ref b5005), (.long j14), (.long j18)]) (rest := []) (lenOf own_pd14 rfl) rfl (by show 2 * 0 + _ ≤ _; exact Nat.le_of_eq rfl) (hb hby own_d10_34) (fun _ _ => ⟨rfl, e4, (by decide : 0 + 0 ≤ _), (by decide : 0 + 0 ≤ _)⟩)
      dsimp only [Pt.U, Pt.locs, Pt.cells, Pt.slots] at X5 l5 y5 z5 st5 hQ5
      subst l5 y5 z5
      obtain ⟨N5q, e5, hL5⟩ := hQ5
      have N5 := Fr.app N4 N5q
      rcases hL5 with ⟨rfl, hq5_0_0, -⟩ | ⟨rfl, hq5_1_0, -⟩
      · skip
        refine own_st st5 ?_
        show own_Go _ _ _ _ T5 (mkF m 37 #[.val (.ref b2x4_14c5015), .val (.ref b5009), .val (.int (0 : Int32)), .val (.int (((0 : Int32) + (1 : Int32)) + (1 : Int32))), .val (.int ((((0 : Int32) + (((0 : Int32) + (1 : Int32)) + (1 : Int32))).toUInt32 >>> ((1 : Int32) &&& 31).toUInt32).toInt32))] [(.int (1 : Int32))])
        refine own_st (fun t k => XS.ifNo X5.here hx rfl (hb hby own_d10_37) rfl ((if0 _ _).trans (feq (by decide : ¬ ((1 : Int32) = (0 : Int32)))).1) k) ?_
        refine own_st (fun t k => XS.iload X5.here hx rfl (hb hby own_d10_40) rfl k) ?_
        refine own_st (fun t k => XS.iconst X5.here hx rfl (hb hby own_d10_42) k) ?_
        refine own_st (fun t k => XS.iadd X5.here hx rfl (hb hby own_d10_43) rfl k) ?_
        show own_Go _ _ _ _ T5 (mkF m 44 #[.val (.ref b2x4_14c5015), .val (.ref b5009), .val (.int (0 : Int32)), .val (.int (((0 : Int32) + (1 : Int32)) + (1 : Int32))), .val (.int ((((0 : Int32) + (((0 : Int32) + (1 : Int32)) + (1 : Int32))).toUInt32 >>> ((1 : Int32) &&& 31).toUInt32).toInt32))] [(.int (((((0 : Int32) + (((0 : Int32) + (1 : Int32)) + (1 : Int32))).toUInt32 >>> ((1 : Int32) &&& 31).toUInt32).toInt32) + (1 : Int32)))])
        refine own_st (fun t k => XS.istoreN X5.here hx rfl (hb hby own_d10_44) rfl (l' := #[.val (.ref b2x4_14c5015), .val (.ref b5009), .val (.int (((((0 : Int32) + (((0 : Int32) + (1 : Int32)) + (1 : Int32))).toUInt32 >>> ((1 : Int32) &&& 31).toUInt32).toInt32) + (1 : Int32))), .val (.int (((0 : Int32) + (1 : Int32)) + (1 : Int32))), .val (.int ((((0 : Int32) + (((0 : Int32) + (1 : Int32)) + (1 : Int32))).toUInt32 >>> ((1 : Int32) &&& 31).toUInt32).toInt32))]) rfl k) ?_
        refine own_st (fun t k => XS.goto X5.here hx rfl (pc0 := 45) (pc' := 51) rfl (hb hby own_d10_45) (by decide) (by decide) k) ?_
        refine own_st (fun t k => XS.goto X5.here hx rfl (pc0 := 51) (pc' := 7) rfl (hb hby own_d10_51) (by decide) (by decide) k) ?_
        refine own_st (fun t k => XS.iloadN X5.here hx rfl (hb hby own_d10_7) rfl k) ?_
        show own_Go _ _ _ _ T5 (mkF m 8 #[.val (.ref b2x4_14c5015), .val (.ref b5009), .val (.int (((((0 : Int32) + (((0 : Int32) + (1 : Int32)) + (1 : Int32))).toUInt32 >>> ((1 : Int32) &&& 31).toUInt32).toInt32) + (1 : Int32))), .val (.int (((0 : Int32) + (1 : Int32)) + (1 : Int32))), .val (.int ((((0 : Int32) + (((0 : Int32) + (1 : Int32)) + (1 : Int32))).toUInt32 >>> ((1 : Int32) &&& 31).toUInt32).toInt32))] [(.int (((((0 : Int32) + (((0 : Int32) + (1 : Int32)) + (1 : Int32))).toUInt32 >>> ((1 : Int32) &&& 31).toUInt32).toInt32) + (1 : Int32)))])
        refine own_st (fun t k => XS.iloadN X5.here hx rfl (hb hby own_d10_8) rfl k) ?_
        show own_Go _ _ _ _ T5 (mkF m 9 #[.val (.ref b2x4_14c5015), .val (.ref b5009), .val (.int (((((0 : Int32) + (((0 : Int32) + (1 : Int32)) + (1 : Int32))).toUInt32 >>> ((1 : Int32) &&& 31).toUInt32).toInt32) + (1 : Int32))), .val (.int (((0 : Int32) + (1 : Int32)) + (1 : Int32))), .val (.int ((((0 : Int32) + (((0 : Int32) + (1 : Int32)) + (1 : Int32))).toUInt32 >>> ((1 : Int32) &&& 31).toUInt32).toInt32))] [(.int (((0 : Int32) + (1 : Int32)) + (1 : Int32))), (.int (((((0 : Int32) + (((0 : Int32) + (1 : Int32)) + (1 : Int32))).toUInt32 >>> ((1 : Int32) &&& 31).toUInt32).toInt32) + (1 : Int32)))])
        refine own_st (fun t k => XS.icmpYes X5.here hx rfl (pc0 := 9) (pc' := 54) rfl (hb hby own_d10_9) rfl (flt (by decide : ¬ ((((((0 : Int32) + (((0 : Int32) + (1 : Int32)) + (1 : Int32))).toUInt32 >>> ((1 : Int32) &&& 31).toUInt32).toInt32) + (1 : Int32)) < (((0 : Int32) + (1 : Int32)) + (1 : Int32))))).2.1 (by decide) (by decide) k) ?_
        refine own_st (fun t k => XS.iloadN X5.here hx rfl (hb hby own_d10_54) rfl k) ?_
        show own_Go _ _ _ _ T5 (mkF m 55 #[.val (.ref b2x4_14c5015), .val (.ref b5009), .val (.int (((((0 : Int32) + (((0 : Int32) + (1 : Int32)) + (1 : Int32))).toUInt32 >>> ((1 : Int32) &&& 31).toUInt32).toInt32) + (1 : Int32))), .val (.int (((0 : Int32) + (1 : Int32)) + (1 : Int32))), .val (.int ((((0 : Int32) + (((0 : Int32) + (1 : Int32)) + (1 : Int32))).toUInt32 >>> ((1 : Int32) &&& 31).toUInt32).toInt32))] [(.int (((((0 : Int32) + (((0 : Int32) + (1 : Int32)) + (1 : Int32))).toUInt32 >>> ((1 : Int32) &&& 31).toUInt32).toInt32) + (1 : Int32)))])
        exact own_retI X5 hx hlk hret (hb hby own_d10_55) (by decide) (by decide) e5 ⟨N5, (Keep.refl h0 []), (Or.inl ⟨rfl, hq5_0_0, trivial⟩)⟩
      · skip
        refine own_st st5 ?_
        show own_Go _ _ _ _ T5 (mkF m 37 #[.val (.ref b2x4_14c5015), .val (.ref b5009), .val (.int (0 : Int32)), .val (.int (((0 : Int32) + (1 : Int32)) + (1 : Int32))), .val (.int ((((0 : Int32) + (((0 : Int32) + (1 : Int32)) + (1 : Int32))).toUInt32 >>> ((1 : Int32) &&& 31).toUInt32).toInt32))] [(.int (0 : Int32))])
        refine own_st (fun t k => XS.ifYes X5.here hx rfl (pc0 := 37) (pc' := 48) rfl (hb hby own_d10_37) rfl ((if0 _ _).trans (teq (by decide : (0 : Int32) = (0 : Int32))).1) (by decide) (by decide) k) ?_
        refine own_st (fun t k => XS.iload X5.here hx rfl (hb hby own_d10_48) rfl k) ?_
        refine own_st (fun t k => XS.istoreN X5.here hx rfl (hb hby own_d10_50) rfl (l' := #[.val (.ref b2x4_14c5015), .val (.ref b5009), .val (.int (0 : Int32)), .val (.int ((((0 : Int32) + (((0 : Int32) + (1 : Int32)) + (1 : Int32))).toUInt32 >>> ((1 : Int32) &&& 31).toUInt32).toInt32)), .val (.int ((((0 : Int32) + (((0 : Int32) + (1 : Int32)) + (1 : Int32))).toUInt32 >>> ((1 : Int32) &&& 31).toUInt32).toInt32))]) rfl k) ?_
        refine own_st (fun t k => XS.goto X5.here hx rfl (pc0 := 51) (pc' := 7) rfl (hb hby own_d10_51) (by decide) (by decide) k) ?_
        show own_Go _ _ _ _ T5 (mkF m 7 #[.val (.ref b2x4_14c5015), .val (.ref b5009), .val (.int (0 : Int32)), .val (.int ((((0 : Int32) + (((0 : Int32) + (1 : Int32)) + (1 : Int32))).toUInt32 >>> ((1 : Int32) &&& 31).toUInt32).toInt32)), .val (.int ((((0 : Int32) + (((0 : Int32) + (1 : Int32)) + (1 : Int32))).toUInt32 >>> ((1 : Int32) &&& 31).toUInt32).toInt32))] [])
        refine own_st (fun t k => XS.iloadN X5.here hx rfl (hb hby own_d10_7) rfl k) ?_
        refine own_st (fun t k => XS.iloadN X5.here hx rfl (hb hby own_d10_8) rfl k) ?_
        show own_Go _ _ _ _ T5 (mkF m 9 #[.val (.ref b2x4_14c5015), .val (.ref b5009), .val (.int (0 : Int32)), .val (.int ((((0 : Int32) + (((0 : Int32) + (1 : Int32)) + (1 : Int32))).toUInt32 >>> ((1 : Int32) &&& 31).toUInt32).toInt32)), .val (.int ((((0 : Int32) + (((0 : Int32) + (1 : Int32)) + (1 : Int32))).toUInt32 >>> ((1 : Int32) &&& 31).toUInt32).toInt32))] [(.int ((((0 : Int32) + (((0 : Int32) + (1 : Int32)) + (1 : Int32))).toUInt32 >>> ((1 : Int32) &&& 31).toUInt32).toInt32)), (.int (0 : Int32))])
        refine own_st (fun t k => XS.icmpNo X5.here hx rfl (hb hby own_d10_9) rfl (tlt (by decide : (0 : Int32) < ((((0 : Int32) + (((0 : Int32) + (1 : Int32)) + (1 : Int32))).toUInt32 >>> ((1 : Int32) &&& 31).toUInt32).toInt32))).2.1 k) ?_
        refine own_st (fun t k => XS.iloadN X5.here hx rfl (hb hby own_d10_12) rfl k) ?_
        show own_Go _ _ _ _ T5 (mkF m 13 #[.val (.ref b2x4_14c5015), .val (.ref b5009), .val (.int (0 : Int32)), .val (.int ((((0 : Int32) + (((0 : Int32) + (1 : Int32)) + (1 : Int32))).toUInt32 >>> ((1 : Int32) &&& 31).toUInt32).toInt32)), .val (.int ((((0 : Int32) + (((0 : Int32) + (1 : Int32)) + (1 : Int32))).toUInt32 >>> ((1 : Int32) &&& 31).toUInt32).toInt32))] [(.int (0 : Int32))])
        refine own_st (fun t k => XS.iloadN X5.here hx rfl (hb hby own_d10_13) rfl k) ?_
        refine own_st (fun t k => XS.iadd X5.here hx rfl (hb hby own_d10_14) rfl k) ?_
        refine own_st (fun t k => XS.iconst X5.here hx rfl (hb hby own_d10_15) k) ?_
        show own_Go _ _ _ _ T5 (mkF m 16 #[.val (.ref b2x4_14c5015), .val (.ref b5009), .val (.int (0 : Int32)), .val (.int ((((0 : Int32) + (((0 : Int32) + (1 : Int32)) + (1 : Int32))).toUInt32 >>> ((1 : Int32) &&& 31).toUInt32).toInt32)), .val (.int ((((0 : Int32) + (((0 : Int32) + (1 : Int32)) + (1 : Int32))).toUInt32 >>> ((1 : Int32) &&& 31).toUInt32).toInt32))] [(.int (1 : Int32)), (.int ((0 : Int32) + ((((0 : Int32) + (((0 : Int32) + (1 : Int32)) + (1 : Int32))).toUInt32 >>> ((1 : Int32) &&& 31).toUInt32).toInt32)))])
        refine own_st (fun t k => XS.iushr X5.here hx rfl (hb hby own_d10_16) rfl k) ?_
        show own_Go _ _ _ _ T5 (mkF m 17 #[.val (.ref b2x4_14c5015), .val (.ref b5009), .val (.int (0 : Int32)), .val (.int ((((0 : Int32) + (((0 : Int32) + (1 : Int32)) + (1 : Int32))).toUInt32 >>> ((1 : Int32) &&& 31).toUInt32).toInt32)), .val (.int ((((0 : Int32) + (((0 : Int32) + (1 : Int32)) + (1 : Int32))).toUInt32 >>> ((1 : Int32) &&& 31).toUInt32).toInt32))] [(.int ((((0 : Int32) + ((((0 : Int32) + (((0 : Int32) + (1 : Int32)) + (1 : Int32))).toUInt32 >>> ((1 : Int32) &&& 31).toUInt32).toInt32)).toUInt32 >>> ((1 : Int32) &&& 31).toUInt32).toInt32))])
        refine own_st (fun t k => XS.istore X5.here hx rfl (hb hby own_d10_17) rfl (l' := #[.val (.ref b2x4_14c5015), .val (.ref b5009), .val (.int (0 : Int32)), .val (.int ((((0 : Int32) + (((0 : Int32) + (1 : Int32)) + (1 : Int32))).toUInt32 >>> ((1 : Int32) &&& 31).toUInt32).toInt32)), .val (.int ((((0 : Int32) + ((((0 : Int32) + (((0 : Int32) + (1 : Int32)) + (1 : Int32))).toUInt32 >>> ((1 : Int32) &&& 31).toUInt32).toInt32)).toUInt32 >>> ((1 : Int32) &&& 31).toUInt32).toInt32))]) rfl k) ?_
        refine own_st (fun t k => XS.aloadN X5.here hx rfl (hb hby own_d10_19) rfl rfl k) ?_
        show own_Go _ _ _ _ T5 (mkF m 20 #[.val (.ref b2x4_14c5015), .val (.ref b5009), .val (.int (0 : Int32)), .val (.int ((((0 : Int32) + (((0 : Int32) + (1 : Int32)) + (1 : Int32))).toUInt32 >>> ((1 : Int32) &&& 31).toUInt32).toInt32)), .val (.int ((((0 : Int32) + ((((0 : Int32) + (((0 : Int32) + (1 : Int32)) + (1 : Int32))).toUInt32 >>> ((1 : Int32) &&& 31).toUInt32).toInt32)).toUInt32 >>> ((1 : Int32) &&& 31).toUInt32).toInt32))] [(.ref b2x4_14c5015)])
        obtain ⟨T6, X6, e6, st6⟩ := getF X5 hx hZ hown (host := "") (Or.inl (own_w hw 52 rfl)) Via.refl e5 P1 (g := (mkF m 20 #[.val (.ref b2x4_14c5015), .val (.ref b5009), .val (.int (0 : Int32)), .val (.int ((((0 : Int32) + (((0 : Int32) + (1 : Int32)) + (1 : Int32))).toUInt32 >>> ((1 : Int32) &&& 31).toUInt32).toInt32)), .val (.int ((((0 : Int32) + ((((0 : Int32) + (((0 : Int32) + (1 : Int32)) + (1 : Int32))).toUInt32 >>> ((1 : Int32) &&& 31).toUInt32).toInt32)).toUInt32 >>> ((1 : Int32) &&& 31).toUInt32).toInt32))] [(.ref b2x4_14c5015)])) rfl rfl (hb hby own_d10_20)
        refine own_st st6 ?_
        refine own_st (fun t k => XS.iload X6.here hx rfl (hb hby own_d10_23) rfl k) ?_
        show own_Go _ _ _ _ T6 (mkF m 25 #[.val (.ref b2x4_14c5015), .val (.ref b5009), .val (.int (0 : Int32)), .val (.int ((((0 : Int32) + (((0 : Int32) + (1 : Int32)) + (1 : Int32))).toUInt32 >>> ((1 : Int32) &&& 31).toUInt32).toInt32)), .val (.int ((((0 : Int32) + ((((0 : Int32) + (((0 : Int32) + (1 : Int32)) + (1 : Int32))).toUInt32 >>> ((1 : Int32) &&& 31).toUInt32).toInt32)).toUInt32 >>> ((1 : Int32) &&& 31).toUInt32).toInt32))] [(.int ((((0 : Int32) + ((((0 : Int32) + (((0 : Int32) + (1 : Int32)) + (1 : Int32))).toUInt32 >>> ((1 : Int32) &&& 31).toUInt32).toInt32)).toUInt32 >>> ((1 : Int32) &&& 31).toUInt32).toInt32)), (.ref b2x5_18c4c5015)])
        refine own_st (own_aaload X6 hx hZ e6 P2 rfl (j := ((((0 : Int32) + ((((0 : Int32) + (((0 : Int32) + (1 : Int32)) + (1 : Int32))).toUInt32 >>> ((1 : Int32) &&& 31).toUInt32).toInt32)).toUInt32 >>> ((1 : Int32) &&& 31).toUInt32).toInt32)) (v := (.ref b5001)) ⟨by decide, by decide⟩ rfl (g := (mkF m 25 #[.val (.ref b2x4_14c5015), .val (.ref b5009), .val (.int (0 : Int32)), .val (.int ((((0 : Int32) + (((0 : Int32) + (1 : Int32)) + (1 : Int32))).toUInt32 >>> ((1 : Int32) &&& 31).toUInt32).toInt32)), .val (.int ((((0 : Int32) + ((((0 : Int32) + (((0 : Int32) + (1 : Int32)) + (1 : Int32))).toUInt32 >>> ((1 : Int32) &&& 31).toUInt32).toInt32)).toUInt32 >>> ((1 : Int32) &&& 31).toUInt32).toInt32))] [(.int ((((0 : Int32) + ((((0 : Int32) + (((0 : Int32) + (1 : Int32)) + (1 : Int32))).toUInt32 >>> ((1 : Int32) &&& 31).toUInt32).toInt32)).toUInt32 >>> ((1 : Int32) &&& 31).toUInt32).toInt32)), (.ref b2x5_18c4c5015)])) rfl rfl (hb hby own_d10_25)) ?_
        refine own_st (fun t k => XS.aloadN X6.here hx rfl (hb hby own_d10_26) rfl rfl k) ?_
        show own_Go _ _ _ _ T6 (mkF m 27 #[.val (.ref b2x4_14c5015), .val (.ref b5009), .val (.int (0 : Int32)), .val (.int ((((0 : Int32) + (((0 : Int32) + (1 : Int32)) + (1 : Int32))).toUInt32 >>> ((1 : Int32) &&& 31).toUInt32).toInt32)), .val (.int ((((0 : Int32) + ((((0 : Int32) + (((0 : Int32) + (1 : Int32)) + (1 : Int32))).toUInt32 >>> ((1 : Int32) &&& 31).toUInt32).toInt32)).toUInt32 >>> ((1 : Int32) &&& 31).toUInt32).toInt32))] [(.ref b5009), (.ref b5001)])
        obtain ⟨cq7, kq7, q7a, q7b, q7c⟩ := isOf hZ e6 P5
        obtain ⟨_, _, ⟨T7, L7, k7, n7⟩, -, X7, ⟨Lc7, hQ7, l7, y7, z7⟩, st7⟩ := X6.virtualBack hx (y := own_y5) (z := own_y5) hown (mvT hZ (own_w hw 123 rfl)) (mvT hZ (own_w hw 124 rfl)) (notFace_of_selects (args := #[]) (mvT hZ (own_w hw 126 rfl))) (mvT hZ (own_w hw 126 rfl)) (mvT hZ (own_w hw 125 rfl)) (by decide) (backOf (W := 1) (own_rm17 l Z a0 hw [] b5009 j14 h0 n0 Z0 P4) hZ (own_w hw 127 rfl) (own_w hw 5 rfl) (by decide) (by decide)) q7a q7c (g := (mkF m 27 #[.val (.ref b2x4_14c5015), .val (.ref b5009), .val (.int (0 : Int32)), .val (.int ((((0 : Int32) + (((0 : Int32) + (1 : Int32)) + (1 : Int32))).toUInt32 >>> ((1 : Int32) &&& 31).toUInt32).toInt32)), .val (.int ((((0 : Int32) + ((((0 : Int32) + (((0 : Int32) + (1 : Int32)) + (1 : Int32))).toUInt32 >>> ((1 : Int32) &&& 31).toUInt32).toInt32)).toUInt32 >>> ((1 : Int32) &&& 31).toUInt32).toInt32))] [(.ref b5009), (.ref b5001)])) rfl (by rw [hml]; rfl) (Steps.refl _) (argsL := []) (rest := [(.ref b5001)]) (lenOf own_pd13 rfl) rfl (by show 2 * 0 + _ ≤ _; exact Nat.le_of_eq rfl) (hb hby own_d10_27) (fun _ _ => ⟨rfl, e6, (by decide : 0 + 0 ≤ _), (by decide : 0 + 0 ≤ _)⟩)
        dsimp only [Pt.U, Pt.locs, Pt.cells, Pt.slots] at X7 l7 y7 z7 st7 hQ7
        subst l7 y7 z7
        obtain ⟨N7q, e7, hL7⟩ := hQ7
        have N7 := Fr.app N5 N7q
        rcases hL7 with ⟨rfl, -⟩
        · skip
          refine own_st (fun t k => st7.trans k) ?_
          refine own_st (fun t k => XS.aloadN X7.here hx rfl (hb hby own_d10_30) rfl rfl k) ?_
          show own_Go _ _ _ _ T7 (mkF m 31 #[.val (.ref b2x4_14c5015), .val (.ref b5009), .val (.int (0 : Int32)), .val (.int ((((0 : Int32) + (((0 : Int32) + (1 : Int32)) + (1 : Int32))).toUInt32 >>> ((1 : Int32) &&& 31).toUInt32).toInt32)), .val (.int ((((0 : Int32) + ((((0 : Int32) + (((0 : Int32) + (1 : Int32)) + (1 : Int32))).toUInt32 >>> ((1 : Int32) &&& 31).toUInt32).toInt32)).toUInt32 >>> ((1 : Int32) &&& 31).toUInt32).toInt32))] [(.ref b5009), (.long j14), (.ref b5001)])
          obtain ⟨cq8, kq8, q8a, q8b, q8c⟩ := isOf hZ e7 P5
          obtain ⟨_, _, ⟨T8, L8, k8, n8⟩, -, X8, ⟨Lc8, hQ8, l8, y8, z8⟩, st8⟩ := X7.virtualBack hx (y := own_y10) (z := own_y10) hown (mvT hZ (own_w hw 128 rfl)) (mvT hZ (own_w hw 129 rfl)) (notFace_of_selects (args := #[]) (mvT hZ (own_w hw 131 rfl))) (mvT hZ (own_w hw 131 rfl)) (mvT hZ (own_w hw 130 rfl)) (by decide) (backOf (W := 3) (own_rm18 l Z a0 hw [] b5009 j18 h0 n0 Z0 P6) hZ (own_w hw 132 rfl) (own_w hw 5 rfl) (by decide) (by decide)) q8a q8c (g := (mkF m 31 #[.val (.ref b2x4_14c5015), .val (.ref b5009), .val (.int (0 : Int32)), .val (.int ((((0 : Int32) + (((0 : Int32) + (1 : Int32)) + (1 : Int32))).toUInt32 >>> ((1 : Int32) &&& 31).toUInt32).toInt32)), .val (.int ((((0 : Int32) + ((((0 : Int32) + (((0 : Int32) + (1 : Int32)) + (1 : Int32))).toUInt32 >>> ((1 : Int32) &&& 31).toUInt32).toInt32)).toUInt32 >>> ((1 : Int32) &&& 31).toUInt32).toInt32))] [(.ref b5009), (.long j14), (.ref b5001)])) rfl (by rw [hml]; rfl) (Steps.refl _) (argsL := []) (rest := [(.long j14), (.ref b5001)]) (lenOf own_pd13 rfl) rfl (by show 2 * 0 + _ ≤ _; exact Nat.le_of_eq rfl) (hb hby own_d10_31) (fun _ _ => ⟨rfl, e7, (by decide : 0 + 0 ≤ _), (by decide : 0 + 0 ≤ _)⟩)
          dsimp only [Pt.U, Pt.locs, Pt.cells, Pt.slots] at X8 l8 y8 z8 st8 hQ8
          subst l8 y8 z8
          obtain ⟨N8q, e8, hL8⟩ := hQ8
          have N8 := Fr.app N7 N8q
          rcases hL8 with ⟨rfl, -⟩
          · skip
            refine own_st (fun t k => st8.trans k) ?_
            show own_Go _ _ _ _ T8 (mkF m 34 #[.val (.ref b2x4_14c5015), .val (.ref b5009), .val (.int (0 : Int32)), .val (.int ((((0 : Int32) + (((0 : Int32) + (1 : Int32)) + (1 : Int32))).toUInt32 >>> ((1 : Int32) &&& 31).toUInt32).toInt32)), .val (.int ((((0 : Int32) + ((((0 : Int32) + (((0 : Int32) + (1 : Int32)) + (1 : Int32))).toUInt32 >>> ((1 : Int32) &&& 31).toUInt32).toInt32)).toUInt32 >>> ((1 : Int32) &&& 31).toUInt32).toInt32))] [(.long j18), (.long j14), (.ref b5001)])
            obtain ⟨_, _, ⟨T9, L9, k9, n9⟩, -, X9, ⟨Lc9, hQ9, l9, y9, z9⟩, st9⟩ := own_callSN X8 hx (y := own_y9) hown (own_mvLN hZ (own_w hw 133 rfl)) (mvT hZ (own_w hw 134 rfl)) (mvT hZ (own_w hw 28 rfl)) (mvT hZ (own_w hw 135 rfl)) (by decide) (backOf (W := 0) (own_rm19 l Z a0 hw [] b5001 j14 j18 jp1 jp4 h0 n0 Z0 P10 P12 P11) hZ (own_w hw 135 rfl) (own_w hw 28 rfl) (by decide) (by decide)) (g := (mkF m 34 #[.val (.ref b2x4_14c5015), .val (.ref b5009), .val (.int (0 : Int32)), .val (.int ((((0 : Int32) + (((0 : Int32) + (1 : Int32)) + (1 : Int32))).toUInt32 >>> ((1 : Int32) &&& 31).toUInt32).toInt32)), .val (.int ((((0 : Int32) + ((((0 : Int32) + (((0 : Int32) + (1 : Int32)) + (1 : Int32))).toUInt32 >>> ((1 : Int32) &&& 31).toUInt32).toInt32)).toUInt32 >>> ((1 : Int32) &&& 31).toUInt32).toInt32))] [(.long j18), (.long j14), (.ref b5001)])) rfl (by rw [hml]; rfl) (argsL := [(.ref b5001), (.long j14), (.long j18)]) (rest := []) (lenOf own_pd14 rfl) rfl (by show 2 * 0 + _ ≤ _; exact Nat.le_of_eq rfl) (hb hby own_d10_34) (fun _ _ => ⟨rfl, e8, (by decide : 0 + 0 ≤ _), (by decide : 0 + 0 ≤ _)⟩)
            dsimp only [Pt.U, Pt.locs, Pt.cells, Pt.slots] at X9 l9 y9 z9 st9 hQ9
            subst l9 y9 z9
            obtain ⟨N9q, e9, hL9⟩ := hQ9
            have N9 := Fr.app N8 N9q
            rcases hL9 with ⟨rfl, hq9_0_0, -⟩ | ⟨rfl, hq9_1_0, -⟩
            · skip
              refine own_st st9 ?_
              show own_Go _ _ _ _ T9 (mkF m 37 #[.val (.ref b2x4_14c5015), .val (.ref b5009), .val (.int (0 : Int32)), .val (.int ((((0 : Int32) + (((0 : Int32) + (1 : Int32)) + (1 : Int32))).toUInt32 >>> ((1 : Int32) &&& 31).toUInt32).toInt32)), .val (.int ((((0 : Int32) + ((((0 : Int32) + (((0 : Int32) + (1 : Int32)) + (1 : Int32))).toUInt32 >>> ((1 : Int32) &&& 31).toUInt32).toInt32)).toUInt32 >>> ((1 : Int32) &&& 31).toUInt32).toInt32))] [(.int (1 : Int32))])
              refine own_st (fun t k => XS.ifNo X9.here hx rfl (hb hby own_d10_37) rfl ((if0 _ _).trans (feq (by decide : ¬ ((1 : Int32) = (0 : Int32)))).1) k) ?_
              refine own_st (fun t k => XS.iload X9.here hx rfl (hb hby own_d10_40) rfl k) ?_
              show own_Go _ _ _ _ T9 (mkF m 42 #[.val (.ref b2x4_14c5015), .val (.ref b5009), .val (.int (0 : Int32)), .val (.int ((((0 : Int32) + (((0 : Int32) + (1 : Int32)) + (1 : Int32))).toUInt32 >>> ((1 : Int32) &&& 31).toUInt32).toInt32)), .val (.int ((((0 : Int32) + ((((0 : Int32) + (((0 : Int32) + (1 : Int32)) + (1 : Int32))).toUInt32 >>> ((1 : Int32) &&& 31).toUInt32).toInt32)).toUInt32 >>> ((1 : Int32) &&& 31).toUInt32).toInt32))] [(.int ((((0 : Int32) + ((((0 : Int32) + (((0 : Int32) + (1 : Int32)) + (1 : Int32))).toUInt32 >>> ((1 : Int32) &&& 31).toUInt32).toInt32)).toUInt32 >>> ((1 : Int32) &&& 31).toUInt32).toInt32))])
              refine own_st (fun t k => XS.iconst X9.here hx rfl (hb hby own_d10_42) k) ?_
              refine own_st (fun t k => XS.iadd X9.here hx rfl (hb hby own_d10_43) rfl k) ?_
              refine own_st (fun t k => XS.istoreN X9.here hx rfl (hb hby own_d10_44) rfl (l' := #[.val (.ref b2x4_14c5015), .val (.ref b5009), .val (.int (((((0 : Int32) + ((((0 : Int32) + (((0 : Int32) + (1 : Int32)) + (1 : Int32))).toUInt32 >>> ((1 : Int32) &&& 31).toUInt32).toInt32)).toUInt32 >>> ((1 : Int32) &&& 31).toUInt32).toInt32) + (1 : Int32))), .val (.int ((((0 : Int32) + (((0 : Int32) + (1 : Int32)) + (1 : Int32))).toUInt32 >>> ((1 : Int32) &&& 31).toUInt32).toInt32)), .val (.int ((((0 : Int32) + ((((0 : Int32) + (((0 : Int32) + (1 : Int32)) + (1 : Int32))).toUInt32 >>> ((1 : Int32) &&& 31).toUInt32).toInt32)).toUInt32 >>> ((1 : Int32) &&& 31).toUInt32).toInt32))]) rfl k) ?_
              refine own_st (fun t k => XS.goto X9.here hx rfl (pc0 := 45) (pc' := 51) rfl (hb hby own_d10_45) (by decide) (by decide) k) ?_
              show own_Go _ _ _ _ T9 (mkF m 51 #[.val (.ref b2x4_14c5015), .val (.ref b5009), .val (.int (((((0 : Int32) + ((((0 : Int32) + (((0 : Int32) + (1 : Int32)) + (1 : Int32))).toUInt32 >>> ((1 : Int32) &&& 31).toUInt32).toInt32)).toUInt32 >>> ((1 : Int32) &&& 31).toUInt32).toInt32) + (1 : Int32))), .val (.int ((((0 : Int32) + (((0 : Int32) + (1 : Int32)) + (1 : Int32))).toUInt32 >>> ((1 : Int32) &&& 31).toUInt32).toInt32)), .val (.int ((((0 : Int32) + ((((0 : Int32) + (((0 : Int32) + (1 : Int32)) + (1 : Int32))).toUInt32 >>> ((1 : Int32) &&& 31).toUInt32).toInt32)).toUInt32 >>> ((1 : Int32) &&& 31).toUInt32).toInt32))] [])
              refine own_st (fun t k => XS.goto X9.here hx rfl (pc0 := 51) (pc' := 7) rfl (hb hby own_d10_51) (by decide) (by decide) k) ?_
              refine own_st (fun t k => XS.iloadN X9.here hx rfl (hb hby own_d10_7) rfl k) ?_
              refine own_st (fun t k => XS.iloadN X9.here hx rfl (hb hby own_d10_8) rfl k) ?_
              show own_Go _ _ _ _ T9 (mkF m 9 #[.val (.ref b2x4_14c5015), .val (.ref b5009), .val (.int (((((0 : Int32) + ((((0 : Int32) + (((0 : Int32) + (1 : Int32)) + (1 : Int32))).toUInt32 >>> ((1 : Int32) &&& 31).toUInt32).toInt32)).toUInt32 >>> ((1 : Int32) &&& 31).toUInt32).toInt32) + (1 : Int32))), .val (.int ((((0 : Int32) + (((0 : Int32) + (1 : Int32)) + (1 : Int32))).toUInt32 >>> ((1 : Int32) &&& 31).toUInt32).toInt32)), .val (.int ((((0 : Int32) + ((((0 : Int32) + (((0 : Int32) + (1 : Int32)) + (1 : Int32))).toUInt32 >>> ((1 : Int32) &&& 31).toUInt32).toInt32)).toUInt32 >>> ((1 : Int32) &&& 31).toUInt32).toInt32))] [(.int ((((0 : Int32) + (((0 : Int32) + (1 : Int32)) + (1 : Int32))).toUInt32 >>> ((1 : Int32) &&& 31).toUInt32).toInt32)), (.int (((((0 : Int32) + ((((0 : Int32) + (((0 : Int32) + (1 : Int32)) + (1 : Int32))).toUInt32 >>> ((1 : Int32) &&& 31).toUInt32).toInt32)).toUInt32 >>> ((1 : Int32) &&& 31).toUInt32).toInt32) + (1 : Int32)))])
              refine own_st (fun t k => XS.icmpYes X9.here hx rfl (pc0 := 9) (pc' := 54) rfl (hb hby own_d10_9) rfl (flt (by decide : ¬ ((((((0 : Int32) + ((((0 : Int32) + (((0 : Int32) + (1 : Int32)) + (1 : Int32))).toUInt32 >>> ((1 : Int32) &&& 31).toUInt32).toInt32)).toUInt32 >>> ((1 : Int32) &&& 31).toUInt32).toInt32) + (1 : Int32)) < ((((0 : Int32) + (((0 : Int32) + (1 : Int32)) + (1 : Int32))).toUInt32 >>> ((1 : Int32) &&& 31).toUInt32).toInt32)))).2.1 (by decide) (by decide) k) ?_
              show own_Go _ _ _ _ T9 (mkF m 54 #[.val (.ref b2x4_14c5015), .val (.ref b5009), .val (.int (((((0 : Int32) + ((((0 : Int32) + (((0 : Int32) + (1 : Int32)) + (1 : Int32))).toUInt32 >>> ((1 : Int32) &&& 31).toUInt32).toInt32)).toUInt32 >>> ((1 : Int32) &&& 31).toUInt32).toInt32) + (1 : Int32))), .val (.int ((((0 : Int32) + (((0 : Int32) + (1 : Int32)) + (1 : Int32))).toUInt32 >>> ((1 : Int32) &&& 31).toUInt32).toInt32)), .val (.int ((((0 : Int32) + ((((0 : Int32) + (((0 : Int32) + (1 : Int32)) + (1 : Int32))).toUInt32 >>> ((1 : Int32) &&& 31).toUInt32).toInt32)).toUInt32 >>> ((1 : Int32) &&& 31).toUInt32).toInt32))] [])
              refine own_st (fun t k => XS.iloadN X9.here hx rfl (hb hby own_d10_54) rfl k) ?_
              show own_Go _ _ _ _ T9 (mkF m 55 #[.val (.ref b2x4_14c5015), .val (.ref b5009), .val (.int (((((0 : Int32) + ((((0 : Int32) + (((0 : Int32) + (1 : Int32)) + (1 : Int32))).toUInt32 >>> ((1 : Int32) &&& 31).toUInt32).toInt32)).toUInt32 >>> ((1 : Int32) &&& 31).toUInt32).toInt32) + (1 : Int32))), .val (.int ((((0 : Int32) + (((0 : Int32) + (1 : Int32)) + (1 : Int32))).toUInt32 >>> ((1 : Int32) &&& 31).toUInt32).toInt32)), .val (.int ((((0 : Int32) + ((((0 : Int32) + (((0 : Int32) + (1 : Int32)) + (1 : Int32))).toUInt32 >>> ((1 : Int32) &&& 31).toUInt32).toInt32)).toUInt32 >>> ((1 : Int32) &&& 31).toUInt32).toInt32))] [(.int (((((0 : Int32) + ((((0 : Int32) + (((0 : Int32) + (1 : Int32)) + (1 : Int32))).toUInt32 >>> ((1 : Int32) &&& 31).toUInt32).toInt32)).toUInt32 >>> ((1 : Int32) &&& 31).toUInt32).toInt32) + (1 : Int32)))])
              exact own_retI X9 hx hlk hret (hb hby own_d10_55) (by decide) (by decide) e9 ⟨N9, (Keep.refl h0 []), (Or.inr (Or.inl ⟨rfl, hq5_1_0, hq9_0_0, trivial⟩))⟩
            · skip
              refine own_st st9 ?_
              show own_Go _ _ _ _ T9 (mkF m 37 #[.val (.ref b2x4_14c5015), .val (.ref b5009), .val (.int (0 : Int32)), .val (.int ((((0 : Int32) + (((0 : Int32) + (1 : Int32)) + (1 : Int32))).toUInt32 >>> ((1 : Int32) &&& 31).toUInt32).toInt32)), .val (.int ((((0 : Int32) + ((((0 : Int32) + (((0 : Int32) + (1 : Int32)) + (1 : Int32))).toUInt32 >>> ((1 : Int32) &&& 31).toUInt32).toInt32)).toUInt32 >>> ((1 : Int32) &&& 31).toUInt32).toInt32))] [(.int (0 : Int32))])
              refine own_st (fun t k => XS.ifYes X9.here hx rfl (pc0 := 37) (pc' := 48) rfl (hb hby own_d10_37) rfl ((if0 _ _).trans (teq (by decide : (0 : Int32) = (0 : Int32))).1) (by decide) (by decide) k) ?_
              refine own_st (fun t k => XS.iload X9.here hx rfl (hb hby own_d10_48) rfl k) ?_
              show own_Go _ _ _ _ T9 (mkF m 50 #[.val (.ref b2x4_14c5015), .val (.ref b5009), .val (.int (0 : Int32)), .val (.int ((((0 : Int32) + (((0 : Int32) + (1 : Int32)) + (1 : Int32))).toUInt32 >>> ((1 : Int32) &&& 31).toUInt32).toInt32)), .val (.int ((((0 : Int32) + ((((0 : Int32) + (((0 : Int32) + (1 : Int32)) + (1 : Int32))).toUInt32 >>> ((1 : Int32) &&& 31).toUInt32).toInt32)).toUInt32 >>> ((1 : Int32) &&& 31).toUInt32).toInt32))] [(.int ((((0 : Int32) + ((((0 : Int32) + (((0 : Int32) + (1 : Int32)) + (1 : Int32))).toUInt32 >>> ((1 : Int32) &&& 31).toUInt32).toInt32)).toUInt32 >>> ((1 : Int32) &&& 31).toUInt32).toInt32))])
              refine own_st (fun t k => XS.istoreN X9.here hx rfl (hb hby own_d10_50) rfl (l' := #[.val (.ref b2x4_14c5015), .val (.ref b5009), .val (.int (0 : Int32)), .val (.int ((((0 : Int32) + ((((0 : Int32) + (((0 : Int32) + (1 : Int32)) + (1 : Int32))).toUInt32 >>> ((1 : Int32) &&& 31).toUInt32).toInt32)).toUInt32 >>> ((1 : Int32) &&& 31).toUInt32).toInt32)), .val (.int ((((0 : Int32) + ((((0 : Int32) + (((0 : Int32) + (1 : Int32)) + (1 : Int32))).toUInt32 >>> ((1 : Int32) &&& 31).toUInt32).toInt32)).toUInt32 >>> ((1 : Int32) &&& 31).toUInt32).toInt32))]) rfl k) ?_
              refine own_st (fun t k => XS.goto X9.here hx rfl (pc0 := 51) (pc' := 7) rfl (hb hby own_d10_51) (by decide) (by decide) k) ?_
              refine own_st (fun t k => XS.iloadN X9.here hx rfl (hb hby own_d10_7) rfl k) ?_
              refine own_st (fun t k => XS.iloadN X9.here hx rfl (hb hby own_d10_8) rfl k) ?_
              show own_Go _ _ _ _ T9 (mkF m 9 #[.val (.ref b2x4_14c5015), .val (.ref b5009), .val (.int (0 : Int32)), .val (.int ((((0 : Int32) + ((((0 : Int32) + (((0 : Int32) + (1 : Int32)) + (1 : Int32))).toUInt32 >>> ((1 : Int32) &&& 31).toUInt32).toInt32)).toUInt32 >>> ((1 : Int32) &&& 31).toUInt32).toInt32)), .val (.int ((((0 : Int32) + ((((0 : Int32) + (((0 : Int32) + (1 : Int32)) + (1 : Int32))).toUInt32 >>> ((1 : Int32) &&& 31).toUInt32).toInt32)).toUInt32 >>> ((1 : Int32) &&& 31).toUInt32).toInt32))] [(.int ((((0 : Int32) + ((((0 : Int32) + (((0 : Int32) + (1 : Int32)) + (1 : Int32))).toUInt32 >>> ((1 : Int32) &&& 31).toUInt32).toInt32)).toUInt32 >>> ((1 : Int32) &&& 31).toUInt32).toInt32)), (.int (0 : Int32))])
              refine own_st (fun t k => XS.icmpYes X9.here hx rfl (pc0 := 9) (pc' := 54) rfl (hb hby own_d10_9) rfl (flt (by decide : ¬ ((0 : Int32) < ((((0 : Int32) + ((((0 : Int32) + (((0 : Int32) + (1 : Int32)) + (1 : Int32))).toUInt32 >>> ((1 : Int32) &&& 31).toUInt32).toInt32)).toUInt32 >>> ((1 : Int32) &&& 31).toUInt32).toInt32)))).2.1 (by decide) (by decide) k) ?_
              refine own_st (fun t k => XS.iloadN X9.here hx rfl (hb hby own_d10_54) rfl k) ?_
              show own_Go _ _ _ _ T9 (mkF m 55 #[.val (.ref b2x4_14c5015), .val (.ref b5009), .val (.int (0 : Int32)), .val (.int ((((0 : Int32) + ((((0 : Int32) + (((0 : Int32) + (1 : Int32)) + (1 : Int32))).toUInt32 >>> ((1 : Int32) &&& 31).toUInt32).toInt32)).toUInt32 >>> ((1 : Int32) &&& 31).toUInt32).toInt32)), .val (.int ((((0 : Int32) + ((((0 : Int32) + (((0 : Int32) + (1 : Int32)) + (1 : Int32))).toUInt32 >>> ((1 : Int32) &&& 31).toUInt32).toInt32)).toUInt32 >>> ((1 : Int32) &&& 31).toUInt32).toInt32))] [(.int (0 : Int32))])
              exact own_retI X9 hx hlk hret (hb hby own_d10_55) (by decide) (by decide) e9 ⟨N9, (Keep.refl h0 []), (Or.inr (Or.inr ⟨rfl, hq5_1_0, hq9_1_0, trivial⟩))⟩
def own_Q12_127 (Z : State) (b2x4_14c5015 : Addr) (w_NONE : Addr) (b6x14_69c4c13c16c2c5084 : Addr) (b3x14_69c4c13c16c2c5084 : Addr) (k3x14_69c4c13c16c2c5084 : ClassId) (w_NONE_names : Addr) (k_w_NONE_names : ClassId) (b2x5_18c4c5015 : Addr) (h0 : Heap) (n0 : Nat) (v : Option Value) (h : Heap) (L : List Loc) : Prop := Fr n0 L ∧ Keep h0 h [b2x4_14c5015] ∧ ((v = none ∧ Fld Z h b2x4_14c5015 own_s0 "count" "I" (.int (((0 : Int32) + (1 : Int32)) + (1 : Int32))) ∧ Fld Z h b2x4_14c5015 own_s0 "least" own_s6 (.ref b6x14_69c4c13c16c2c5084) ∧ Fld Z h b2x4_14c5015 own_s5 "items" own_s8 (.ref b2x5_18c4c5015) ∧ Fld Z h b2x4_14c5015 own_s0 "stale" "Z" (.int (0 : Int32)) ∧ True))
set_option maxRecDepth 65536 in
set_option maxHeartbeats 40000000 in
theorem own_rm12_127 (l : Launch) (Z : State) (a0 : Array Value) (hw : ∀ d ∈ tables_1, d.before a0 Z = true) (ws : List Jvm.Cond) (b2x4_14c5015 : Addr) (w_NONE : Addr) (b6x14_69c4c13c16c2c5084 : Addr) (b3x14_69c4c13c16c2c5084 : Addr) (k3x14_69c4c13c16c2c5084 : ClassId) (w_NONE_names : Addr) (k_w_NONE_names : ClassId) (b2x5_18c4c5015 : Addr) (h0 : Heap) (n0 : Nat) (Z0 : n0 ≤ h0.size) (P0 : Fld Z h0 b2x4_14c5015 own_s0 "count" "I" (.int (((0 : Int32) + (1 : Int32)) + (1 : Int32)))) (P1 : Fld Z h0 b2x4_14c5015 own_s0 "least" own_s6 (.ref b6x14_69c4c13c16c2c5084)) (P2 : Fld Z h0 b6x14_69c4c13c16c2c5084 own_s2 "parts" own_s9 (.ref b3x14_69c4c13c16c2c5084)) (P3 : Arv Z h0 b3x14_69c4c13c16c2c5084 k3x14_69c4c13c16c2c5084 (.object own_s3) ((0 : Int32) + (1 : Int32)) [(.ref w_NONE)] .null) (OFc5084_0_9 : Ovr Z k3x14_69c4c13c16c2c5084 own_s3) (P5 : Fld Z h0 w_NONE own_s3 "names" "[Ljava/lang/String;" (.ref w_NONE_names)) (P6 : Arv Z h0 w_NONE_names k_w_NONE_names (.object "java/lang/String") (0 : Int32) [] .null) (P7 : Exa Z h0 w_NONE own_s3) (P8 : Exa Z h0 b6x14_69c4c13c16c2c5084 own_s2) (P9 : Exa Z h0 b2x4_14c5015 own_s5) (g_b2x4_14c5015 : n0 ≤ b2x4_14c5015) (P11 : Fld Z h0 b2x4_14c5015 own_s5 "items" own_s8 (.ref b2x5_18c4c5015)) (P12 : Fld Z h0 b2x4_14c5015 own_s0 "stale" "Z" (.int (0 : Int32))) :
    MetFree l own_y6 (head1 (Jvm.Cond.code own_y6 prog_5_method_10_code 2 none :: ws) ({ frames := 2, cells := 0, slots := 0, locals := 36 } : Room)) (fun a U => a = #[(.ref b2x4_14c5015), (.ref w_NONE)] ∧ Z.Warmed39 U.vm ∧ U.heap = h0) (fun _ _ _ _ _ => True) (fun _ U o U' => ∃ v L, o = .returned v ∧ own_Q12_127 Z b2x4_14c5015 w_NONE b6x14_69c4c13c16c2c5084 b3x14_69c4c13c16c2c5084 k3x14_69c4c13c16c2c5084 w_NONE_names k_w_NONE_names b2x5_18c4c5015 h0 n0 v U'.heap L ∧ FrameEnd U o U' L ({ frames := 2, cells := 0, slots := 0, locals := 36 } : Room).cells ({ frames := 2, cells := 0, slots := 0, locals := 36 } : Room).slots) := by
  refine MetFree.of_bodySF (plainFor_of_name own_pn1) hisR ?_
  intro p e s m args below meth c s₁ Bd hml0 hP hK
  obtain ⟨rfl, hZ, hh⟩ := hP
  have hx := Bd.exec
  have hlk := Bd.notSynchronized
  have hret := Bd.returns
  have hby := Bd.bytes
  have hml : c.maxLocals = 2 := hml0
  have hown : s.vm.findClass own_s0 = some m.cls := findClass_of_methodNamed Bd.named
  have hnm := (name_of_methodNamed Bd.named Bd.method).1
  have X0 : Stand p l e ({ frames := 2, cells := 0, slots := 0, locals := 36 } : Room) s m #[(.ref b2x4_14c5015), (.ref w_NONE)] below meth c s₁ [] 0 0 := Stand.of_body Bd
  have e0 : s₁.heap = h0 := by rw [← hh, Bd.state]; rfl
  have N0 := Fr.nil n0
  refine own_open (Q := own_Q12_127 Z b2x4_14c5015 w_NONE b6x14_69c4c13c16c2c5084 b3x14_69c4c13c16c2c5084 k3x14_69c4c13c16c2c5084 w_NONE_names k_w_NONE_names b2x5_18c4c5015 h0 n0) (own_ef12 m b2x4_14c5015 w_NONE) ?_
  refine own_st (fun t k => XS.aloadN X0.here hx rfl (hb hby own_d12_0) rfl rfl k) ?_
  show own_Go _ _ _ _ s₁ (mkF m 1 #[.val (.ref b2x4_14c5015), .val (.ref w_NONE)] [(.ref b2x4_14c5015)])
  obtain ⟨T1, X1, e1, st1⟩ := getF X0 hx hZ hown (host := "") (Or.inl (own_w hw 91 rfl)) Via.refl e0 P0 (g := (mkF m 1 #[.val (.ref b2x4_14c5015), .val (.ref w_NONE)] [(.ref b2x4_14c5015)])) rfl rfl (hb hby own_d12_1)
  refine own_st st1 ?_
  show own_Go _ _ _ _ T1 (mkF m 4 #[.val (.ref b2x4_14c5015), .val (.ref w_NONE)] [(.int (((0 : Int32) + (1 : Int32)) + (1 : Int32)))])
  refine own_st (fun t k => XS.ifYes X1.here hx rfl (pc0 := 4) (pc' := 19) rfl (hb hby own_d12_4) rfl ((if0 _ _).trans (feq (by decide : ¬ ((((0 : Int32) + (1 : Int32)) + (1 : Int32)) = (0 : Int32)))).2) (by decide) (by decide) k) ?_
  show own_Go _ _ _ _ T1 (mkF m 19 #[.val (.ref b2x4_14c5015), .val (.ref w_NONE)] [])
  refine own_st (fun t k => XS.aloadN X1.here hx rfl (hb hby own_d12_19) rfl rfl k) ?_
  refine own_st (fun t k => XS.aloadN X1.here hx rfl (hb hby own_d12_20) rfl rfl k) ?_
  show own_Go _ _ _ _ T1 (mkF m 21 #[.val (.ref b2x4_14c5015), .val (.ref w_NONE)] [(.ref b2x4_14c5015), (.ref b2x4_14c5015)])
  obtain ⟨T2, X2, e2, st2⟩ := getF X1 hx hZ hown (host := "") (Or.inl (own_w hw 48 rfl)) Via.refl e1 P1 (g := (mkF m 21 #[.val (.ref b2x4_14c5015), .val (.ref w_NONE)] [(.ref b2x4_14c5015), (.ref b2x4_14c5015)])) rfl rfl (hb hby own_d12_21)
  refine own_st st2 ?_
  refine own_st (fun t k => XS.aloadN X2.here hx rfl (hb hby own_d12_24) rfl rfl k) ?_
  show own_Go _ _ _ _ T2 (mkF m 25 #[.val (.ref b2x4_14c5015), .val (.ref w_NONE)] [(.ref w_NONE), (.ref b6x14_69c4c13c16c2c5084), (.ref b2x4_14c5015)])
  obtain ⟨cq3, kq3, q3a, q3b, q3c⟩ := isOf hZ e2 P8
  obtain ⟨_, _, ⟨T3, L3, k3, n3⟩, -, X3, ⟨Lc3, hQ3, l3, y3, z3⟩, st3⟩ := X2.virtualBack hx (y := own_y8) (z := own_y8) hown (mvT hZ (own_w hw 94 rfl)) (mvT hZ (own_w hw 95 rfl)) (notFace_of_selects (args := #[]) (mvT hZ (own_w hw 97 rfl))) (mvT hZ (own_w hw 97 rfl)) (mvT hZ (own_w hw 96 rfl)) (by decide) (backOf (W := 1) (own_rm13_106 l Z a0 hw [] b6x14_69c4c13c16c2c5084 w_NONE b3x14_69c4c13c16c2c5084 k3x14_69c4c13c16c2c5084 w_NONE_names k_w_NONE_names h0 n0 Z0 P2 P3 OFc5084_0_9 P5 P6 P7) hZ (own_w hw 98 rfl) (own_w hw 46 rfl) (by decide) (by decide)) q3a q3c (g := (mkF m 25 #[.val (.ref b2x4_14c5015), .val (.ref w_NONE)] [(.ref w_NONE), (.ref b6x14_69c4c13c16c2c5084), (.ref b2x4_14c5015)])) rfl (by rw [hml]; rfl) (Steps.refl _) (argsL := [(.ref w_NONE)]) (rest := [(.ref b2x4_14c5015)]) (lenOf own_pd9 rfl) rfl (by show 2 * 0 + _ ≤ _; exact Nat.le_of_eq rfl) (hb hby own_d12_25) (fun _ _ => ⟨rfl, e2, (by decide : 0 + 0 ≤ _), (by decide : 0 + 0 ≤ _)⟩)
  dsimp only [Pt.U, Pt.locs, Pt.cells, Pt.slots] at X3 l3 y3 z3 st3 hQ3
  subst l3 y3 z3
  obtain ⟨N3q, Kq3, hL3⟩ := hQ3
  have N3 := Fr.app N0 N3q
  have K3 : Keep h0 T3.heap [b2x4_14c5015] := (Keep.refl h0 [b2x4_14c5015]).trans Kq3 all0
  have Z3 := Nat.le_trans Z0 Kq3.1
  rcases hL3 with ⟨rfl, -⟩
  · skip
    refine own_st (fun t k => st3.trans k) ?_
    show own_Go _ _ _ _ T3 (mkF m 28 #[.val (.ref b2x4_14c5015), .val (.ref w_NONE)] [(.ref b6x14_69c4c13c16c2c5084), (.ref b2x4_14c5015)])
    have f4 := (P9.keep Kq3)
    have f5 := (P1.keep Kq3 nin0)
    obtain ⟨T6, h6, X6, e6, W6, st6⟩ := putF X3 hx hZ hown (host := "") (Or.inl (own_w hw 48 rfl)) Via.refl rfl f5 f4 (Or.inl (own_w hw 49 rfl)) (own_w hw 34 rfl) (ty := (.object own_s2)) (by decide) rfl rfl (g := (mkF m 28 #[.val (.ref b2x4_14c5015), .val (.ref w_NONE)] [(.ref b6x14_69c4c13c16c2c5084), (.ref b2x4_14c5015)])) rfl rfl (hb hby own_d12_28)
    refine own_st st6 ?_
    have K6 : Keep h0 h6 [b2x4_14c5015] := K3.wr W6 (Or.inl (List.mem_of_getElem? (i := 0) rfl))
    have Z6 := Nat.le_trans Z3 (Keep.of_wr W6).1
    have N6 := Fr.snoc X6 N3 g_b2x4_14c5015
    have F6 := f5.same W6
    show own_Go _ _ _ _ T6 (mkF m 31 #[.val (.ref b2x4_14c5015), .val (.ref w_NONE)] [])
    have f7 := ((P0.keep Kq3 nin0).other W6 (Or.inr (slot_ne (Or.inl (own_w hw 79 rfl)) (Or.inl (own_w hw 49 rfl)) (by decide) (t := .int) (t' := (.object own_s2)) (by decide) (by decide))))
    have f8 := ((P11.keep Kq3 nin0).other W6 (Or.inr (slot_ne (Or.inr (own_w hw 53 rfl)) (Or.inl (own_w hw 49 rfl)) (by decide) (t := (.array (.object own_s1))) (t' := (.object own_s2)) (by decide) (by decide))))
    have f9 := ((P12.keep Kq3 nin0).other W6 (Or.inr (slot_ne (Or.inl (own_w hw 93 rfl)) (Or.inl (own_w hw 49 rfl)) (by decide) (t := .boolean) (t' := (.object own_s2)) (by decide) (by decide))))
    exact own_retV X6 hx hlk hret (hb hby own_d12_31) (by decide) (by decide) e6 ⟨N6, K6, ⟨rfl, f7, F6, f8, f9, trivial⟩⟩
def own_Q9_124 (Z : State) (b2x4_14c5015 : Addr) (b5009 : Addr) (b2x5_18c4c5015 : Addr) (k2x5_18c4c5015c2c5044c2c5104 : ClassId) (b5001 : Addr) (b5005 : Addr) (j14 : Int64) (j18 : Int64) (j12 : Int64) (j16 : Int64) (jp1 : Int64) (jp4 : Int64) (w_NONE : Addr) (b6x14_69c4c13c16c2c5084 : Addr) (b3x14_69c4c13c16c2c5084 : Addr) (k3x14_69c4c13c16c2c5084 : ClassId) (w_NONE_names : Addr) (k_w_NONE_names : ClassId) (h0 : Heap) (n0 : Nat) (v : Option Value) (h : Heap) (L : List Loc) : Prop := Fr n0 L ∧ Keep h0 h [b2x4_14c5015, b2x5_18c4c5015] ∧ ((∃ k2x5_18c4c5015c2c5044c2c5104 : ClassId, v = some .null ∧ (own_lt j12 j16 j14 j18) ∧ Fld Z h b2x4_14c5015 own_s0 "count" "I" (.int ((((0 : Int32) + (1 : Int32)) + (1 : Int32)) + (1 : Int32))) ∧ Fld Z h b2x4_14c5015 own_s5 "items" own_s8 (.ref b2x5_18c4c5015) ∧ Fld Z h b2x4_14c5015 own_s0 "least" own_s6 (.ref b6x14_69c4c13c16c2c5084) ∧ Fld Z h b2x4_14c5015 own_s0 "stale" "Z" (.int (0 : Int32)) ∧ Arv Z h b2x5_18c4c5015 k2x5_18c4c5015c2c5044c2c5104 (.object own_s1) (64 : Int32) [(.ref b5001), (.ref b5005), (.ref b5009)] .null ∧ Ovr Z k2x5_18c4c5015c2c5044c2c5104 own_s1 ∧ True) ∨ (∃ k2x5_18c4c5015c2c5044c2c5104 : ClassId, v = some .null ∧ (¬ (own_lt j12 j16 j14 j18)) ∧ (own_lt jp1 jp4 j14 j18) ∧ Fld Z h b2x4_14c5015 own_s0 "count" "I" (.int ((((0 : Int32) + (1 : Int32)) + (1 : Int32)) + (1 : Int32))) ∧ Fld Z h b2x4_14c5015 own_s5 "items" own_s8 (.ref b2x5_18c4c5015) ∧ Fld Z h b2x4_14c5015 own_s0 "least" own_s6 (.ref b6x14_69c4c13c16c2c5084) ∧ Fld Z h b2x4_14c5015 own_s0 "stale" "Z" (.int (0 : Int32)) ∧ Arv Z h b2x5_18c4c5015 k2x5_18c4c5015c2c5044c2c5104 (.object own_s1) (64 : Int32) [(.ref b5001), (.ref b5009), (.ref b5005)] .null ∧ Ovr Z k2x5_18c4c5015c2c5044c2c5104 own_s1 ∧ True) ∨ (∃ k2x5_18c4c5015c2c5044c2c5104 : ClassId, v = some .null ∧ (¬ (own_lt j12 j16 j14 j18)) ∧ (¬ (own_lt jp1 jp4 j14 j18)) ∧ Fld Z h b2x4_14c5015 own_s0 "count" "I" (.int ((((0 : Int32) + (1 : Int32)) + (1 : Int32)) + (1 : Int32))) ∧ Fld Z h b2x4_14c5015 own_s5 "items" own_s8 (.ref b2x5_18c4c5015) ∧ Fld Z h b2x4_14c5015 own_s0 "least" own_s6 (.ref b6x14_69c4c13c16c2c5084) ∧ Fld Z h b2x4_14c5015 own_s0 "stale" "Z" (.int (0 : Int32)) ∧ Arv Z h b2x5_18c4c5015 k2x5_18c4c5015c2c5044c2c5104 (.object own_s1) (64 : Int32) [(.ref b5009), (.ref b5001), (.ref b5005)] .null ∧ Ovr Z k2x5_18c4c5015c2c5044c2c5104 own_s1 ∧ True))
set_option maxRecDepth 65536 in
set_option maxHeartbeats 40000000 in
theorem own_rm9_124 (l : Launch) (Z : State) (a0 : Array Value) (hw : ∀ d ∈ tables_1, d.before a0 Z = true) (ws : List Jvm.Cond) (b2x4_14c5015 : Addr) (b5009 : Addr) (b2x5_18c4c5015 : Addr) (k2x5_18c4c5015c2c5044c2c5104 : ClassId) (b5001 : Addr) (b5005 : Addr) (j14 : Int64) (j18 : Int64) (j12 : Int64) (j16 : Int64) (jp1 : Int64) (jp4 : Int64) (w_NONE : Addr) (b6x14_69c4c13c16c2c5084 : Addr) (b3x14_69c4c13c16c2c5084 : Addr) (k3x14_69c4c13c16c2c5084 : ClassId) (w_NONE_names : Addr) (k_w_NONE_names : ClassId) (h0 : Heap) (n0 : Nat) (Z0 : n0 ≤ h0.size) (P0 : Fld Z h0 b2x4_14c5015 own_s0 "count" "I" (.int (((0 : Int32) + (1 : Int32)) + (1 : Int32)))) (P1 : Fld Z h0 b2x4_14c5015 own_s5 "items" own_s8 (.ref b2x5_18c4c5015)) (P2 : Arv Z h0 b2x5_18c4c5015 k2x5_18c4c5015c2c5044c2c5104 (.object own_s1) (64 : Int32) [(.ref b5001), (.ref b5005)] .null) (OFc5104_0_0 : Ovr Z k2x5_18c4c5015c2c5044c2c5104 own_s1) (P4 : Fld Z h0 b5009 own_s1 "priority" "J" (.long j14)) (P5 : Exa Z h0 b5009 own_s1) (P6 : Fld Z h0 b5009 own_s1 "id" "J" (.long j18)) (P7 : Fld Z h0 b5005 own_s1 "priority" "J" (.long j12)) (P8 : Fld Z h0 b5005 own_s1 "id" "J" (.long j16)) (P9 : Exa Z h0 b5005 own_s1) (P10 : Fld Z h0 b5001 own_s1 "priority" "J" (.long jp1)) (P11 : Fld Z h0 b5001 own_s1 "id" "J" (.long jp4)) (P12 : Exa Z h0 b5001 own_s1) (P13 : Exa Z h0 b2x4_14c5015 own_s5) (P14 : Fld Z h0 b5009 own_s1 "needs" "Lcom/example/lonborg/lonborg/Resources;" (.ref w_NONE)) (P15 : Fld Z h0 b2x4_14c5015 own_s0 "least" own_s6 (.ref b6x14_69c4c13c16c2c5084)) (P16 : Fld Z h0 b6x14_69c4c13c16c2c5084 own_s2 "parts" own_s9 (.ref b3x14_69c4c13c16c2c5084)) (P17 : Arv Z h0 b3x14_69c4c13c16c2c5084 k3x14_69c4c13c16c2c5084 (.object own_s3) ((0 : Int32) + (1 : Int32)) [(.ref w_NONE)] .null) (OFc5084_0_9 : Ovr Z k3x14_69c4c13c16c2c5084 own_s3) (P19 : Fld Z h0 w_NONE own_s3 "names" "[Ljava/lang/String;" (.ref w_NONE_names)) (P20 : Arv Z h0 w_NONE_names k_w_NONE_names (.object "java/lang/String") (0 : Int32) [] .null) (P21 : Exa Z h0 w_NONE own_s3) (P22 : Exa Z h0 b6x14_69c4c13c16c2c5084 own_s2) (P23 : Fld Z h0 b2x4_14c5015 own_s0 "stale" "Z" (.int (0 : Int32))) (g_b2x4_14c5015 : n0 ≤ b2x4_14c5015) (P25 : Exa Z h0 b2x5_18c4c5015 own_s8) (g_b2x5_18c4c5015 : n0 ≤ b2x5_18c4c5015) :
    MetFree l own_y11 (head1 (Jvm.Cond.code own_y11 prog_4_method_2_code 4 (some (.object own_s0)) :: ws) ({ frames := 3, cells := 0, slots := 0, locals := 49 } : Room)) (fun a U => a = #[(.ref b2x4_14c5015), (.ref b5009)] ∧ Z.Warmed39 U.vm ∧ U.heap = h0) (fun _ _ _ _ _ => True) (fun _ U o U' => ∃ v L, o = .returned v ∧ own_Q9_124 Z b2x4_14c5015 b5009 b2x5_18c4c5015 k2x5_18c4c5015c2c5044c2c5104 b5001 b5005 j14 j18 j12 j16 jp1 jp4 w_NONE b6x14_69c4c13c16c2c5084 b3x14_69c4c13c16c2c5084 k3x14_69c4c13c16c2c5084 w_NONE_names k_w_NONE_names h0 n0 v U'.heap L ∧ FrameEnd U o U' L ({ frames := 3, cells := 0, slots := 0, locals := 49 } : Room).cells ({ frames := 3, cells := 0, slots := 0, locals := 49 } : Room).slots) := by
  refine MetFree.of_bodySF (plainFor_of_name own_pn2) hisR ?_
  intro p e s m args below meth c s₁ Bd hml0 hP hK
  obtain ⟨rfl, hZ, hh⟩ := hP
  have hx := Bd.exec
  have hlk := Bd.notSynchronized
  have hret := Bd.returns
  have hby := Bd.bytes
  have hml : c.maxLocals = 4 := hml0
  have hown : s.vm.findClass own_s5 = some m.cls := findClass_of_methodNamed Bd.named
  have hnm := (name_of_methodNamed Bd.named Bd.method).1
  have X0 : Stand p l e ({ frames := 3, cells := 0, slots := 0, locals := 49 } : Room) s m #[(.ref b2x4_14c5015), (.ref b5009)] below meth c s₁ [] 0 0 := Stand.of_body Bd
  have e0 : s₁.heap = h0 := by rw [← hh, Bd.state]; rfl
  have N0 := Fr.nil n0
  refine own_open (Q := own_Q9_124 Z b2x4_14c5015 b5009 b2x5_18c4c5015 k2x5_18c4c5015c2c5044c2c5104 b5001 b5005 j14 j18 j12 j16 jp1 jp4 w_NONE b6x14_69c4c13c16c2c5084 b3x14_69c4c13c16c2c5084 k3x14_69c4c13c16c2c5084 w_NONE_names k_w_NONE_names h0 n0) (own_ef9 m b2x4_14c5015 b5009) ?_
  refine own_st (fun t k => XS.aloadN X0.here hx rfl (hb hby own_d9_0) rfl rfl k) ?_
  refine own_st (fun t k => XS.aloadN X0.here hx rfl (hb hby own_d9_1) rfl rfl k) ?_
  show own_Go _ _ _ _ s₁ (mkF m 2 #[.val (.ref b2x4_14c5015), .val (.ref b5009), .unset, .unset] [(.ref b5009), (.ref b2x4_14c5015)])
  obtain ⟨cq1, q1, q1'⟩ := P13.cell
  obtain ⟨_, _, ⟨T1, L1, k1, n1⟩, -, X1, ⟨Lc1, hQ1, l1, y1, z1⟩, st1⟩ := X0.privateBack hx (y := own_y4) hown (mvT hZ (own_w hw 73 rfl)) (mvT hZ (own_w hw 74 rfl)) (own_psel hZ (own_w hw 34 rfl) (own_w hw 75 rfl) (own_w hw 74 rfl) (by decide)) (Cond.privateMethod_at (mvP hZ (own_w hw 75 rfl) (args := #[]))) (mvT hZ (own_w hw 76 rfl)) (by decide) (backOf (W := 0) (own_rm10_125 l Z a0 hw [] b2x4_14c5015 b5009 b2x5_18c4c5015 k2x5_18c4c5015c2c5044c2c5104 b5001 b5005 j14 j18 j12 j16 jp1 jp4 h0 n0 Z0 P0 P1 P2 OFc5104_0_0 P4 P5 P6 P7 P8 P9 P10 P11 P12) hZ (own_w hw 76 rfl) (own_w hw 35 rfl) (by decide) (by decide)) (g := (mkF m 2 #[.val (.ref b2x4_14c5015), .val (.ref b5009), .unset, .unset] [(.ref b5009), (.ref b2x4_14c5015)])) rfl (by rw [hml]; rfl) (Steps.refl _) (a := b2x4_14c5015) (by rw [e0]; exact q1) q1' (argsL := [(.ref b5009)]) (rest := []) (lenOf own_pd4 rfl) rfl (by show 2 * 0 + _ ≤ _; exact Nat.le_of_eq rfl) (hb hby own_d9_2) (fun _ _ => ⟨rfl, e0, (by decide : 0 + 0 ≤ _), (by decide : 0 + 0 ≤ _)⟩)
  dsimp only [Pt.U, Pt.locs, Pt.cells, Pt.slots] at X1 l1 y1 z1 st1 hQ1
  subst l1 y1 z1
  obtain ⟨N1q, Kq1, hL1⟩ := hQ1
  have N1 := Fr.app N0 N1q
  have K1 : Keep h0 T1.heap [b2x4_14c5015, b2x5_18c4c5015] := (Keep.refl h0 [b2x4_14c5015, b2x5_18c4c5015]).trans Kq1 all0
  have Z1 := Nat.le_trans Z0 Kq1.1
  rcases hL1 with ⟨rfl, hq1_0_0, -⟩ | ⟨rfl, hq1_1_0, hq1_1_1, -⟩ | ⟨rfl, hq1_2_0, hq1_2_1, -⟩
  · skip
    refine own_st (fun t k => st1.trans k) ?_
    show own_Go _ _ _ _ T1 (mkF m 5 #[.val (.ref b2x4_14c5015), .val (.ref b5009), .unset, .unset] [(.int (((((0 : Int32) + (((0 : Int32) + (1 : Int32)) + (1 : Int32))).toUInt32 >>> ((1 : Int32) &&& 31).toUInt32).toInt32) + (1 : Int32)))])
    refine own_st (fun t k => XS.istoreN X1.here hx rfl (hb hby own_d9_5) rfl (l' := #[.val (.ref b2x4_14c5015), .val (.ref b5009), .val (.int (((((0 : Int32) + (((0 : Int32) + (1 : Int32)) + (1 : Int32))).toUInt32 >>> ((1 : Int32) &&& 31).toUInt32).toInt32) + (1 : Int32))), .unset]) rfl k) ?_
    refine own_st (fun t k => XS.aloadN X1.here hx rfl (hb hby own_d9_6) rfl rfl k) ?_
    show own_Go _ _ _ _ T1 (mkF m 7 #[.val (.ref b2x4_14c5015), .val (.ref b5009), .val (.int (((((0 : Int32) + (((0 : Int32) + (1 : Int32)) + (1 : Int32))).toUInt32 >>> ((1 : Int32) &&& 31).toUInt32).toInt32) + (1 : Int32))), .unset] [(.ref b2x4_14c5015)])
    have f2 := (P0.keep Kq1 nin0)
    obtain ⟨T3, X3, e3, st3⟩ := getF X1 hx hZ hown (host := "") (Or.inl (own_w hw 77 rfl)) (Via.of (own_w hw 78 rfl)) rfl f2 (g := (mkF m 7 #[.val (.ref b2x4_14c5015), .val (.ref b5009), .val (.int (((((0 : Int32) + (((0 : Int32) + (1 : Int32)) + (1 : Int32))).toUInt32 >>> ((1 : Int32) &&& 31).toUInt32).toInt32) + (1 : Int32))), .unset] [(.ref b2x4_14c5015)])) rfl rfl (hb hby own_d9_7)
    refine own_st st3 ?_
    refine own_st (fun t k => XS.bipush X3.here hx rfl (hb hby own_d9_10) k) ?_
    show own_Go _ _ _ _ T3 (mkF m 12 #[.val (.ref b2x4_14c5015), .val (.ref b5009), .val (.int (((((0 : Int32) + (((0 : Int32) + (1 : Int32)) + (1 : Int32))).toUInt32 >>> ((1 : Int32) &&& 31).toUInt32).toInt32) + (1 : Int32))), .unset] [(.int (64 : Int32)), (.int (((0 : Int32) + (1 : Int32)) + (1 : Int32)))])
    refine own_st (fun t k => XS.icmpNo X3.here hx rfl (hb hby own_d9_12) rfl (tlt (by decide : (((0 : Int32) + (1 : Int32)) + (1 : Int32)) < (64 : Int32))).2.1 k) ?_
    refine own_st (fun t k => XS.aloadN X3.here hx rfl (hb hby own_d9_15) rfl rfl k) ?_
    refine own_st (fun t k => XS.aloadN X3.here hx rfl (hb hby own_d9_16) rfl rfl k) ?_
    show own_Go _ _ _ _ T3 (mkF m 17 #[.val (.ref b2x4_14c5015), .val (.ref b5009), .val (.int (((((0 : Int32) + (((0 : Int32) + (1 : Int32)) + (1 : Int32))).toUInt32 >>> ((1 : Int32) &&& 31).toUInt32).toInt32) + (1 : Int32))), .unset] [(.ref b5009), (.ref b2x4_14c5015)])
    have f4 := (P14.keep Kq1 nin0)
    have f6 := (P5.keep Kq1)
    obtain ⟨cq5, kq5, q5a, q5b, q5c⟩ := isOf hZ e3 f6
    obtain ⟨_, _, ⟨T5, L5, k5, n5⟩, -, X5, ⟨Lc5, hQ5, l5, y5, z5⟩, st5⟩ := X3.virtualBack hx (y := own_y0) (z := own_y0) hown (mvT hZ (own_w hw 80 rfl)) (mvT hZ (own_w hw 81 rfl)) (notFace_of_selects (args := #[]) (mvT hZ (own_w hw 83 rfl))) (mvT hZ (own_w hw 83 rfl)) (mvT hZ (own_w hw 82 rfl)) (by decide) (backOf (W := 1) (own_rm11 l Z a0 hw [] b5009 w_NONE T1.heap n0 Z1 f4) hZ (own_w hw 84 rfl) (own_w hw 5 rfl) (by decide) (by decide)) q5a q5c (g := (mkF m 17 #[.val (.ref b2x4_14c5015), .val (.ref b5009), .val (.int (((((0 : Int32) + (((0 : Int32) + (1 : Int32)) + (1 : Int32))).toUInt32 >>> ((1 : Int32) &&& 31).toUInt32).toInt32) + (1 : Int32))), .unset] [(.ref b5009), (.ref b2x4_14c5015)])) rfl (by rw [hml]; rfl) (Steps.refl _) (argsL := []) (rest := [(.ref b2x4_14c5015)]) (lenOf own_pd5 rfl) rfl (by show 2 * 0 + _ ≤ _; exact Nat.le_of_eq rfl) (hb hby own_d9_17) (fun _ _ => ⟨rfl, e3, (by decide : 0 + 0 ≤ _), (by decide : 0 + 0 ≤ _)⟩)
    dsimp only [Pt.U, Pt.locs, Pt.cells, Pt.slots] at X5 l5 y5 z5 st5 hQ5
    subst l5 y5 z5
    obtain ⟨N5q, e5, hL5⟩ := hQ5
    have N5 := Fr.app N1 N5q
    rcases hL5 with ⟨rfl, -⟩
    · skip
      refine own_st (fun t k => st5.trans k) ?_
      show own_Go _ _ _ _ T5 (mkF m 20 #[.val (.ref b2x4_14c5015), .val (.ref b5009), .val (.int (((((0 : Int32) + (((0 : Int32) + (1 : Int32)) + (1 : Int32))).toUInt32 >>> ((1 : Int32) &&& 31).toUInt32).toInt32) + (1 : Int32))), .unset] [(.ref w_NONE), (.ref b2x4_14c5015)])
      have f7 := (P15.keep Kq1 nin0)
      have f8 := (P16.keep Kq1 nin0)
      have f9 := (P17.keep Kq1 nin0)
      have f10 := (P19.keep Kq1 nin0)
      have f11 := (P20.keep Kq1 nin0)
      have f12 := (P21.keep Kq1)
      have f13 := (P22.keep Kq1)
      have f14 := (P13.keep Kq1)
      have f15 := (P1.keep Kq1 nin0)
      have f16 := (P23.keep Kq1 nin0)
      obtain ⟨cq17, kq17, q17a, q17b, q17c⟩ := isOf hZ e5 f14
      obtain ⟨_, _, ⟨T17, L17, k17, n17⟩, -, X17, ⟨Lc17, hQ17, l17, y17, z17⟩, st17⟩ := X5.virtualBackUp hx (owner := own_s0) (x := own_y14) (y := own_y6) hown (mvT hZ (own_w hw 85 rfl)) (mvT hZ (own_w hw 86 rfl)) (mvT hZ (own_w hw 87 rfl)) (by decide) (mvT hZ (own_w hw 89 rfl)) (mvT hZ (own_w hw 88 rfl)) (backOf (W := 0) (own_rm12_127 l Z a0 hw [] b2x4_14c5015 w_NONE b6x14_69c4c13c16c2c5084 b3x14_69c4c13c16c2c5084 k3x14_69c4c13c16c2c5084 w_NONE_names k_w_NONE_names b2x5_18c4c5015 T1.heap n0 Z1 f2 f7 f8 f9 OFc5084_0_9 f10 f11 f12 f13 f14 g_b2x4_14c5015 f15 f16) hZ (own_w hw 90 rfl) (own_w hw 42 rfl) (by decide) (by decide)) q17a q17c (g := (mkF m 20 #[.val (.ref b2x4_14c5015), .val (.ref b5009), .val (.int (((((0 : Int32) + (((0 : Int32) + (1 : Int32)) + (1 : Int32))).toUInt32 >>> ((1 : Int32) &&& 31).toUInt32).toInt32) + (1 : Int32))), .unset] [(.ref w_NONE), (.ref b2x4_14c5015)])) rfl (by rw [hml]; rfl) (Steps.refl _) (argsL := [(.ref w_NONE)]) (rest := []) (lenOf own_pd10 rfl) rfl (by show 2 * 0 + _ ≤ _; exact Nat.le_of_eq rfl) (hb hby own_d9_20) (fun _ _ => ⟨rfl, e5, (by decide : 0 + 0 ≤ _), (by decide : 0 + 0 ≤ _)⟩)
      dsimp only [Pt.U, Pt.locs, Pt.cells, Pt.slots] at X17 l17 y17 z17 st17 hQ17
      subst l17 y17 z17
      obtain ⟨N17q, Kq17, hL17⟩ := hQ17
      have N17 := Fr.app N5 N17q
      have K17 : Keep h0 T17.heap [b2x4_14c5015, b2x5_18c4c5015] := K1.trans Kq17 (allS (Or.inl (List.mem_of_getElem? (i := 0) rfl)) all0)
      have Z17 := Nat.le_trans Z1 Kq17.1
      rcases hL17 with ⟨rfl, Fc17_0_0, Fc17_0_1, Fc17_0_2, Fc17_0_3, -⟩
      · skip
        refine own_st (fun t k => st17.trans k) ?_
        refine own_st (fun t k => XS.aloadN X17.here hx rfl (hb hby own_d9_23) rfl rfl k) ?_
        show own_Go _ _ _ _ T17 (mkF m 24 #[.val (.ref b2x4_14c5015), .val (.ref b5009), .val (.int (((((0 : Int32) + (((0 : Int32) + (1 : Int32)) + (1 : Int32))).toUInt32 >>> ((1 : Int32) &&& 31).toUInt32).toInt32) + (1 : Int32))), .unset] [(.ref b2x4_14c5015)])
        obtain ⟨T18, X18, e18, st18⟩ := getF X17 hx hZ hown (host := "") (Or.inl (own_w hw 52 rfl)) Via.refl rfl Fc17_0_2 (g := (mkF m 24 #[.val (.ref b2x4_14c5015), .val (.ref b5009), .val (.int (((((0 : Int32) + (((0 : Int32) + (1 : Int32)) + (1 : Int32))).toUInt32 >>> ((1 : Int32) &&& 31).toUInt32).toInt32) + (1 : Int32))), .unset] [(.ref b2x4_14c5015)])) rfl rfl (hb hby own_d9_24)
        refine own_st st18 ?_
        refine own_st (fun t k => XS.iloadN X18.here hx rfl (hb hby own_d9_27) rfl k) ?_
        show own_Go _ _ _ _ T18 (mkF m 28 #[.val (.ref b2x4_14c5015), .val (.ref b5009), .val (.int (((((0 : Int32) + (((0 : Int32) + (1 : Int32)) + (1 : Int32))).toUInt32 >>> ((1 : Int32) &&& 31).toUInt32).toInt32) + (1 : Int32))), .unset] [(.int (((((0 : Int32) + (((0 : Int32) + (1 : Int32)) + (1 : Int32))).toUInt32 >>> ((1 : Int32) &&& 31).toUInt32).toInt32) + (1 : Int32))), (.ref b2x5_18c4c5015)])
        refine own_st (fun t k => XS.aloadN X18.here hx rfl (hb hby own_d9_28) rfl rfl k) ?_
        show own_Go _ _ _ _ T18 (mkF m 29 #[.val (.ref b2x4_14c5015), .val (.ref b5009), .val (.int (((((0 : Int32) + (((0 : Int32) + (1 : Int32)) + (1 : Int32))).toUInt32 >>> ((1 : Int32) &&& 31).toUInt32).toInt32) + (1 : Int32))), .unset] [(.ref b2x4_14c5015), (.int (((((0 : Int32) + (((0 : Int32) + (1 : Int32)) + (1 : Int32))).toUInt32 >>> ((1 : Int32) &&& 31).toUInt32).toInt32) + (1 : Int32))), (.ref b2x5_18c4c5015)])
        obtain ⟨T19, X19, e19, st19⟩ := getF X18 hx hZ hown (host := "") (Or.inl (own_w hw 52 rfl)) Via.refl e18 Fc17_0_2 (g := (mkF m 29 #[.val (.ref b2x4_14c5015), .val (.ref b5009), .val (.int (((((0 : Int32) + (((0 : Int32) + (1 : Int32)) + (1 : Int32))).toUInt32 >>> ((1 : Int32) &&& 31).toUInt32).toInt32) + (1 : Int32))), .unset] [(.ref b2x4_14c5015), (.int (((((0 : Int32) + (((0 : Int32) + (1 : Int32)) + (1 : Int32))).toUInt32 >>> ((1 : Int32) &&& 31).toUInt32).toInt32) + (1 : Int32))), (.ref b2x5_18c4c5015)])) rfl rfl (hb hby own_d9_29)
        refine own_st st19 ?_
        refine own_st (fun t k => XS.iloadN X19.here hx rfl (hb hby own_d9_32) rfl k) ?_
        refine own_st (fun t k => XS.iconst X19.here hx rfl (hb hby own_d9_33) k) ?_
        show own_Go _ _ _ _ T19 (mkF m 34 #[.val (.ref b2x4_14c5015), .val (.ref b5009), .val (.int (((((0 : Int32) + (((0 : Int32) + (1 : Int32)) + (1 : Int32))).toUInt32 >>> ((1 : Int32) &&& 31).toUInt32).toInt32) + (1 : Int32))), .unset] [(.int (1 : Int32)), (.int (((((0 : Int32) + (((0 : Int32) + (1 : Int32)) + (1 : Int32))).toUInt32 >>> ((1 : Int32) &&& 31).toUInt32).toInt32) + (1 : Int32))), (.ref b2x5_18c4c5015), (.int (((((0 : Int32) + (((0 : Int32) + (1 : Int32)) + (1 : Int32))).toUInt32 >>> ((1 : Int32) &&& 31).toUInt32).toInt32) + (1 : Int32))), (.ref b2x5_18c4c5015)])
        refine own_st (fun t k => XS.iadd X19.here hx rfl (hb hby own_d9_34) rfl k) ?_
        refine own_st (fun t k => XS.aloadN X19.here hx rfl (hb hby own_d9_35) rfl rfl k) ?_
        show own_Go _ _ _ _ T19 (mkF m 36 #[.val (.ref b2x4_14c5015), .val (.ref b5009), .val (.int (((((0 : Int32) + (((0 : Int32) + (1 : Int32)) + (1 : Int32))).toUInt32 >>> ((1 : Int32) &&& 31).toUInt32).toInt32) + (1 : Int32))), .unset] [(.ref b2x4_14c5015), (.int ((((((0 : Int32) + (((0 : Int32) + (1 : Int32)) + (1 : Int32))).toUInt32 >>> ((1 : Int32) &&& 31).toUInt32).toInt32) + (1 : Int32)) + (1 : Int32))), (.ref b2x5_18c4c5015), (.int (((((0 : Int32) + (((0 : Int32) + (1 : Int32)) + (1 : Int32))).toUInt32 >>> ((1 : Int32) &&& 31).toUInt32).toInt32) + (1 : Int32))), (.ref b2x5_18c4c5015)])
        obtain ⟨T20, X20, e20, st20⟩ := getF X19 hx hZ hown (host := "") (Or.inl (own_w hw 77 rfl)) (Via.of (own_w hw 78 rfl)) e19 Fc17_0_0 (g := (mkF m 36 #[.val (.ref b2x4_14c5015), .val (.ref b5009), .val (.int (((((0 : Int32) + (((0 : Int32) + (1 : Int32)) + (1 : Int32))).toUInt32 >>> ((1 : Int32) &&& 31).toUInt32).toInt32) + (1 : Int32))), .unset] [(.ref b2x4_14c5015), (.int ((((((0 : Int32) + (((0 : Int32) + (1 : Int32)) + (1 : Int32))).toUInt32 >>> ((1 : Int32) &&& 31).toUInt32).toInt32) + (1 : Int32)) + (1 : Int32))), (.ref b2x5_18c4c5015), (.int (((((0 : Int32) + (((0 : Int32) + (1 : Int32)) + (1 : Int32))).toUInt32 >>> ((1 : Int32) &&& 31).toUInt32).toInt32) + (1 : Int32))), (.ref b2x5_18c4c5015)])) rfl rfl (hb hby own_d9_36)
        refine own_st st20 ?_
        refine own_st (fun t k => XS.iloadN X20.here hx rfl (hb hby own_d9_39) rfl k) ?_
        show own_Go _ _ _ _ T20 (mkF m 40 #[.val (.ref b2x4_14c5015), .val (.ref b5009), .val (.int (((((0 : Int32) + (((0 : Int32) + (1 : Int32)) + (1 : Int32))).toUInt32 >>> ((1 : Int32) &&& 31).toUInt32).toInt32) + (1 : Int32))), .unset] [(.int (((((0 : Int32) + (((0 : Int32) + (1 : Int32)) + (1 : Int32))).toUInt32 >>> ((1 : Int32) &&& 31).toUInt32).toInt32) + (1 : Int32))), (.int (((0 : Int32) + (1 : Int32)) + (1 : Int32))), (.int ((((((0 : Int32) + (((0 : Int32) + (1 : Int32)) + (1 : Int32))).toUInt32 >>> ((1 : Int32) &&& 31).toUInt32).toInt32) + (1 : Int32)) + (1 : Int32))), (.ref b2x5_18c4c5015), (.int (((((0 : Int32) + (((0 : Int32) + (1 : Int32)) + (1 : Int32))).toUInt32 >>> ((1 : Int32) &&& 31).toUInt32).toInt32) + (1 : Int32))), (.ref b2x5_18c4c5015)])
        refine own_st (fun t k => XS.isub X20.here hx rfl (hb hby own_d9_40) rfl k) ?_
        show own_Go _ _ _ _ T20 (mkF m 41 #[.val (.ref b2x4_14c5015), .val (.ref b5009), .val (.int (((((0 : Int32) + (((0 : Int32) + (1 : Int32)) + (1 : Int32))).toUInt32 >>> ((1 : Int32) &&& 31).toUInt32).toInt32) + (1 : Int32))), .unset] [(.int ((((0 : Int32) + (1 : Int32)) + (1 : Int32)) - (((((0 : Int32) + (((0 : Int32) + (1 : Int32)) + (1 : Int32))).toUInt32 >>> ((1 : Int32) &&& 31).toUInt32).toInt32) + (1 : Int32)))), (.int ((((((0 : Int32) + (((0 : Int32) + (1 : Int32)) + (1 : Int32))).toUInt32 >>> ((1 : Int32) &&& 31).toUInt32).toInt32) + (1 : Int32)) + (1 : Int32))), (.ref b2x5_18c4c5015), (.int (((((0 : Int32) + (((0 : Int32) + (1 : Int32)) + (1 : Int32))).toUInt32 >>> ((1 : Int32) &&& 31).toUInt32).toInt32) + (1 : Int32))), (.ref b2x5_18c4c5015)])
        have f22 := ((P2.keep Kq1 nin0).keep Kq17 (ninS (ne_exa P25 P13 (by decide)) nin0))
        obtain ⟨T21, X21, e21, st21⟩ := own_cp0 X20 hx hZ hown (own_w hw 118 rfl) (own_w hw 121 rfl) (own_w hw 119 rfl) (own_w hw 120 rfl) e20 f22 f22 (sp := (((((0 : Int32) + (((0 : Int32) + (1 : Int32)) + (1 : Int32))).toUInt32 >>> ((1 : Int32) &&& 31).toUInt32).toInt32) + (1 : Int32))) (dp := ((((((0 : Int32) + (((0 : Int32) + (1 : Int32)) + (1 : Int32))).toUInt32 >>> ((1 : Int32) &&& 31).toUInt32).toInt32) + (1 : Int32)) + (1 : Int32))) (nn := ((((0 : Int32) + (1 : Int32)) + (1 : Int32)) - (((((0 : Int32) + (((0 : Int32) + (1 : Int32)) + (1 : Int32))).toUInt32 >>> ((1 : Int32) &&& 31).toUInt32).toInt32) + (1 : Int32)))) rfl (Or.inr ⟨rfl, rfl⟩) (by decide) (by decide) (by decide) (by decide) (g := (mkF m 41 #[.val (.ref b2x4_14c5015), .val (.ref b5009), .val (.int (((((0 : Int32) + (((0 : Int32) + (1 : Int32)) + (1 : Int32))).toUInt32 >>> ((1 : Int32) &&& 31).toUInt32).toInt32) + (1 : Int32))), .unset] [(.int ((((0 : Int32) + (1 : Int32)) + (1 : Int32)) - (((((0 : Int32) + (((0 : Int32) + (1 : Int32)) + (1 : Int32))).toUInt32 >>> ((1 : Int32) &&& 31).toUInt32).toInt32) + (1 : Int32)))), (.int ((((((0 : Int32) + (((0 : Int32) + (1 : Int32)) + (1 : Int32))).toUInt32 >>> ((1 : Int32) &&& 31).toUInt32).toInt32) + (1 : Int32)) + (1 : Int32))), (.ref b2x5_18c4c5015), (.int (((((0 : Int32) + (((0 : Int32) + (1 : Int32)) + (1 : Int32))).toUInt32 >>> ((1 : Int32) &&& 31).toUInt32).toInt32) + (1 : Int32))), (.ref b2x5_18c4c5015)])) rfl (by rw [hml]; rfl) rfl (hb hby own_d9_41) (by decide) (W := 0) (by show 2 * 0 + _ ≤ _; exact Nat.le_of_eq rfl) (by decide)
        refine own_st st21 ?_
        refine own_st (fun t k => XS.aloadN X21.here hx rfl (hb hby own_d9_44) rfl rfl k) ?_
        show own_Go _ _ _ _ T21 (mkF m 45 #[.val (.ref b2x4_14c5015), .val (.ref b5009), .val (.int (((((0 : Int32) + (((0 : Int32) + (1 : Int32)) + (1 : Int32))).toUInt32 >>> ((1 : Int32) &&& 31).toUInt32).toInt32) + (1 : Int32))), .unset] [(.ref b2x4_14c5015)])
        obtain ⟨T23, X23, e23, st23⟩ := getF X21 hx hZ hown (host := "") (Or.inl (own_w hw 52 rfl)) Via.refl e21 Fc17_0_2 (g := (mkF m 45 #[.val (.ref b2x4_14c5015), .val (.ref b5009), .val (.int (((((0 : Int32) + (((0 : Int32) + (1 : Int32)) + (1 : Int32))).toUInt32 >>> ((1 : Int32) &&& 31).toUInt32).toInt32) + (1 : Int32))), .unset] [(.ref b2x4_14c5015)])) rfl rfl (hb hby own_d9_45)
        refine own_st st23 ?_
        show own_Go _ _ _ _ T23 (mkF m 48 #[.val (.ref b2x4_14c5015), .val (.ref b5009), .val (.int (((((0 : Int32) + (((0 : Int32) + (1 : Int32)) + (1 : Int32))).toUInt32 >>> ((1 : Int32) &&& 31).toUInt32).toInt32) + (1 : Int32))), .unset] [(.ref b2x5_18c4c5015)])
        refine own_st (fun t k => XS.iloadN X23.here hx rfl (hb hby own_d9_48) rfl k) ?_
        refine own_st (fun t k => XS.aloadN X23.here hx rfl (hb hby own_d9_49) rfl rfl k) ?_
        show own_Go _ _ _ _ T23 (mkF m 50 #[.val (.ref b2x4_14c5015), .val (.ref b5009), .val (.int (((((0 : Int32) + (((0 : Int32) + (1 : Int32)) + (1 : Int32))).toUInt32 >>> ((1 : Int32) &&& 31).toUInt32).toInt32) + (1 : Int32))), .unset] [(.ref b5009), (.int (((((0 : Int32) + (((0 : Int32) + (1 : Int32)) + (1 : Int32))).toUInt32 >>> ((1 : Int32) &&& 31).toUInt32).toInt32) + (1 : Int32))), (.ref b2x5_18c4c5015)])
        have Pd24 := f22.pad (pad_rep [(.ref b5001), (.ref b5005)] .null 1)
        obtain ⟨c24, A24, q24, S24, M24, H24, G24⟩ := Pd24
        have f25 := (f6.keep Kq17)
        obtain ⟨T24, h24, X24, e24, W24, st24⟩ := stR X23 hx hZ e23 A24 (j := (((((0 : Int32) + (((0 : Int32) + (1 : Int32)) + (1 : Int32))).toUInt32 >>> ((1 : Int32) &&& 31).toUInt32).toInt32) + (1 : Int32))) (inb_of S24 ⟨by decide, by decide⟩) rfl (Sto.ofV A24 q24 OFc5104_0_0 (Ins.self f25)) (g := (mkF m 50 #[.val (.ref b2x4_14c5015), .val (.ref b5009), .val (.int (((((0 : Int32) + (((0 : Int32) + (1 : Int32)) + (1 : Int32))).toUInt32 >>> ((1 : Int32) &&& 31).toUInt32).toInt32) + (1 : Int32))), .unset] [(.ref b5009), (.int (((((0 : Int32) + (((0 : Int32) + (1 : Int32)) + (1 : Int32))).toUInt32 >>> ((1 : Int32) &&& 31).toUInt32).toInt32) + (1 : Int32))), (.ref b2x5_18c4c5015)])) rfl rfl (hb hby own_d9_50)
        refine own_st st24 ?_
        have K24 : Keep h0 h24 [b2x4_14c5015, b2x5_18c4c5015] := K17.wr W24 (Or.inl (List.mem_of_getElem? (i := 1) rfl))
        have Z24 := Nat.le_trans Z17 (Keep.of_wr W24).1
        have N24 := Fr.snoc X24 N17 g_b2x5_18c4c5015
        have V24 : Arv Z h24 b2x5_18c4c5015 k2x5_18c4c5015c2c5044c2c5104 (.object own_s1) (64 : Int32) [(.ref b5001), (.ref b5005), (.ref b5009)] .null := Arv.set A24 q24 S24 M24 H24 G24 rfl W24 2 rfl (Nat.le_of_ble_eq_true rfl)
        refine own_st (fun t k => XS.aloadN X24.here hx rfl (hb hby own_d9_51) rfl rfl k) ?_
        show own_Go _ _ _ _ T24 (mkF m 52 #[.val (.ref b2x4_14c5015), .val (.ref b5009), .val (.int (((((0 : Int32) + (((0 : Int32) + (1 : Int32)) + (1 : Int32))).toUInt32 >>> ((1 : Int32) &&& 31).toUInt32).toInt32) + (1 : Int32))), .unset] [(.ref b2x4_14c5015)])
        refine own_st (fun t k => XS.dup X24.here hx rfl (hb hby own_d9_52) rfl rfl k) ?_
        show own_Go _ _ _ _ T24 (mkF m 53 #[.val (.ref b2x4_14c5015), .val (.ref b5009), .val (.int (((((0 : Int32) + (((0 : Int32) + (1 : Int32)) + (1 : Int32))).toUInt32 >>> ((1 : Int32) &&& 31).toUInt32).toInt32) + (1 : Int32))), .unset] [(.ref b2x4_14c5015), (.ref b2x4_14c5015)])
        have f26 := (Fc17_0_0.other W24 (Or.inl (ne_exa P13 P25 (by decide))))
        obtain ⟨T27, X27, e27, st27⟩ := getF X24 hx hZ hown (host := "") (Or.inl (own_w hw 77 rfl)) (Via.of (own_w hw 78 rfl)) e24 f26 (g := (mkF m 53 #[.val (.ref b2x4_14c5015), .val (.ref b5009), .val (.int (((((0 : Int32) + (((0 : Int32) + (1 : Int32)) + (1 : Int32))).toUInt32 >>> ((1 : Int32) &&& 31).toUInt32).toInt32) + (1 : Int32))), .unset] [(.ref b2x4_14c5015), (.ref b2x4_14c5015)])) rfl rfl (hb hby own_d9_53)
        refine own_st st27 ?_
        refine own_st (fun t k => XS.iconst X27.here hx rfl (hb hby own_d9_56) k) ?_
        refine own_st (fun t k => XS.iadd X27.here hx rfl (hb hby own_d9_57) rfl k) ?_
        show own_Go _ _ _ _ T27 (mkF m 58 #[.val (.ref b2x4_14c5015), .val (.ref b5009), .val (.int (((((0 : Int32) + (((0 : Int32) + (1 : Int32)) + (1 : Int32))).toUInt32 >>> ((1 : Int32) &&& 31).toUInt32).toInt32) + (1 : Int32))), .unset] [(.int ((((0 : Int32) + (1 : Int32)) + (1 : Int32)) + (1 : Int32))), (.ref b2x4_14c5015)])
        have f28 := (P13.keep K24)
        obtain ⟨T29, h29, X29, e29, W29, st29⟩ := putF X27 hx hZ hown (host := "") (Or.inl (own_w hw 77 rfl)) (Via.of (own_w hw 78 rfl)) e27 f26 f28 (Or.inl (own_w hw 79 rfl)) (own_w hw 34 rfl) (ty := .int) (by decide) rfl rfl (g := (mkF m 58 #[.val (.ref b2x4_14c5015), .val (.ref b5009), .val (.int (((((0 : Int32) + (((0 : Int32) + (1 : Int32)) + (1 : Int32))).toUInt32 >>> ((1 : Int32) &&& 31).toUInt32).toInt32) + (1 : Int32))), .unset] [(.int ((((0 : Int32) + (1 : Int32)) + (1 : Int32)) + (1 : Int32))), (.ref b2x4_14c5015)])) rfl rfl (hb hby own_d9_58)
        refine own_st st29 ?_
        have K29 : Keep h0 h29 [b2x4_14c5015, b2x5_18c4c5015] := K24.wr W29 (Or.inl (List.mem_of_getElem? (i := 0) rfl))
        have Z29 := Nat.le_trans Z24 (Keep.of_wr W29).1
        have N29 := Fr.snoc X29 N24 g_b2x4_14c5015
        have F29 := f26.same W29
        refine own_st (fun t k => XS.aconstNull X29.here hx rfl (hb hby own_d9_61) k) ?_
        show own_Go _ _ _ _ T29 (mkF m 62 #[.val (.ref b2x4_14c5015), .val (.ref b5009), .val (.int (((((0 : Int32) + (((0 : Int32) + (1 : Int32)) + (1 : Int32))).toUInt32 >>> ((1 : Int32) &&& 31).toUInt32).toInt32) + (1 : Int32))), .unset] [.null])
        have f30 := ((Fc17_0_2.other W24 (Or.inl (ne_exa P13 P25 (by decide)))).other W29 (Or.inr (slot_ne (Or.inr (own_w hw 53 rfl)) (Or.inl (own_w hw 79 rfl)) (by decide) (t := (.array (.object own_s1))) (t' := .int) (by decide) (by decide))))
        have f31 := ((Fc17_0_1.other W24 (Or.inl (ne_exa P13 P25 (by decide)))).other W29 (Or.inr (slot_ne (Or.inl (own_w hw 49 rfl)) (Or.inl (own_w hw 79 rfl)) (by decide) (t := (.object own_s2)) (t' := .int) (by decide) (by decide))))
        have f32 := ((Fc17_0_3.other W24 (Or.inl (ne_exa P13 P25 (by decide)))).other W29 (Or.inr (slot_ne (Or.inl (own_w hw 93 rfl)) (Or.inl (own_w hw 79 rfl)) (by decide) (t := .boolean) (t' := .int) (by decide) (by decide))))
        have f33 := (V24.other W29 (ne_exa P25 P13 (by decide)))
        exact own_retA X29 hx hlk hret rfl rfl (hb hby own_d9_62) (by decide) (by decide) e29 ⟨N29, K29, (Or.inl ⟨_, rfl, hq1_0_0, F29, f30, f31, f32, f33, OFc5104_0_0, trivial⟩)⟩
  · skip
    refine own_st (fun t k => st1.trans k) ?_
    refine own_st (fun t k => XS.istoreN X1.here hx rfl (hb hby own_d9_5) rfl (l' := #[.val (.ref b2x4_14c5015), .val (.ref b5009), .val (.int (((((0 : Int32) + ((((0 : Int32) + (((0 : Int32) + (1 : Int32)) + (1 : Int32))).toUInt32 >>> ((1 : Int32) &&& 31).toUInt32).toInt32)).toUInt32 >>> ((1 : Int32) &&& 31).toUInt32).toInt32) + (1 : Int32))), .unset]) rfl k) ?_
    show own_Go _ _ _ _ T1 (mkF m 6 #[.val (.ref b2x4_14c5015), .val (.ref b5009), .val (.int (((((0 : Int32) + ((((0 : Int32) + (((0 : Int32) + (1 : Int32)) + (1 : Int32))).toUInt32 >>> ((1 : Int32) &&& 31).toUInt32).toInt32)).toUInt32 >>> ((1 : Int32) &&& 31).toUInt32).toInt32) + (1 : Int32))), .unset] [])
    refine own_st (fun t k => XS.aloadN X1.here hx rfl (hb hby own_d9_6) rfl rfl k) ?_
    show own_Go _ _ _ _ T1 (mkF m 7 #[.val (.ref b2x4_14c5015), .val (.ref b5009), .val (.int (((((0 : Int32) + ((((0 : Int32) + (((0 : Int32) + (1 : Int32)) + (1 : Int32))).toUInt32 >>> ((1 : Int32) &&& 31).toUInt32).toInt32)).toUInt32 >>> ((1 : Int32) &&& 31).toUInt32).toInt32) + (1 : Int32))), .unset] [(.ref b2x4_14c5015)])
    have f34 := (P0.keep Kq1 nin0)
    obtain ⟨T35, X35, e35, st35⟩ := getF X1 hx hZ hown (host := "") (Or.inl (own_w hw 77 rfl)) (Via.of (own_w hw 78 rfl)) rfl f34 (g := (mkF m 7 #[.val (.ref b2x4_14c5015), .val (.ref b5009), .val (.int (((((0 : Int32) + ((((0 : Int32) + (((0 : Int32) + (1 : Int32)) + (1 : Int32))).toUInt32 >>> ((1 : Int32) &&& 31).toUInt32).toInt32)).toUInt32 >>> ((1 : Int32) &&& 31).toUInt32).toInt32) + (1 : Int32))), .unset] [(.ref b2x4_14c5015)])) rfl rfl (hb hby own_d9_7)
    refine own_st st35 ?_
    refine own_st (fun t k => XS.bipush X35.here hx rfl (hb hby own_d9_10) k) ?_
    show own_Go _ _ _ _ T35 (mkF m 12 #[.val (.ref b2x4_14c5015), .val (.ref b5009), .val (.int (((((0 : Int32) + ((((0 : Int32) + (((0 : Int32) + (1 : Int32)) + (1 : Int32))).toUInt32 >>> ((1 : Int32) &&& 31).toUInt32).toInt32)).toUInt32 >>> ((1 : Int32) &&& 31).toUInt32).toInt32) + (1 : Int32))), .unset] [(.int (64 : Int32)), (.int (((0 : Int32) + (1 : Int32)) + (1 : Int32)))])
    refine own_st (fun t k => XS.icmpNo X35.here hx rfl (hb hby own_d9_12) rfl (tlt (by decide : (((0 : Int32) + (1 : Int32)) + (1 : Int32)) < (64 : Int32))).2.1 k) ?_
    show own_Go _ _ _ _ T35 (mkF m 15 #[.val (.ref b2x4_14c5015), .val (.ref b5009), .val (.int (((((0 : Int32) + ((((0 : Int32) + (((0 : Int32) + (1 : Int32)) + (1 : Int32))).toUInt32 >>> ((1 : Int32) &&& 31).toUInt32).toInt32)).toUInt32 >>> ((1 : Int32) &&& 31).toUInt32).toInt32) + (1 : Int32))), .unset] [])
    refine own_st (fun t k => XS.aloadN X35.here hx rfl (hb hby own_d9_15) rfl rfl k) ?_
    refine own_st (fun t k => XS.aloadN X35.here hx rfl (hb hby own_d9_16) rfl rfl k) ?_
    show own_Go _ _ _ _ T35 (mkF m 17 #[.val (.ref b2x4_14c5015), .val (.ref b5009), .val (.int (((((0 : Int32) + ((((0 : Int32) + (((0 : Int32) + (1 : Int32)) + (1 : Int32))).toUInt32 >>> ((1 : Int32) &&& 31).toUInt32).toInt32)).toUInt32 >>> ((1 : Int32) &&& 31).toUInt32).toInt32) + (1 : Int32))), .unset] [(.ref b5009), (.ref b2x4_14c5015)])
    have f36 := (P14.keep Kq1 nin0)
    have f38 := (P5.keep Kq1)
    obtain ⟨cq37, kq37, q37a, q37b, q37c⟩ := isOf hZ e35 f38
    obtain ⟨_, _, ⟨T37, L37, k37, n37⟩, -, X37, ⟨Lc37, hQ37, l37, y37, z37⟩, st37⟩ := X35.virtualBack hx (y := own_y0) (z := own_y0) hown (mvT hZ (own_w hw 80 rfl)) (mvT hZ (own_w hw 81 rfl)) (notFace_of_selects (args := #[]) (mvT hZ (own_w hw 83 rfl))) (mvT hZ (own_w hw 83 rfl)) (mvT hZ (own_w hw 82 rfl)) (by decide) (backOf (W := 1) (own_rm11 l Z a0 hw [] b5009 w_NONE T1.heap n0 Z1 f36) hZ (own_w hw 84 rfl) (own_w hw 5 rfl) (by decide) (by decide)) q37a q37c (g := (mkF m 17 #[.val (.ref b2x4_14c5015), .val (.ref b5009), .val (.int (((((0 : Int32) + ((((0 : Int32) + (((0 : Int32) + (1 : Int32)) + (1 : Int32))).toUInt32 >>> ((1 : Int32) &&& 31).toUInt32).toInt32)).toUInt32 >>> ((1 : Int32) &&& 31).toUInt32).toInt32) + (1 : Int32))), .unset] [(.ref b5009), (.ref b2x4_14c5015)])) rfl (by rw [hml]; rfl) (Steps.refl _) (argsL := []) (rest := [(.ref b2x4_14c5015)]) (lenOf own_pd5 rfl) rfl (by show 2 * 0 + _ ≤ _; exact Nat.le_of_eq rfl) (hb hby own_d9_17) (fun _ _ => ⟨rfl, e35, (by decide : 0 + 0 ≤ _), (by decide : 0 + 0 ≤ _)⟩)
    dsimp only [Pt.U, Pt.locs, Pt.cells, Pt.slots] at X37 l37 y37 z37 st37 hQ37
    subst l37 y37 z37
    obtain ⟨N37q, e37, hL37⟩ := hQ37
    have N37 := Fr.app N1 N37q
    rcases hL37 with ⟨rfl, -⟩
    · skip
      refine own_st (fun t k => st37.trans k) ?_
      show own_Go _ _ _ _ T37 (mkF m 20 #[.val (.ref b2x4_14c5015), .val (.ref b5009), .val (.int (((((0 : Int32) + ((((0 : Int32) + (((0 : Int32) + (1 : Int32)) + (1 : Int32))).toUInt32 >>> ((1 : Int32) &&& 31).toUInt32).toInt32)).toUInt32 >>> ((1 : Int32) &&& 31).toUInt32).toInt32) + (1 : Int32))), .unset] [(.ref w_NONE), (.ref b2x4_14c5015)])
      have f39 := (P15.keep Kq1 nin0)
      have f40 := (P16.keep Kq1 nin0)
      have f41 := (P17.keep Kq1 nin0)
      have f42 := (P19.keep Kq1 nin0)
      have f43 := (P20.keep Kq1 nin0)
      have f44 := (P21.keep Kq1)
      have f45 := (P22.keep Kq1)
      have f46 := (P13.keep Kq1)
      have f47 := (P1.keep Kq1 nin0)
      have f48 := (P23.keep Kq1 nin0)
      obtain ⟨cq49, kq49, q49a, q49b, q49c⟩ := isOf hZ e37 f46
      obtain ⟨_, _, ⟨T49, L49, k49, n49⟩, -, X49, ⟨Lc49, hQ49, l49, y49, z49⟩, st49⟩ := X37.virtualBackUp hx (owner := own_s0) (x := own_y14) (y := own_y6) hown (mvT hZ (own_w hw 85 rfl)) (mvT hZ (own_w hw 86 rfl)) (mvT hZ (own_w hw 87 rfl)) (by decide) (mvT hZ (own_w hw 89 rfl)) (mvT hZ (own_w hw 88 rfl)) (backOf (W := 0) (own_rm12_127 l Z a0 hw [] b2x4_14c5015 w_NONE b6x14_69c4c13c16c2c5084 b3x14_69c4c13c16c2c5084 k3x14_69c4c13c16c2c5084 w_NONE_names k_w_NONE_names b2x5_18c4c5015 T1.heap n0 Z1 f34 f39 f40 f41 OFc5084_0_9 f42 f43 f44 f45 f46 g_b2x4_14c5015 f47 f48) hZ (own_w hw 90 rfl) (own_w hw 42 rfl) (by decide) (by decide)) q49a q49c (g := (mkF m 20 #[.val (.ref b2x4_14c5015), .val (.ref b5009), .val (.int (((((0 : Int32) + ((((0 : Int32) + (((0 : Int32) + (1 : Int32)) + (1 : Int32))).toUInt32 >>> ((1 : Int32) &&& 31).toUInt32).toInt32)).toUInt32 >>> ((1 : Int32) &&& 31).toUInt32).toInt32) + (1 : Int32))), .unset] [(.ref w_NONE), (.ref b2x4_14c5015)])) rfl (by rw [hml]; rfl) (Steps.refl _) (argsL := [(.ref w_NONE)]) (rest := []) (lenOf own_pd10 rfl) rfl (by show 2 * 0 + _ ≤ _; exact Nat.le_of_eq rfl) (hb hby own_d9_20) (fun _ _ => ⟨rfl, e37, (by decide : 0 + 0 ≤ _), (by decide : 0 + 0 ≤ _)⟩)
      dsimp only [Pt.U, Pt.locs, Pt.cells, Pt.slots] at X49 l49 y49 z49 st49 hQ49
      subst l49 y49 z49
      obtain ⟨N49q, Kq49, hL49⟩ := hQ49
      have N49 := Fr.app N37 N49q
      have K49 : Keep h0 T49.heap [b2x4_14c5015, b2x5_18c4c5015] := K1.trans Kq49 (allS (Or.inl (List.mem_of_getElem? (i := 0) rfl)) all0)
      have Z49 := Nat.le_trans Z1 Kq49.1
      rcases hL49 with ⟨rfl, Fc49_0_0, Fc49_0_1, Fc49_0_2, Fc49_0_3, -⟩
      · skip
        refine own_st (fun t k => st49.trans k) ?_
        show own_Go _ _ _ _ T49 (mkF m 23 #[.val (.ref b2x4_14c5015), .val (.ref b5009), .val (.int (((((0 : Int32) + ((((0 : Int32) + (((0 : Int32) + (1 : Int32)) + (1 : Int32))).toUInt32 >>> ((1 : Int32) &&& 31).toUInt32).toInt32)).toUInt32 >>> ((1 : Int32) &&& 31).toUInt32).toInt32) + (1 : Int32))), .unset] [])
        refine own_st (fun t k => XS.aloadN X49.here hx rfl (hb hby own_d9_23) rfl rfl k) ?_
        show own_Go _ _ _ _ T49 (mkF m 24 #[.val (.ref b2x4_14c5015), .val (.ref b5009), .val (.int (((((0 : Int32) + ((((0 : Int32) + (((0 : Int32) + (1 : Int32)) + (1 : Int32))).toUInt32 >>> ((1 : Int32) &&& 31).toUInt32).toInt32)).toUInt32 >>> ((1 : Int32) &&& 31).toUInt32).toInt32) + (1 : Int32))), .unset] [(.ref b2x4_14c5015)])
        obtain ⟨T50, X50, e50, st50⟩ := getF X49 hx hZ hown (host := "") (Or.inl (own_w hw 52 rfl)) Via.refl rfl Fc49_0_2 (g := (mkF m 24 #[.val (.ref b2x4_14c5015), .val (.ref b5009), .val (.int (((((0 : Int32) + ((((0 : Int32) + (((0 : Int32) + (1 : Int32)) + (1 : Int32))).toUInt32 >>> ((1 : Int32) &&& 31).toUInt32).toInt32)).toUInt32 >>> ((1 : Int32) &&& 31).toUInt32).toInt32) + (1 : Int32))), .unset] [(.ref b2x4_14c5015)])) rfl rfl (hb hby own_d9_24)
        refine own_st st50 ?_
        refine own_st (fun t k => XS.iloadN X50.here hx rfl (hb hby own_d9_27) rfl k) ?_
        refine own_st (fun t k => XS.aloadN X50.here hx rfl (hb hby own_d9_28) rfl rfl k) ?_
        show own_Go _ _ _ _ T50 (mkF m 29 #[.val (.ref b2x4_14c5015), .val (.ref b5009), .val (.int (((((0 : Int32) + ((((0 : Int32) + (((0 : Int32) + (1 : Int32)) + (1 : Int32))).toUInt32 >>> ((1 : Int32) &&& 31).toUInt32).toInt32)).toUInt32 >>> ((1 : Int32) &&& 31).toUInt32).toInt32) + (1 : Int32))), .unset] [(.ref b2x4_14c5015), (.int (((((0 : Int32) + ((((0 : Int32) + (((0 : Int32) + (1 : Int32)) + (1 : Int32))).toUInt32 >>> ((1 : Int32) &&& 31).toUInt32).toInt32)).toUInt32 >>> ((1 : Int32) &&& 31).toUInt32).toInt32) + (1 : Int32))), (.ref b2x5_18c4c5015)])
        obtain ⟨T51, X51, e51, st51⟩ := getF X50 hx hZ hown (host := "") (Or.inl (own_w hw 52 rfl)) Via.refl e50 Fc49_0_2 (g := (mkF m 29 #[.val (.ref b2x4_14c5015), .val (.ref b5009), .val (.int (((((0 : Int32) + ((((0 : Int32) + (((0 : Int32) + (1 : Int32)) + (1 : Int32))).toUInt32 >>> ((1 : Int32) &&& 31).toUInt32).toInt32)).toUInt32 >>> ((1 : Int32) &&& 31).toUInt32).toInt32) + (1 : Int32))), .unset] [(.ref b2x4_14c5015), (.int (((((0 : Int32) + ((((0 : Int32) + (((0 : Int32) + (1 : Int32)) + (1 : Int32))).toUInt32 >>> ((1 : Int32) &&& 31).toUInt32).toInt32)).toUInt32 >>> ((1 : Int32) &&& 31).toUInt32).toInt32) + (1 : Int32))), (.ref b2x5_18c4c5015)])) rfl rfl (hb hby own_d9_29)
        refine own_st st51 ?_
        refine own_st (fun t k => XS.iloadN X51.here hx rfl (hb hby own_d9_32) rfl k) ?_
        refine own_st (fun t k => XS.iconst X51.here hx rfl (hb hby own_d9_33) k) ?_
        refine own_st (fun t k => XS.iadd X51.here hx rfl (hb hby own_d9_34) rfl k) ?_
        show own_Go _ _ _ _ T51 (mkF m 35 #[.val (.ref b2x4_14c5015), .val (.ref b5009), .val (.int (((((0 : Int32) + ((((0 : Int32) + (((0 : Int32) + (1 : Int32)) + (1 : Int32))).toUInt32 >>> ((1 : Int32) &&& 31).toUInt32).toInt32)).toUInt32 >>> ((1 : Int32) &&& 31).toUInt32).toInt32) + (1 : Int32))), .unset] [(.int ((((((0 : Int32) + ((((0 : Int32) + (((0 : Int32) + (1 : Int32)) + (1 : Int32))).toUInt32 >>> ((1 : Int32) &&& 31).toUInt32).toInt32)).toUInt32 >>> ((1 : Int32) &&& 31).toUInt32).toInt32) + (1 : Int32)) + (1 : Int32))), (.ref b2x5_18c4c5015), (.int (((((0 : Int32) + ((((0 : Int32) + (((0 : Int32) + (1 : Int32)) + (1 : Int32))).toUInt32 >>> ((1 : Int32) &&& 31).toUInt32).toInt32)).toUInt32 >>> ((1 : Int32) &&& 31).toUInt32).toInt32) + (1 : Int32))), (.ref b2x5_18c4c5015)])
        refine own_st (fun t k => XS.aloadN X51.here hx rfl (hb hby own_d9_35) rfl rfl k) ?_
        show own_Go _ _ _ _ T51 (mkF m 36 #[.val (.ref b2x4_14c5015), .val (.ref b5009), .val (.int (((((0 : Int32) + ((((0 : Int32) + (((0 : Int32) + (1 : Int32)) + (1 : Int32))).toUInt32 >>> ((1 : Int32) &&& 31).toUInt32).toInt32)).toUInt32 >>> ((1 : Int32) &&& 31).toUInt32).toInt32) + (1 : Int32))), .unset] [(.ref b2x4_14c5015), (.int ((((((0 : Int32) + ((((0 : Int32) + (((0 : Int32) + (1 : Int32)) + (1 : Int32))).toUInt32 >>> ((1 : Int32) &&& 31).toUInt32).toInt32)).toUInt32 >>> ((1 : Int32) &&& 31).toUInt32).toInt32) + (1 : Int32)) + (1 : Int32))), (.ref b2x5_18c4c5015), (.int (((((0 : Int32) + ((((0 : Int32) + (((0 : Int32) + (1 : Int32)) + (1 : Int32))).toUInt32 >>> ((1 : Int32) &&& 31).toUInt32).toInt32)).toUInt32 >>> ((1 : Int32) &&& 31).toUInt32).toInt32) + (1 : Int32))), (.ref b2x5_18c4c5015)])
        obtain ⟨T52, X52, e52, st52⟩ := getF X51 hx hZ hown (host := "") (Or.inl (own_w hw 77 rfl)) (Via.of (own_w hw 78 rfl)) e51 Fc49_0_0 (g := (mkF m 36 #[.val (.ref b2x4_14c5015), .val (.ref b5009), .val (.int (((((0 : Int32) + ((((0 : Int32) + (((0 : Int32) + (1 : Int32)) + (1 : Int32))).toUInt32 >>> ((1 : Int32) &&& 31).toUInt32).toInt32)).toUInt32 >>> ((1 : Int32) &&& 31).toUInt32).toInt32) + (1 : Int32))), .unset] [(.ref b2x4_14c5015), (.int ((((((0 : Int32) + ((((0 : Int32) + (((0 : Int32) + (1 : Int32)) + (1 : Int32))).toUInt32 >>> ((1 : Int32) &&& 31).toUInt32).toInt32)).toUInt32 >>> ((1 : Int32) &&& 31).toUInt32).toInt32) + (1 : Int32)) + (1 : Int32))), (.ref b2x5_18c4c5015), (.int (((((0 : Int32) + ((((0 : Int32) + (((0 : Int32) + (1 : Int32)) + (1 : Int32))).toUInt32 >>> ((1 : Int32) &&& 31).toUInt32).toInt32)).toUInt32 >>> ((1 : Int32) &&& 31).toUInt32).toInt32) + (1 : Int32))), (.ref b2x5_18c4c5015)])) rfl rfl (hb hby own_d9_36)
        refine own_st st52 ?_
        refine own_st (fun t k => XS.iloadN X52.here hx rfl (hb hby own_d9_39) rfl k) ?_
        refine own_st (fun t k => XS.isub X52.here hx rfl (hb hby own_d9_40) rfl k) ?_
        show own_Go _ _ _ _ T52 (mkF m 41 #[.val (.ref b2x4_14c5015), .val (.ref b5009), .val (.int (((((0 : Int32) + ((((0 : Int32) + (((0 : Int32) + (1 : Int32)) + (1 : Int32))).toUInt32 >>> ((1 : Int32) &&& 31).toUInt32).toInt32)).toUInt32 >>> ((1 : Int32) &&& 31).toUInt32).toInt32) + (1 : Int32))), .unset] [(.int ((((0 : Int32) + (1 : Int32)) + (1 : Int32)) - (((((0 : Int32) + ((((0 : Int32) + (((0 : Int32) + (1 : Int32)) + (1 : Int32))).toUInt32 >>> ((1 : Int32) &&& 31).toUInt32).toInt32)).toUInt32 >>> ((1 : Int32) &&& 31).toUInt32).toInt32) + (1 : Int32)))), (.int ((((((0 : Int32) + ((((0 : Int32) + (((0 : Int32) + (1 : Int32)) + (1 : Int32))).toUInt32 >>> ((1 : Int32) &&& 31).toUInt32).toInt32)).toUInt32 >>> ((1 : Int32) &&& 31).toUInt32).toInt32) + (1 : Int32)) + (1 : Int32))), (.ref b2x5_18c4c5015), (.int (((((0 : Int32) + ((((0 : Int32) + (((0 : Int32) + (1 : Int32)) + (1 : Int32))).toUInt32 >>> ((1 : Int32) &&& 31).toUInt32).toInt32)).toUInt32 >>> ((1 : Int32) &&& 31).toUInt32).toInt32) + (1 : Int32))), (.ref b2x5_18c4c5015)])
        have f54 := ((P2.keep Kq1 nin0).keep Kq49 (ninS (ne_exa P25 P13 (by decide)) nin0))
        have Pd53 := f54.pad (pad_rep [(.ref b5001), (.ref b5005)] .null 1)
        have f55 := (P9.keep K49)
        obtain ⟨T53, h53, L53, X53, e53, N53, Kq53, V53', st53⟩ := cpA X52 hx hZ hown (own_w hw 118 rfl) (own_w hw 121 rfl) (own_w hw 119 rfl) (own_w hw 120 rfl) e52 f54 Pd53 (Or.inr ⟨rfl, rfl, ⟨(own_sto Pd53 OFc5104_0_0 (Ins.self f55)), trivial⟩⟩) (sp := (((((0 : Int32) + ((((0 : Int32) + (((0 : Int32) + (1 : Int32)) + (1 : Int32))).toUInt32 >>> ((1 : Int32) &&& 31).toUInt32).toInt32)).toUInt32 >>> ((1 : Int32) &&& 31).toUInt32).toInt32) + (1 : Int32))) (dp := ((((((0 : Int32) + ((((0 : Int32) + (((0 : Int32) + (1 : Int32)) + (1 : Int32))).toUInt32 >>> ((1 : Int32) &&& 31).toUInt32).toInt32)).toUInt32 >>> ((1 : Int32) &&& 31).toUInt32).toInt32) + (1 : Int32)) + (1 : Int32))) (nn := ((((0 : Int32) + (1 : Int32)) + (1 : Int32)) - (((((0 : Int32) + ((((0 : Int32) + (((0 : Int32) + (1 : Int32)) + (1 : Int32))).toUInt32 >>> ((1 : Int32) &&& 31).toUInt32).toInt32)).toUInt32 >>> ((1 : Int32) &&& 31).toUInt32).toInt32) + (1 : Int32)))) (by decide) (by decide) (by decide) (by decide) (by decide) (us := [(.ref b5005)]) rfl (Nat.le_of_ble_eq_true rfl) N49 g_b2x5_18c4c5015 (g := (mkF m 41 #[.val (.ref b2x4_14c5015), .val (.ref b5009), .val (.int (((((0 : Int32) + ((((0 : Int32) + (((0 : Int32) + (1 : Int32)) + (1 : Int32))).toUInt32 >>> ((1 : Int32) &&& 31).toUInt32).toInt32)).toUInt32 >>> ((1 : Int32) &&& 31).toUInt32).toInt32) + (1 : Int32))), .unset] [(.int ((((0 : Int32) + (1 : Int32)) + (1 : Int32)) - (((((0 : Int32) + ((((0 : Int32) + (((0 : Int32) + (1 : Int32)) + (1 : Int32))).toUInt32 >>> ((1 : Int32) &&& 31).toUInt32).toInt32)).toUInt32 >>> ((1 : Int32) &&& 31).toUInt32).toInt32) + (1 : Int32)))), (.int ((((((0 : Int32) + ((((0 : Int32) + (((0 : Int32) + (1 : Int32)) + (1 : Int32))).toUInt32 >>> ((1 : Int32) &&& 31).toUInt32).toInt32)).toUInt32 >>> ((1 : Int32) &&& 31).toUInt32).toInt32) + (1 : Int32)) + (1 : Int32))), (.ref b2x5_18c4c5015), (.int (((((0 : Int32) + ((((0 : Int32) + (((0 : Int32) + (1 : Int32)) + (1 : Int32))).toUInt32 >>> ((1 : Int32) &&& 31).toUInt32).toInt32)).toUInt32 >>> ((1 : Int32) &&& 31).toUInt32).toInt32) + (1 : Int32))), (.ref b2x5_18c4c5015)])) rfl (by rw [hml]; rfl) rfl (hb hby own_d9_41) (by decide) (W := 0) (by show 2 * 0 + _ ≤ _; exact Nat.le_of_eq rfl) (by decide)
        have V53 : Arv Z h53 b2x5_18c4c5015 k2x5_18c4c5015c2c5044c2c5104 (.object own_s1) (64 : Int32) [(.ref b5001), (.ref b5005), (.ref b5005)] .null := V53'
        refine own_st st53 ?_
        have K53 : Keep h0 h53 [b2x4_14c5015, b2x5_18c4c5015] := K49.trans Kq53 (allS (Or.inl (List.mem_of_getElem? (i := 1) rfl)) all0)
        have Z53 := Nat.le_trans Z49 Kq53.1
        refine own_st (fun t k => XS.aloadN X53.here hx rfl (hb hby own_d9_44) rfl rfl k) ?_
        show own_Go _ _ _ _ T53 (mkF m 45 #[.val (.ref b2x4_14c5015), .val (.ref b5009), .val (.int (((((0 : Int32) + ((((0 : Int32) + (((0 : Int32) + (1 : Int32)) + (1 : Int32))).toUInt32 >>> ((1 : Int32) &&& 31).toUInt32).toInt32)).toUInt32 >>> ((1 : Int32) &&& 31).toUInt32).toInt32) + (1 : Int32))), .unset] [(.ref b2x4_14c5015)])
        have f56 := (Fc49_0_2.keep Kq53 (ninS (ne_exa P13 P25 (by decide)) nin0))
        obtain ⟨T57, X57, e57, st57⟩ := getF X53 hx hZ hown (host := "") (Or.inl (own_w hw 52 rfl)) Via.refl e53 f56 (g := (mkF m 45 #[.val (.ref b2x4_14c5015), .val (.ref b5009), .val (.int (((((0 : Int32) + ((((0 : Int32) + (((0 : Int32) + (1 : Int32)) + (1 : Int32))).toUInt32 >>> ((1 : Int32) &&& 31).toUInt32).toInt32)).toUInt32 >>> ((1 : Int32) &&& 31).toUInt32).toInt32) + (1 : Int32))), .unset] [(.ref b2x4_14c5015)])) rfl rfl (hb hby own_d9_45)
        refine own_st st57 ?_
        refine own_st (fun t k => XS.iloadN X57.here hx rfl (hb hby own_d9_48) rfl k) ?_
        show own_Go _ _ _ _ T57 (mkF m 49 #[.val (.ref b2x4_14c5015), .val (.ref b5009), .val (.int (((((0 : Int32) + ((((0 : Int32) + (((0 : Int32) + (1 : Int32)) + (1 : Int32))).toUInt32 >>> ((1 : Int32) &&& 31).toUInt32).toInt32)).toUInt32 >>> ((1 : Int32) &&& 31).toUInt32).toInt32) + (1 : Int32))), .unset] [(.int (((((0 : Int32) + ((((0 : Int32) + (((0 : Int32) + (1 : Int32)) + (1 : Int32))).toUInt32 >>> ((1 : Int32) &&& 31).toUInt32).toInt32)).toUInt32 >>> ((1 : Int32) &&& 31).toUInt32).toInt32) + (1 : Int32))), (.ref b2x5_18c4c5015)])
        refine own_st (fun t k => XS.aloadN X57.here hx rfl (hb hby own_d9_49) rfl rfl k) ?_
        show own_Go _ _ _ _ T57 (mkF m 50 #[.val (.ref b2x4_14c5015), .val (.ref b5009), .val (.int (((((0 : Int32) + ((((0 : Int32) + (((0 : Int32) + (1 : Int32)) + (1 : Int32))).toUInt32 >>> ((1 : Int32) &&& 31).toUInt32).toInt32)).toUInt32 >>> ((1 : Int32) &&& 31).toUInt32).toInt32) + (1 : Int32))), .unset] [(.ref b5009), (.int (((((0 : Int32) + ((((0 : Int32) + (((0 : Int32) + (1 : Int32)) + (1 : Int32))).toUInt32 >>> ((1 : Int32) &&& 31).toUInt32).toInt32)).toUInt32 >>> ((1 : Int32) &&& 31).toUInt32).toInt32) + (1 : Int32))), (.ref b2x5_18c4c5015)])
        obtain ⟨c58, A58, q58, S58, M58, H58, G58⟩ := V53
        have f59 := (P5.keep K53)
        obtain ⟨T58, h58, X58, e58, W58, st58⟩ := stR X57 hx hZ e57 A58 (j := (((((0 : Int32) + ((((0 : Int32) + (((0 : Int32) + (1 : Int32)) + (1 : Int32))).toUInt32 >>> ((1 : Int32) &&& 31).toUInt32).toInt32)).toUInt32 >>> ((1 : Int32) &&& 31).toUInt32).toInt32) + (1 : Int32))) (inb_of S58 ⟨by decide, by decide⟩) rfl (Sto.ofV A58 q58 OFc5104_0_0 (Ins.self f59)) (g := (mkF m 50 #[.val (.ref b2x4_14c5015), .val (.ref b5009), .val (.int (((((0 : Int32) + ((((0 : Int32) + (((0 : Int32) + (1 : Int32)) + (1 : Int32))).toUInt32 >>> ((1 : Int32) &&& 31).toUInt32).toInt32)).toUInt32 >>> ((1 : Int32) &&& 31).toUInt32).toInt32) + (1 : Int32))), .unset] [(.ref b5009), (.int (((((0 : Int32) + ((((0 : Int32) + (((0 : Int32) + (1 : Int32)) + (1 : Int32))).toUInt32 >>> ((1 : Int32) &&& 31).toUInt32).toInt32)).toUInt32 >>> ((1 : Int32) &&& 31).toUInt32).toInt32) + (1 : Int32))), (.ref b2x5_18c4c5015)])) rfl rfl (hb hby own_d9_50)
        refine own_st st58 ?_
        have K58 : Keep h0 h58 [b2x4_14c5015, b2x5_18c4c5015] := K53.wr W58 (Or.inl (List.mem_of_getElem? (i := 1) rfl))
        have Z58 := Nat.le_trans Z53 (Keep.of_wr W58).1
        have N58 := Fr.snoc X58 N53 g_b2x5_18c4c5015
        have V58 : Arv Z h58 b2x5_18c4c5015 k2x5_18c4c5015c2c5044c2c5104 (.object own_s1) (64 : Int32) [(.ref b5001), (.ref b5009), (.ref b5005)] .null := Arv.set A58 q58 S58 M58 H58 G58 rfl W58 1 rfl (Nat.le_of_ble_eq_true rfl)
        refine own_st (fun t k => XS.aloadN X58.here hx rfl (hb hby own_d9_51) rfl rfl k) ?_
        refine own_st (fun t k => XS.dup X58.here hx rfl (hb hby own_d9_52) rfl rfl k) ?_
        show own_Go _ _ _ _ T58 (mkF m 53 #[.val (.ref b2x4_14c5015), .val (.ref b5009), .val (.int (((((0 : Int32) + ((((0 : Int32) + (((0 : Int32) + (1 : Int32)) + (1 : Int32))).toUInt32 >>> ((1 : Int32) &&& 31).toUInt32).toInt32)).toUInt32 >>> ((1 : Int32) &&& 31).toUInt32).toInt32) + (1 : Int32))), .unset] [(.ref b2x4_14c5015), (.ref b2x4_14c5015)])
        have f60 := ((Fc49_0_0.keep Kq53 (ninS (ne_exa P13 P25 (by decide)) nin0)).other W58 (Or.inl (ne_exa P13 P25 (by decide))))
        obtain ⟨T61, X61, e61, st61⟩ := getF X58 hx hZ hown (host := "") (Or.inl (own_w hw 77 rfl)) (Via.of (own_w hw 78 rfl)) e58 f60 (g := (mkF m 53 #[.val (.ref b2x4_14c5015), .val (.ref b5009), .val (.int (((((0 : Int32) + ((((0 : Int32) + (((0 : Int32) + (1 : Int32)) + (1 : Int32))).toUInt32 >>> ((1 : Int32) &&& 31).toUInt32).toInt32)).toUInt32 >>> ((1 : Int32) &&& 31).toUInt32).toInt32) + (1 : Int32))), .unset] [(.ref b2x4_14c5015), (.ref b2x4_14c5015)])) rfl rfl (hb hby own_d9_53)
        refine own_st st61 ?_
        refine own_st (fun t k => XS.iconst X61.here hx rfl (hb hby own_d9_56) k) ?_
        refine own_st (fun t k => XS.iadd X61.here hx rfl (hb hby own_d9_57) rfl k) ?_
        show own_Go _ _ _ _ T61 (mkF m 58 #[.val (.ref b2x4_14c5015), .val (.ref b5009), .val (.int (((((0 : Int32) + ((((0 : Int32) + (((0 : Int32) + (1 : Int32)) + (1 : Int32))).toUInt32 >>> ((1 : Int32) &&& 31).toUInt32).toInt32)).toUInt32 >>> ((1 : Int32) &&& 31).toUInt32).toInt32) + (1 : Int32))), .unset] [(.int ((((0 : Int32) + (1 : Int32)) + (1 : Int32)) + (1 : Int32))), (.ref b2x4_14c5015)])
        have f62 := (P13.keep K58)
        obtain ⟨T63, h63, X63, e63, W63, st63⟩ := putF X61 hx hZ hown (host := "") (Or.inl (own_w hw 77 rfl)) (Via.of (own_w hw 78 rfl)) e61 f60 f62 (Or.inl (own_w hw 79 rfl)) (own_w hw 34 rfl) (ty := .int) (by decide) rfl rfl (g := (mkF m 58 #[.val (.ref b2x4_14c5015), .val (.ref b5009), .val (.int (((((0 : Int32) + ((((0 : Int32) + (((0 : Int32) + (1 : Int32)) + (1 : Int32))).toUInt32 >>> ((1 : Int32) &&& 31).toUInt32).toInt32)).toUInt32 >>> ((1 : Int32) &&& 31).toUInt32).toInt32) + (1 : Int32))), .unset] [(.int ((((0 : Int32) + (1 : Int32)) + (1 : Int32)) + (1 : Int32))), (.ref b2x4_14c5015)])) rfl rfl (hb hby own_d9_58)
        refine own_st st63 ?_
        have K63 : Keep h0 h63 [b2x4_14c5015, b2x5_18c4c5015] := K58.wr W63 (Or.inl (List.mem_of_getElem? (i := 0) rfl))
        have Z63 := Nat.le_trans Z58 (Keep.of_wr W63).1
        have N63 := Fr.snoc X63 N58 g_b2x4_14c5015
        have F63 := f60.same W63
        show own_Go _ _ _ _ T63 (mkF m 61 #[.val (.ref b2x4_14c5015), .val (.ref b5009), .val (.int (((((0 : Int32) + ((((0 : Int32) + (((0 : Int32) + (1 : Int32)) + (1 : Int32))).toUInt32 >>> ((1 : Int32) &&& 31).toUInt32).toInt32)).toUInt32 >>> ((1 : Int32) &&& 31).toUInt32).toInt32) + (1 : Int32))), .unset] [])
        refine own_st (fun t k => XS.aconstNull X63.here hx rfl (hb hby own_d9_61) k) ?_
        show own_Go _ _ _ _ T63 (mkF m 62 #[.val (.ref b2x4_14c5015), .val (.ref b5009), .val (.int (((((0 : Int32) + ((((0 : Int32) + (((0 : Int32) + (1 : Int32)) + (1 : Int32))).toUInt32 >>> ((1 : Int32) &&& 31).toUInt32).toInt32)).toUInt32 >>> ((1 : Int32) &&& 31).toUInt32).toInt32) + (1 : Int32))), .unset] [.null])
        have f64 := ((f56.other W58 (Or.inl (ne_exa P13 P25 (by decide)))).other W63 (Or.inr (slot_ne (Or.inr (own_w hw 53 rfl)) (Or.inl (own_w hw 79 rfl)) (by decide) (t := (.array (.object own_s1))) (t' := .int) (by decide) (by decide))))
        have f65 := (((Fc49_0_1.keep Kq53 (ninS (ne_exa P13 P25 (by decide)) nin0)).other W58 (Or.inl (ne_exa P13 P25 (by decide)))).other W63 (Or.inr (slot_ne (Or.inl (own_w hw 49 rfl)) (Or.inl (own_w hw 79 rfl)) (by decide) (t := (.object own_s2)) (t' := .int) (by decide) (by decide))))
        have f66 := (((Fc49_0_3.keep Kq53 (ninS (ne_exa P13 P25 (by decide)) nin0)).other W58 (Or.inl (ne_exa P13 P25 (by decide)))).other W63 (Or.inr (slot_ne (Or.inl (own_w hw 93 rfl)) (Or.inl (own_w hw 79 rfl)) (by decide) (t := .boolean) (t' := .int) (by decide) (by decide))))
        have f67 := (V58.other W63 (ne_exa P25 P13 (by decide)))
        exact own_retA X63 hx hlk hret rfl rfl (hb hby own_d9_62) (by decide) (by decide) e63 ⟨N63, K63, (Or.inr (Or.inl ⟨_, rfl, hq1_1_0, hq1_1_1, F63, f64, f65, f66, f67, OFc5104_0_0, trivial⟩))⟩
  · skip
    refine own_st (fun t k => st1.trans k) ?_
    refine own_st (fun t k => XS.istoreN X1.here hx rfl (hb hby own_d9_5) rfl (l' := #[.val (.ref b2x4_14c5015), .val (.ref b5009), .val (.int (0 : Int32)), .unset]) rfl k) ?_
    refine own_st (fun t k => XS.aloadN X1.here hx rfl (hb hby own_d9_6) rfl rfl k) ?_
    show own_Go _ _ _ _ T1 (mkF m 7 #[.val (.ref b2x4_14c5015), .val (.ref b5009), .val (.int (0 : Int32)), .unset] [(.ref b2x4_14c5015)])
    have f68 := (P0.keep Kq1 nin0)
    obtain ⟨T69, X69, e69, st69⟩ := getF X1 hx hZ hown (host := "") (Or.inl (own_w hw 77 rfl)) (Via.of (own_w hw 78 rfl)) rfl f68 (g := (mkF m 7 #[.val (.ref b2x4_14c5015), .val (.ref b5009), .val (.int (0 : Int32)), .unset] [(.ref b2x4_14c5015)])) rfl rfl (hb hby own_d9_7)
    refine own_st st69 ?_
    refine own_st (fun t k => XS.bipush X69.here hx rfl (hb hby own_d9_10) k) ?_
    show own_Go _ _ _ _ T69 (mkF m 12 #[.val (.ref b2x4_14c5015), .val (.ref b5009), .val (.int (0 : Int32)), .unset] [(.int (64 : Int32)), (.int (((0 : Int32) + (1 : Int32)) + (1 : Int32)))])
    refine own_st (fun t k => XS.icmpNo X69.here hx rfl (hb hby own_d9_12) rfl (tlt (by decide : (((0 : Int32) + (1 : Int32)) + (1 : Int32)) < (64 : Int32))).2.1 k) ?_
    refine own_st (fun t k => XS.aloadN X69.here hx rfl (hb hby own_d9_15) rfl rfl k) ?_
    show own_Go _ _ _ _ T69 (mkF m 16 #[.val (.ref b2x4_14c5015), .val (.ref b5009), .val (.int (0 : Int32)), .unset] [(.ref b2x4_14c5015)])
    refine own_st (fun t k => XS.aloadN X69.here hx rfl (hb hby own_d9_16) rfl rfl k) ?_
    show own_Go _ _ _ _ T69 (mkF m 17 #[.val (.ref b2x4_14c5015), .val (.ref b5009), .val (.int (0 : Int32)), .unset] [(.ref b5009), (.ref b2x4_14c5015)])
    have f70 := (P14.keep Kq1 nin0)
    have f72 := (P5.keep Kq1)
    obtain ⟨cq71, kq71, q71a, q71b, q71c⟩ := isOf hZ e69 f72
    obtain ⟨_, _, ⟨T71, L71, k71, n71⟩, -, X71, ⟨Lc71, hQ71, l71, y71, z71⟩, st71⟩ := X69.virtualBack hx (y := own_y0) (z := own_y0) hown (mvT hZ (own_w hw 80 rfl)) (mvT hZ (own_w hw 81 rfl)) (notFace_of_selects (args := #[]) (mvT hZ (own_w hw 83 rfl))) (mvT hZ (own_w hw 83 rfl)) (mvT hZ (own_w hw 82 rfl)) (by decide) (backOf (W := 1) (own_rm11 l Z a0 hw [] b5009 w_NONE T1.heap n0 Z1 f70) hZ (own_w hw 84 rfl) (own_w hw 5 rfl) (by decide) (by decide)) q71a q71c (g := (mkF m 17 #[.val (.ref b2x4_14c5015), .val (.ref b5009), .val (.int (0 : Int32)), .unset] [(.ref b5009), (.ref b2x4_14c5015)])) rfl (by rw [hml]; rfl) (Steps.refl _) (argsL := []) (rest := [(.ref b2x4_14c5015)]) (lenOf own_pd5 rfl) rfl (by show 2 * 0 + _ ≤ _; exact Nat.le_of_eq rfl) (hb hby own_d9_17) (fun _ _ => ⟨rfl, e69, (by decide : 0 + 0 ≤ _), (by decide : 0 + 0 ≤ _)⟩)
    dsimp only [Pt.U, Pt.locs, Pt.cells, Pt.slots] at X71 l71 y71 z71 st71 hQ71
    subst l71 y71 z71
    obtain ⟨N71q, e71, hL71⟩ := hQ71
    have N71 := Fr.app N1 N71q
    rcases hL71 with ⟨rfl, -⟩
    · skip
      refine own_st (fun t k => st71.trans k) ?_
      show own_Go _ _ _ _ T71 (mkF m 20 #[.val (.ref b2x4_14c5015), .val (.ref b5009), .val (.int (0 : Int32)), .unset] [(.ref w_NONE), (.ref b2x4_14c5015)])
      have f73 := (P15.keep Kq1 nin0)
      have f74 := (P16.keep Kq1 nin0)
      have f75 := (P17.keep Kq1 nin0)
      have f76 := (P19.keep Kq1 nin0)
      have f77 := (P20.keep Kq1 nin0)
      have f78 := (P21.keep Kq1)
      have f79 := (P22.keep Kq1)
      have f80 := (P13.keep Kq1)
      have f81 := (P1.keep Kq1 nin0)
      have f82 := (P23.keep Kq1 nin0)
      obtain ⟨cq83, kq83, q83a, q83b, q83c⟩ := isOf hZ e71 f80
      obtain ⟨_, _, ⟨T83, L83, k83, n83⟩, -, X83, ⟨Lc83, hQ83, l83, y83, z83⟩, st83⟩ := X71.virtualBackUp hx (owner := own_s0) (x := own_y14) (y := own_y6) hown (mvT hZ (own_w hw 85 rfl)) (mvT hZ (own_w hw 86 rfl)) (mvT hZ (own_w hw 87 rfl)) (by decide) (mvT hZ (own_w hw 89 rfl)) (mvT hZ (own_w hw 88 rfl)) (backOf (W := 0) (own_rm12_127 l Z a0 hw [] b2x4_14c5015 w_NONE b6x14_69c4c13c16c2c5084 b3x14_69c4c13c16c2c5084 k3x14_69c4c13c16c2c5084 w_NONE_names k_w_NONE_names b2x5_18c4c5015 T1.heap n0 Z1 f68 f73 f74 f75 OFc5084_0_9 f76 f77 f78 f79 f80 g_b2x4_14c5015 f81 f82) hZ (own_w hw 90 rfl) (own_w hw 42 rfl) (by decide) (by decide)) q83a q83c (g := (mkF m 20 #[.val (.ref b2x4_14c5015), .val (.ref b5009), .val (.int (0 : Int32)), .unset] [(.ref w_NONE), (.ref b2x4_14c5015)])) rfl (by rw [hml]; rfl) (Steps.refl _) (argsL := [(.ref w_NONE)]) (rest := []) (lenOf own_pd10 rfl) rfl (by show 2 * 0 + _ ≤ _; exact Nat.le_of_eq rfl) (hb hby own_d9_20) (fun _ _ => ⟨rfl, e71, (by decide : 0 + 0 ≤ _), (by decide : 0 + 0 ≤ _)⟩)
      dsimp only [Pt.U, Pt.locs, Pt.cells, Pt.slots] at X83 l83 y83 z83 st83 hQ83
      subst l83 y83 z83
      obtain ⟨N83q, Kq83, hL83⟩ := hQ83
      have N83 := Fr.app N71 N83q
      have K83 : Keep h0 T83.heap [b2x4_14c5015, b2x5_18c4c5015] := K1.trans Kq83 (allS (Or.inl (List.mem_of_getElem? (i := 0) rfl)) all0)
      have Z83 := Nat.le_trans Z1 Kq83.1
      rcases hL83 with ⟨rfl, Fc83_0_0, Fc83_0_1, Fc83_0_2, Fc83_0_3, -⟩
      · skip
        refine own_st (fun t k => st83.trans k) ?_
        refine own_st (fun t k => XS.aloadN X83.here hx rfl (hb hby own_d9_23) rfl rfl k) ?_
        show own_Go _ _ _ _ T83 (mkF m 24 #[.val (.ref b2x4_14c5015), .val (.ref b5009), .val (.int (0 : Int32)), .unset] [(.ref b2x4_14c5015)])
        obtain ⟨T84, X84, e84, st84⟩ := getF X83 hx hZ hown (host := "") (Or.inl (own_w hw 52 rfl)) Via.refl rfl Fc83_0_2 (g := (mkF m 24 #[.val (.ref b2x4_14c5015), .val (.ref b5009), .val (.int (0 : Int32)), .unset] [(.ref b2x4_14c5015)])) rfl rfl (hb hby own_d9_24)
        refine own_st st84 ?_
        refine own_st (fun t k => XS.iloadN X84.here hx rfl (hb hby own_d9_27) rfl k) ?_
        refine own_st (fun t k => XS.aloadN X84.here hx rfl (hb hby own_d9_28) rfl rfl k) ?_
        show own_Go _ _ _ _ T84 (mkF m 29 #[.val (.ref b2x4_14c5015), .val (.ref b5009), .val (.int (0 : Int32)), .unset] [(.ref b2x4_14c5015), (.int (0 : Int32)), (.ref b2x5_18c4c5015)])
        obtain ⟨T85, X85, e85, st85⟩ := getF X84 hx hZ hown (host := "") (Or.inl (own_w hw 52 rfl)) Via.refl e84 Fc83_0_2 (g := (mkF m 29 #[.val (.ref b2x4_14c5015), .val (.ref b5009), .val (.int (0 : Int32)), .unset] [(.ref b2x4_14c5015), (.int (0 : Int32)), (.ref b2x5_18c4c5015)])) rfl rfl (hb hby own_d9_29)
        refine own_st st85 ?_
        show own_Go _ _ _ _ T85 (mkF m 32 #[.val (.ref b2x4_14c5015), .val (.ref b5009), .val (.int (0 : Int32)), .unset] [(.ref b2x5_18c4c5015), (.int (0 : Int32)), (.ref b2x5_18c4c5015)])
        refine own_st (fun t k => XS.iloadN X85.here hx rfl (hb hby own_d9_32) rfl k) ?_
        refine own_st (fun t k => XS.iconst X85.here hx rfl (hb hby own_d9_33) k) ?_
        refine own_st (fun t k => XS.iadd X85.here hx rfl (hb hby own_d9_34) rfl k) ?_
        refine own_st (fun t k => XS.aloadN X85.here hx rfl (hb hby own_d9_35) rfl rfl k) ?_
        show own_Go _ _ _ _ T85 (mkF m 36 #[.val (.ref b2x4_14c5015), .val (.ref b5009), .val (.int (0 : Int32)), .unset] [(.ref b2x4_14c5015), (.int ((0 : Int32) + (1 : Int32))), (.ref b2x5_18c4c5015), (.int (0 : Int32)), (.ref b2x5_18c4c5015)])
        obtain ⟨T86, X86, e86, st86⟩ := getF X85 hx hZ hown (host := "") (Or.inl (own_w hw 77 rfl)) (Via.of (own_w hw 78 rfl)) e85 Fc83_0_0 (g := (mkF m 36 #[.val (.ref b2x4_14c5015), .val (.ref b5009), .val (.int (0 : Int32)), .unset] [(.ref b2x4_14c5015), (.int ((0 : Int32) + (1 : Int32))), (.ref b2x5_18c4c5015), (.int (0 : Int32)), (.ref b2x5_18c4c5015)])) rfl rfl (hb hby own_d9_36)
        refine own_st st86 ?_
        refine own_st (fun t k => XS.iloadN X86.here hx rfl (hb hby own_d9_39) rfl k) ?_
        refine own_st (fun t k => XS.isub X86.here hx rfl (hb hby own_d9_40) rfl k) ?_
        show own_Go _ _ _ _ T86 (mkF m 41 #[.val (.ref b2x4_14c5015), .val (.ref b5009), .val (.int (0 : Int32)), .unset] [(.int ((((0 : Int32) + (1 : Int32)) + (1 : Int32)) - (0 : Int32))), (.int ((0 : Int32) + (1 : Int32))), (.ref b2x5_18c4c5015), (.int (0 : Int32)), (.ref b2x5_18c4c5015)])
        have f88 := ((P2.keep Kq1 nin0).keep Kq83 (ninS (ne_exa P25 P13 (by decide)) nin0))
        have Pd87 := f88.pad (pad_rep [(.ref b5001), (.ref b5005)] .null 1)
        have f89 := (P9.keep K83)
        have f90 := (P12.keep K83)
        obtain ⟨T87, h87, L87, X87, e87, N87, Kq87, V87', st87⟩ := cpA X86 hx hZ hown (own_w hw 118 rfl) (own_w hw 121 rfl) (own_w hw 119 rfl) (own_w hw 120 rfl) e86 f88 Pd87 (Or.inr ⟨rfl, rfl, ⟨(own_sto Pd87 OFc5104_0_0 (Ins.self f90)), ⟨(own_sto Pd87 OFc5104_0_0 (Ins.self f89)), trivial⟩⟩⟩) (sp := (0 : Int32)) (dp := ((0 : Int32) + (1 : Int32))) (nn := ((((0 : Int32) + (1 : Int32)) + (1 : Int32)) - (0 : Int32))) (by decide) (by decide) (by decide) (by decide) (by decide) (us := [(.ref b5001), (.ref b5005)]) rfl (Nat.le_of_ble_eq_true rfl) N83 g_b2x5_18c4c5015 (g := (mkF m 41 #[.val (.ref b2x4_14c5015), .val (.ref b5009), .val (.int (0 : Int32)), .unset] [(.int ((((0 : Int32) + (1 : Int32)) + (1 : Int32)) - (0 : Int32))), (.int ((0 : Int32) + (1 : Int32))), (.ref b2x5_18c4c5015), (.int (0 : Int32)), (.ref b2x5_18c4c5015)])) rfl (by rw [hml]; rfl) rfl (hb hby own_d9_41) (by decide) (W := 0) (by show 2 * 0 + _ ≤ _; exact Nat.le_of_eq rfl) (by decide)
        have V87 : Arv Z h87 b2x5_18c4c5015 k2x5_18c4c5015c2c5044c2c5104 (.object own_s1) (64 : Int32) [(.ref b5001), (.ref b5001), (.ref b5005)] .null := V87'
        refine own_st st87 ?_
        have K87 : Keep h0 h87 [b2x4_14c5015, b2x5_18c4c5015] := K83.trans Kq87 (allS (Or.inl (List.mem_of_getElem? (i := 1) rfl)) all0)
        have Z87 := Nat.le_trans Z83 Kq87.1
        show own_Go _ _ _ _ T87 (mkF m 44 #[.val (.ref b2x4_14c5015), .val (.ref b5009), .val (.int (0 : Int32)), .unset] [])
        refine own_st (fun t k => XS.aloadN X87.here hx rfl (hb hby own_d9_44) rfl rfl k) ?_
        show own_Go _ _ _ _ T87 (mkF m 45 #[.val (.ref b2x4_14c5015), .val (.ref b5009), .val (.int (0 : Int32)), .unset] [(.ref b2x4_14c5015)])
        have f91 := (Fc83_0_2.keep Kq87 (ninS (ne_exa P13 P25 (by decide)) nin0))
        obtain ⟨T92, X92, e92, st92⟩ := getF X87 hx hZ hown (host := "") (Or.inl (own_w hw 52 rfl)) Via.refl e87 f91 (g := (mkF m 45 #[.val (.ref b2x4_14c5015), .val (.ref b5009), .val (.int (0 : Int32)), .unset] [(.ref b2x4_14c5015)])) rfl rfl (hb hby own_d9_45)
        refine own_st st92 ?_
        refine own_st (fun t k => XS.iloadN X92.here hx rfl (hb hby own_d9_48) rfl k) ?_
        refine own_st (fun t k => XS.aloadN X92.here hx rfl (hb hby own_d9_49) rfl rfl k) ?_
        show own_Go _ _ _ _ T92 (mkF m 50 #[.val (.ref b2x4_14c5015), .val (.ref b5009), .val (.int (0 : Int32)), .unset] [(.ref b5009), (.int (0 : Int32)), (.ref b2x5_18c4c5015)])
        obtain ⟨c93, A93, q93, S93, M93, H93, G93⟩ := V87
        have f94 := (P5.keep K87)
        obtain ⟨T93, h93, X93, e93, W93, st93⟩ := stR X92 hx hZ e92 A93 (j := (0 : Int32)) (inb_of S93 ⟨by decide, by decide⟩) rfl (Sto.ofV A93 q93 OFc5104_0_0 (Ins.self f94)) (g := (mkF m 50 #[.val (.ref b2x4_14c5015), .val (.ref b5009), .val (.int (0 : Int32)), .unset] [(.ref b5009), (.int (0 : Int32)), (.ref b2x5_18c4c5015)])) rfl rfl (hb hby own_d9_50)
        refine own_st st93 ?_
        have K93 : Keep h0 h93 [b2x4_14c5015, b2x5_18c4c5015] := K87.wr W93 (Or.inl (List.mem_of_getElem? (i := 1) rfl))
        have Z93 := Nat.le_trans Z87 (Keep.of_wr W93).1
        have N93 := Fr.snoc X93 N87 g_b2x5_18c4c5015
        have V93 : Arv Z h93 b2x5_18c4c5015 k2x5_18c4c5015c2c5044c2c5104 (.object own_s1) (64 : Int32) [(.ref b5009), (.ref b5001), (.ref b5005)] .null := Arv.set A93 q93 S93 M93 H93 G93 rfl W93 0 rfl (Nat.le_of_ble_eq_true rfl)
        refine own_st (fun t k => XS.aloadN X93.here hx rfl (hb hby own_d9_51) rfl rfl k) ?_
        refine own_st (fun t k => XS.dup X93.here hx rfl (hb hby own_d9_52) rfl rfl k) ?_
        show own_Go _ _ _ _ T93 (mkF m 53 #[.val (.ref b2x4_14c5015), .val (.ref b5009), .val (.int (0 : Int32)), .unset] [(.ref b2x4_14c5015), (.ref b2x4_14c5015)])
        have f95 := ((Fc83_0_0.keep Kq87 (ninS (ne_exa P13 P25 (by decide)) nin0)).other W93 (Or.inl (ne_exa P13 P25 (by decide))))
        obtain ⟨T96, X96, e96, st96⟩ := getF X93 hx hZ hown (host := "") (Or.inl (own_w hw 77 rfl)) (Via.of (own_w hw 78 rfl)) e93 f95 (g := (mkF m 53 #[.val (.ref b2x4_14c5015), .val (.ref b5009), .val (.int (0 : Int32)), .unset] [(.ref b2x4_14c5015), (.ref b2x4_14c5015)])) rfl rfl (hb hby own_d9_53)
        refine own_st st96 ?_
        show own_Go _ _ _ _ T96 (mkF m 56 #[.val (.ref b2x4_14c5015), .val (.ref b5009), .val (.int (0 : Int32)), .unset] [(.int (((0 : Int32) + (1 : Int32)) + (1 : Int32))), (.ref b2x4_14c5015)])
        refine own_st (fun t k => XS.iconst X96.here hx rfl (hb hby own_d9_56) k) ?_
        refine own_st (fun t k => XS.iadd X96.here hx rfl (hb hby own_d9_57) rfl k) ?_
        show own_Go _ _ _ _ T96 (mkF m 58 #[.val (.ref b2x4_14c5015), .val (.ref b5009), .val (.int (0 : Int32)), .unset] [(.int ((((0 : Int32) + (1 : Int32)) + (1 : Int32)) + (1 : Int32))), (.ref b2x4_14c5015)])
        have f97 := (P13.keep K93)
        obtain ⟨T98, h98, X98, e98, W98, st98⟩ := putF X96 hx hZ hown (host := "") (Or.inl (own_w hw 77 rfl)) (Via.of (own_w hw 78 rfl)) e96 f95 f97 (Or.inl (own_w hw 79 rfl)) (own_w hw 34 rfl) (ty := .int) (by decide) rfl rfl (g := (mkF m 58 #[.val (.ref b2x4_14c5015), .val (.ref b5009), .val (.int (0 : Int32)), .unset] [(.int ((((0 : Int32) + (1 : Int32)) + (1 : Int32)) + (1 : Int32))), (.ref b2x4_14c5015)])) rfl rfl (hb hby own_d9_58)
        refine own_st st98 ?_
        have K98 : Keep h0 h98 [b2x4_14c5015, b2x5_18c4c5015] := K93.wr W98 (Or.inl (List.mem_of_getElem? (i := 0) rfl))
        have Z98 := Nat.le_trans Z93 (Keep.of_wr W98).1
        have N98 := Fr.snoc X98 N93 g_b2x4_14c5015
        have F98 := f95.same W98
        refine own_st (fun t k => XS.aconstNull X98.here hx rfl (hb hby own_d9_61) k) ?_
        show own_Go _ _ _ _ T98 (mkF m 62 #[.val (.ref b2x4_14c5015), .val (.ref b5009), .val (.int (0 : Int32)), .unset] [.null])
        have f99 := ((f91.other W93 (Or.inl (ne_exa P13 P25 (by decide)))).other W98 (Or.inr (slot_ne (Or.inr (own_w hw 53 rfl)) (Or.inl (own_w hw 79 rfl)) (by decide) (t := (.array (.object own_s1))) (t' := .int) (by decide) (by decide))))
        have f100 := (((Fc83_0_1.keep Kq87 (ninS (ne_exa P13 P25 (by decide)) nin0)).other W93 (Or.inl (ne_exa P13 P25 (by decide)))).other W98 (Or.inr (slot_ne (Or.inl (own_w hw 49 rfl)) (Or.inl (own_w hw 79 rfl)) (by decide) (t := (.object own_s2)) (t' := .int) (by decide) (by decide))))
        have f101 := (((Fc83_0_3.keep Kq87 (ninS (ne_exa P13 P25 (by decide)) nin0)).other W93 (Or.inl (ne_exa P13 P25 (by decide)))).other W98 (Or.inr (slot_ne (Or.inl (own_w hw 93 rfl)) (Or.inl (own_w hw 79 rfl)) (by decide) (t := .boolean) (t' := .int) (by decide) (by decide))))
        have f102 := (V93.other W98 (ne_exa P25 P13 (by decide)))
        exact own_retA X98 hx hlk hret rfl rfl (hb hby own_d9_62) (by decide) (by decide) e98 ⟨N98, K98, (Or.inr (Or.inr ⟨_, rfl, hq1_2_0, hq1_2_1, F98, f99, f100, f101, f102, OFc5104_0_0, trivial⟩))⟩
def own_Q8_119 (Z : State) (b5013 : Addr) (b5009 : Addr) (b2x4_14c5015 : Addr) (b2x5_18c4c5015 : Addr) (k2x5_18c4c5015c2c5044c2c5104 : ClassId) (b5001 : Addr) (b5005 : Addr) (j14 : Int64) (j18 : Int64) (j12 : Int64) (j16 : Int64) (jp1 : Int64) (jp4 : Int64) (w_NONE : Addr) (b6x14_69c4c13c16c2c5084 : Addr) (b3x14_69c4c13c16c2c5084 : Addr) (k3x14_69c4c13c16c2c5084 : ClassId) (w_NONE_names : Addr) (k_w_NONE_names : ClassId) (h0 : Heap) (n0 : Nat) (v : Option Value) (h : Heap) (L : List Loc) : Prop := Fr n0 L ∧ Keep h0 h [b2x5_18c4c5015, b2x4_14c5015, b5013] ∧ ((∃ k2x5_18c4c5015c2c5044c2c5104c2 : ClassId, v = none ∧ (own_lt j12 j16 j14 j18) ∧ Arv Z h b2x5_18c4c5015 k2x5_18c4c5015c2c5044c2c5104c2 (.object own_s1) (64 : Int32) [(.ref b5001), (.ref b5005), (.ref b5009)] .null ∧ Ovr Z k2x5_18c4c5015c2c5044c2c5104c2 own_s1 ∧ Fld Z h b2x4_14c5015 own_s0 "count" "I" (.int ((((0 : Int32) + (1 : Int32)) + (1 : Int32)) + (1 : Int32))) ∧ Fld Z h b2x4_14c5015 own_s5 "items" own_s8 (.ref b2x5_18c4c5015) ∧ Fld Z h b2x4_14c5015 own_s0 "least" own_s6 (.ref b6x14_69c4c13c16c2c5084) ∧ Fld Z h b2x4_14c5015 own_s0 "stale" "Z" (.int (0 : Int32)) ∧ Fld Z h b5013 own_s4 "root" "Lcom/example/lonborg/lonborg/ItemTree$Node;" (.ref b2x4_14c5015) ∧ Fld Z h b5013 own_s4 "size" "J" (.long ((((0 : Int64) + (1 : Int64)) + (1 : Int64)) + (1 : Int64))) ∧ True) ∨ (∃ k2x5_18c4c5015c2c5044c2c5104c2 : ClassId, v = none ∧ (¬ (own_lt j12 j16 j14 j18)) ∧ (own_lt jp1 jp4 j14 j18) ∧ Arv Z h b2x5_18c4c5015 k2x5_18c4c5015c2c5044c2c5104c2 (.object own_s1) (64 : Int32) [(.ref b5001), (.ref b5009), (.ref b5005)] .null ∧ Ovr Z k2x5_18c4c5015c2c5044c2c5104c2 own_s1 ∧ Fld Z h b2x4_14c5015 own_s0 "count" "I" (.int ((((0 : Int32) + (1 : Int32)) + (1 : Int32)) + (1 : Int32))) ∧ Fld Z h b2x4_14c5015 own_s5 "items" own_s8 (.ref b2x5_18c4c5015) ∧ Fld Z h b2x4_14c5015 own_s0 "least" own_s6 (.ref b6x14_69c4c13c16c2c5084) ∧ Fld Z h b2x4_14c5015 own_s0 "stale" "Z" (.int (0 : Int32)) ∧ Fld Z h b5013 own_s4 "root" "Lcom/example/lonborg/lonborg/ItemTree$Node;" (.ref b2x4_14c5015) ∧ Fld Z h b5013 own_s4 "size" "J" (.long ((((0 : Int64) + (1 : Int64)) + (1 : Int64)) + (1 : Int64))) ∧ True) ∨ (∃ k2x5_18c4c5015c2c5044c2c5104c2 : ClassId, v = none ∧ (¬ (own_lt j12 j16 j14 j18)) ∧ (¬ (own_lt jp1 jp4 j14 j18)) ∧ Arv Z h b2x5_18c4c5015 k2x5_18c4c5015c2c5044c2c5104c2 (.object own_s1) (64 : Int32) [(.ref b5009), (.ref b5001), (.ref b5005)] .null ∧ Ovr Z k2x5_18c4c5015c2c5044c2c5104c2 own_s1 ∧ Fld Z h b2x4_14c5015 own_s0 "count" "I" (.int ((((0 : Int32) + (1 : Int32)) + (1 : Int32)) + (1 : Int32))) ∧ Fld Z h b2x4_14c5015 own_s5 "items" own_s8 (.ref b2x5_18c4c5015) ∧ Fld Z h b2x4_14c5015 own_s0 "least" own_s6 (.ref b6x14_69c4c13c16c2c5084) ∧ Fld Z h b2x4_14c5015 own_s0 "stale" "Z" (.int (0 : Int32)) ∧ Fld Z h b5013 own_s4 "root" "Lcom/example/lonborg/lonborg/ItemTree$Node;" (.ref b2x4_14c5015) ∧ Fld Z h b5013 own_s4 "size" "J" (.long ((((0 : Int64) + (1 : Int64)) + (1 : Int64)) + (1 : Int64))) ∧ True))
set_option maxRecDepth 65536 in
set_option maxHeartbeats 40000000 in
theorem own_rm8_119 (l : Launch) (Z : State) (a0 : Array Value) (hw : ∀ d ∈ tables_1, d.before a0 Z = true) (ws : List Jvm.Cond) (b5013 : Addr) (b5009 : Addr) (b2x4_14c5015 : Addr) (b2x5_18c4c5015 : Addr) (k2x5_18c4c5015c2c5044c2c5104 : ClassId) (b5001 : Addr) (b5005 : Addr) (j14 : Int64) (j18 : Int64) (j12 : Int64) (j16 : Int64) (jp1 : Int64) (jp4 : Int64) (w_NONE : Addr) (b6x14_69c4c13c16c2c5084 : Addr) (b3x14_69c4c13c16c2c5084 : Addr) (k3x14_69c4c13c16c2c5084 : ClassId) (w_NONE_names : Addr) (k_w_NONE_names : ClassId) (h0 : Heap) (n0 : Nat) (Z0 : n0 ≤ h0.size) (P0 : Fld Z h0 b5013 own_s4 "root" "Lcom/example/lonborg/lonborg/ItemTree$Node;" (.ref b2x4_14c5015)) (P1 : Fld Z h0 b2x4_14c5015 own_s0 "count" "I" (.int (((0 : Int32) + (1 : Int32)) + (1 : Int32)))) (P2 : Fld Z h0 b2x4_14c5015 own_s5 "items" own_s8 (.ref b2x5_18c4c5015)) (P3 : Arv Z h0 b2x5_18c4c5015 k2x5_18c4c5015c2c5044c2c5104 (.object own_s1) (64 : Int32) [(.ref b5001), (.ref b5005)] .null) (OFc5104_0_0 : Ovr Z k2x5_18c4c5015c2c5044c2c5104 own_s1) (P5 : Fld Z h0 b5009 own_s1 "priority" "J" (.long j14)) (P6 : Exa Z h0 b5009 own_s1) (P7 : Fld Z h0 b5009 own_s1 "id" "J" (.long j18)) (P8 : Fld Z h0 b5005 own_s1 "priority" "J" (.long j12)) (P9 : Fld Z h0 b5005 own_s1 "id" "J" (.long j16)) (P10 : Exa Z h0 b5005 own_s1) (P11 : Fld Z h0 b5001 own_s1 "priority" "J" (.long jp1)) (P12 : Fld Z h0 b5001 own_s1 "id" "J" (.long jp4)) (P13 : Exa Z h0 b5001 own_s1) (P14 : Exa Z h0 b2x4_14c5015 own_s5) (P15 : Fld Z h0 b5009 own_s1 "needs" "Lcom/example/lonborg/lonborg/Resources;" (.ref w_NONE)) (P16 : Fld Z h0 b2x4_14c5015 own_s0 "least" own_s6 (.ref b6x14_69c4c13c16c2c5084)) (P17 : Fld Z h0 b6x14_69c4c13c16c2c5084 own_s2 "parts" own_s9 (.ref b3x14_69c4c13c16c2c5084)) (P18 : Arv Z h0 b3x14_69c4c13c16c2c5084 k3x14_69c4c13c16c2c5084 (.object own_s3) ((0 : Int32) + (1 : Int32)) [(.ref w_NONE)] .null) (OFc5084_0_9 : Ovr Z k3x14_69c4c13c16c2c5084 own_s3) (P20 : Fld Z h0 w_NONE own_s3 "names" "[Ljava/lang/String;" (.ref w_NONE_names)) (P21 : Arv Z h0 w_NONE_names k_w_NONE_names (.object "java/lang/String") (0 : Int32) [] .null) (P22 : Exa Z h0 w_NONE own_s3) (P23 : Exa Z h0 b6x14_69c4c13c16c2c5084 own_s2) (P24 : Fld Z h0 b2x4_14c5015 own_s0 "stale" "Z" (.int (0 : Int32))) (P25 : Exa Z h0 b2x5_18c4c5015 own_s8) (g_b2x4_14c5015 : n0 ≤ b2x4_14c5015) (g_b2x5_18c4c5015 : n0 ≤ b2x5_18c4c5015) (P28 : Fld Z h0 b5013 own_s4 "size" "J" (.long (((0 : Int64) + (1 : Int64)) + (1 : Int64)))) (P29 : Exa Z h0 b5013 own_s4) (g_b5013 : n0 ≤ b5013) :
    MetFree l own_y2 (head1 (Jvm.Cond.code own_y2 prog_2_method_2_code 3 none :: ws) ({ frames := 4, cells := 0, slots := 0, locals := 64 } : Room)) (fun a U => a = #[(.ref b5013), (.ref b5009)] ∧ Z.Warmed39 U.vm ∧ U.heap = h0) (fun _ _ _ _ _ => True) (fun _ U o U' => ∃ v L, o = .returned v ∧ own_Q8_119 Z b5013 b5009 b2x4_14c5015 b2x5_18c4c5015 k2x5_18c4c5015c2c5044c2c5104 b5001 b5005 j14 j18 j12 j16 jp1 jp4 w_NONE b6x14_69c4c13c16c2c5084 b3x14_69c4c13c16c2c5084 k3x14_69c4c13c16c2c5084 w_NONE_names k_w_NONE_names h0 n0 v U'.heap L ∧ FrameEnd U o U' L ({ frames := 4, cells := 0, slots := 0, locals := 64 } : Room).cells ({ frames := 4, cells := 0, slots := 0, locals := 64 } : Room).slots) := by
  refine MetFree.of_bodySF (plainFor_of_name own_pn3) hisR ?_
  intro p e s m args below meth c s₁ Bd hml0 hP hK
  obtain ⟨rfl, hZ, hh⟩ := hP
  have hx := Bd.exec
  have hlk := Bd.notSynchronized
  have hret := Bd.returns
  have hby := Bd.bytes
  have hml : c.maxLocals = 3 := hml0
  have hown : s.vm.findClass own_s4 = some m.cls := findClass_of_methodNamed Bd.named
  have hnm := (name_of_methodNamed Bd.named Bd.method).1
  have X0 : Stand p l e ({ frames := 4, cells := 0, slots := 0, locals := 64 } : Room) s m #[(.ref b5013), (.ref b5009)] below meth c s₁ [] 0 0 := Stand.of_body Bd
  have e0 : s₁.heap = h0 := by rw [← hh, Bd.state]; rfl
  have N0 := Fr.nil n0
  refine own_open (Q := own_Q8_119 Z b5013 b5009 b2x4_14c5015 b2x5_18c4c5015 k2x5_18c4c5015c2c5044c2c5104 b5001 b5005 j14 j18 j12 j16 jp1 jp4 w_NONE b6x14_69c4c13c16c2c5084 b3x14_69c4c13c16c2c5084 k3x14_69c4c13c16c2c5084 w_NONE_names k_w_NONE_names h0 n0) (own_ef8 m b5013 b5009) ?_
  refine own_st (fun t k => XS.aloadN X0.here hx rfl (hb hby own_d8_0) rfl rfl k) ?_
  show own_Go _ _ _ _ s₁ (mkF m 1 #[.val (.ref b5013), .val (.ref b5009), .unset] [(.ref b5013)])
  obtain ⟨T1, X1, e1, st1⟩ := getF X0 hx hZ hown (host := "") (Or.inl (own_w hw 54 rfl)) Via.refl e0 P0 (g := (mkF m 1 #[.val (.ref b5013), .val (.ref b5009), .unset] [(.ref b5013)])) rfl rfl (hb hby own_d8_1)
  refine own_st st1 ?_
  refine own_st (fun t k => XS.aloadN X1.here hx rfl (hb hby own_d8_4) rfl rfl k) ?_
  show own_Go _ _ _ _ T1 (mkF m 5 #[.val (.ref b5013), .val (.ref b5009), .unset] [(.ref b5009), (.ref b2x4_14c5015)])
  obtain ⟨cq2, kq2, q2a, q2b, q2c⟩ := isOf hZ e1 P14
  obtain ⟨_, _, ⟨T2, L2, k2, n2⟩, -, X2, ⟨Lc2, hQ2, l2, y2, z2⟩, st2⟩ := X1.virtualBack hx (y := (⟨own_s0, "add", own_s10⟩ : MethodName)) (z := own_y11) hown (mvT hZ (own_w hw 68 rfl)) (mvT hZ (own_w hw 69 rfl)) (own_nf (args := #[]) (mvT hZ (own_w hw 89 rfl)) rfl) (mvT hZ (own_w hw 70 rfl)) (mvT hZ (own_w hw 71 rfl)) (by decide) (backOf (W := 0) (own_rm9_124 l Z a0 hw [] b2x4_14c5015 b5009 b2x5_18c4c5015 k2x5_18c4c5015c2c5044c2c5104 b5001 b5005 j14 j18 j12 j16 jp1 jp4 w_NONE b6x14_69c4c13c16c2c5084 b3x14_69c4c13c16c2c5084 k3x14_69c4c13c16c2c5084 w_NONE_names k_w_NONE_names h0 n0 Z0 P1 P2 P3 OFc5104_0_0 P5 P6 P7 P8 P9 P10 P11 P12 P13 P14 P15 P16 P17 P18 OFc5084_0_9 P20 P21 P22 P23 P24 g_b2x4_14c5015 P25 g_b2x5_18c4c5015) hZ (own_w hw 72 rfl) (own_w hw 35 rfl) (by decide) (by decide)) q2a q2c (g := (mkF m 5 #[.val (.ref b5013), .val (.ref b5009), .unset] [(.ref b5009), (.ref b2x4_14c5015)])) rfl (by rw [hml]; rfl) (Steps.refl _) (argsL := [(.ref b5009)]) (rest := []) (lenOf own_pd11 rfl) rfl (by show 2 * 0 + _ ≤ _; exact Nat.le_of_eq rfl) (hb hby own_d8_5) (fun _ _ => ⟨rfl, e1, (by decide : 0 + 0 ≤ _), (by decide : 0 + 0 ≤ _)⟩)
  dsimp only [Pt.U, Pt.locs, Pt.cells, Pt.slots] at X2 l2 y2 z2 st2 hQ2
  subst l2 y2 z2
  obtain ⟨N2q, Kq2, hL2⟩ := hQ2
  have N2 := Fr.app N0 N2q
  have K2 : Keep h0 T2.heap [b2x5_18c4c5015, b2x4_14c5015, b5013] := (Keep.refl h0 [b2x5_18c4c5015, b2x4_14c5015, b5013]).trans Kq2 (allS (Or.inl (List.mem_of_getElem? (i := 1) rfl)) (allS (Or.inl (List.mem_of_getElem? (i := 0) rfl)) all0))
  have Z2 := Nat.le_trans Z0 Kq2.1
  rcases hL2 with ⟨k2x5_18c4c5015c2c5044c2c5104c2, rfl, hq2_0_0, Fc2_0_0, Fc2_0_1, Fc2_0_2, Fc2_0_3, Fc2_0_4, OFc2_0_4, -⟩ | ⟨k2x5_18c4c5015c2c5044c2c5104c2, rfl, hq2_1_0, hq2_1_1, Fc2_1_0, Fc2_1_1, Fc2_1_2, Fc2_1_3, Fc2_1_4, OFc2_1_4, -⟩ | ⟨k2x5_18c4c5015c2c5044c2c5104c2, rfl, hq2_2_0, hq2_2_1, Fc2_2_0, Fc2_2_1, Fc2_2_2, Fc2_2_3, Fc2_2_4, OFc2_2_4, -⟩
  · skip
    refine own_st (fun t k => st2.trans k) ?_
    refine own_st (fun t k => XS.astoreN X2.here hx rfl (hb hby own_d8_8) rfl rfl (l' := #[.val (.ref b5013), .val (.ref b5009), .val .null]) rfl k) ?_
    refine own_st (fun t k => XS.aloadN X2.here hx rfl (hb hby own_d8_9) rfl rfl k) ?_
    refine own_st (fun t k => XS.ifnullYes X2.here hx rfl (pc0 := 10) (pc' := 29) rfl (hb hby own_d8_10) rfl (by decide) (by decide) k) ?_
    show own_Go _ _ _ _ T2 (mkF m 29 #[.val (.ref b5013), .val (.ref b5009), .val .null] [])
    refine own_st (fun t k => XS.aloadN X2.here hx rfl (hb hby own_d8_29) rfl rfl k) ?_
    refine own_st (fun t k => XS.dup X2.here hx rfl (hb hby own_d8_30) rfl rfl k) ?_
    show own_Go _ _ _ _ T2 (mkF m 31 #[.val (.ref b5013), .val (.ref b5009), .val .null] [(.ref b5013), (.ref b5013)])
    have f3 := (P28.keep Kq2 (ninS (ne_exa P29 P14 (by decide)) (ninS (ne_exa P29 P25 (by decide)) nin0)))
    obtain ⟨T4, X4, e4, st4⟩ := getF X2 hx hZ hown (host := "") (Or.inl (own_w hw 61 rfl)) Via.refl rfl f3 (g := (mkF m 31 #[.val (.ref b5013), .val (.ref b5009), .val .null] [(.ref b5013), (.ref b5013)])) rfl rfl (hb hby own_d8_31)
    refine own_st st4 ?_
    refine own_st (fun t k => XS.lconst X4.here hx rfl (hb hby own_d8_34) k) ?_
    show own_Go _ _ _ _ T4 (mkF m 35 #[.val (.ref b5013), .val (.ref b5009), .val .null] [(.long (1 : Int64)), (.long (((0 : Int64) + (1 : Int64)) + (1 : Int64))), (.ref b5013)])
    refine own_st (fun t k => XS.ladd X4.here hx rfl (hb hby own_d8_35) rfl k) ?_
    show own_Go _ _ _ _ T4 (mkF m 36 #[.val (.ref b5013), .val (.ref b5009), .val .null] [(.long ((((0 : Int64) + (1 : Int64)) + (1 : Int64)) + (1 : Int64))), (.ref b5013)])
    have f5 := (P29.keep Kq2)
    obtain ⟨T6, h6, X6, e6, W6, st6⟩ := putF X4 hx hZ hown (host := "") (Or.inl (own_w hw 61 rfl)) Via.refl e4 f3 f5 (Or.inl (own_w hw 62 rfl)) (own_w hw 27 rfl) (ty := .long) (by decide) rfl rfl (g := (mkF m 36 #[.val (.ref b5013), .val (.ref b5009), .val .null] [(.long ((((0 : Int64) + (1 : Int64)) + (1 : Int64)) + (1 : Int64))), (.ref b5013)])) rfl rfl (hb hby own_d8_36)
    refine own_st st6 ?_
    have K6 : Keep h0 h6 [b2x5_18c4c5015, b2x4_14c5015, b5013] := K2.wr W6 (Or.inl (List.mem_of_getElem? (i := 2) rfl))
    have Z6 := Nat.le_trans Z2 (Keep.of_wr W6).1
    have N6 := Fr.snoc X6 N2 g_b5013
    have F6 := f3.same W6
    show own_Go _ _ _ _ T6 (mkF m 39 #[.val (.ref b5013), .val (.ref b5009), .val .null] [])
    have f7 := (Fc2_0_4.other W6 (ne_exa P25 P29 (by decide)))
    have f8 := (Fc2_0_0.other W6 (Or.inl (ne_exa P14 P29 (by decide))))
    have f9 := (Fc2_0_1.other W6 (Or.inl (ne_exa P14 P29 (by decide))))
    have f10 := (Fc2_0_2.other W6 (Or.inl (ne_exa P14 P29 (by decide))))
    have f11 := (Fc2_0_3.other W6 (Or.inl (ne_exa P14 P29 (by decide))))
    have f12 := ((P0.keep Kq2 (ninS (ne_exa P29 P14 (by decide)) (ninS (ne_exa P29 P25 (by decide)) nin0))).other W6 (Or.inr (slot_ne (Or.inl (own_w hw 55 rfl)) (Or.inl (own_w hw 62 rfl)) (by decide) (t := (.object own_s0)) (t' := .long) (by decide) (by decide))))
    exact own_retV X6 hx hlk hret (hb hby own_d8_39) (by decide) (by decide) e6 ⟨N6, K6, (Or.inl ⟨_, rfl, hq2_0_0, f7, OFc2_0_4, f8, f9, f10, f11, f12, F6, trivial⟩)⟩
  · skip
    refine own_st (fun t k => st2.trans k) ?_
    refine own_st (fun t k => XS.astoreN X2.here hx rfl (hb hby own_d8_8) rfl rfl (l' := #[.val (.ref b5013), .val (.ref b5009), .val .null]) rfl k) ?_
    show own_Go _ _ _ _ T2 (mkF m 9 #[.val (.ref b5013), .val (.ref b5009), .val .null] [])
    refine own_st (fun t k => XS.aloadN X2.here hx rfl (hb hby own_d8_9) rfl rfl k) ?_
    refine own_st (fun t k => XS.ifnullYes X2.here hx rfl (pc0 := 10) (pc' := 29) rfl (hb hby own_d8_10) rfl (by decide) (by decide) k) ?_
    refine own_st (fun t k => XS.aloadN X2.here hx rfl (hb hby own_d8_29) rfl rfl k) ?_
    refine own_st (fun t k => XS.dup X2.here hx rfl (hb hby own_d8_30) rfl rfl k) ?_
    show own_Go _ _ _ _ T2 (mkF m 31 #[.val (.ref b5013), .val (.ref b5009), .val .null] [(.ref b5013), (.ref b5013)])
    have f13 := (P28.keep Kq2 (ninS (ne_exa P29 P14 (by decide)) (ninS (ne_exa P29 P25 (by decide)) nin0)))
    obtain ⟨T14, X14, e14, st14⟩ := getF X2 hx hZ hown (host := "") (Or.inl (own_w hw 61 rfl)) Via.refl rfl f13 (g := (mkF m 31 #[.val (.ref b5013), .val (.ref b5009), .val .null] [(.ref b5013), (.ref b5013)])) rfl rfl (hb hby own_d8_31)
    refine own_st st14 ?_
    refine own_st (fun t k => XS.lconst X14.here hx rfl (hb hby own_d8_34) k) ?_
    refine own_st (fun t k => XS.ladd X14.here hx rfl (hb hby own_d8_35) rfl k) ?_
    show own_Go _ _ _ _ T14 (mkF m 36 #[.val (.ref b5013), .val (.ref b5009), .val .null] [(.long ((((0 : Int64) + (1 : Int64)) + (1 : Int64)) + (1 : Int64))), (.ref b5013)])
    have f15 := (P29.keep Kq2)
    obtain ⟨T16, h16, X16, e16, W16, st16⟩ := putF X14 hx hZ hown (host := "") (Or.inl (own_w hw 61 rfl)) Via.refl e14 f13 f15 (Or.inl (own_w hw 62 rfl)) (own_w hw 27 rfl) (ty := .long) (by decide) rfl rfl (g := (mkF m 36 #[.val (.ref b5013), .val (.ref b5009), .val .null] [(.long ((((0 : Int64) + (1 : Int64)) + (1 : Int64)) + (1 : Int64))), (.ref b5013)])) rfl rfl (hb hby own_d8_36)
    refine own_st st16 ?_
    have K16 : Keep h0 h16 [b2x5_18c4c5015, b2x4_14c5015, b5013] := K2.wr W16 (Or.inl (List.mem_of_getElem? (i := 2) rfl))
    have Z16 := Nat.le_trans Z2 (Keep.of_wr W16).1
    have N16 := Fr.snoc X16 N2 g_b5013
    have F16 := f13.same W16
    show own_Go _ _ _ _ T16 (mkF m 39 #[.val (.ref b5013), .val (.ref b5009), .val .null] [])
    have f17 := (Fc2_1_4.other W16 (ne_exa P25 P29 (by decide)))
    have f18 := (Fc2_1_0.other W16 (Or.inl (ne_exa P14 P29 (by decide))))
    have f19 := (Fc2_1_1.other W16 (Or.inl (ne_exa P14 P29 (by decide))))
    have f20 := (Fc2_1_2.other W16 (Or.inl (ne_exa P14 P29 (by decide))))
    have f21 := (Fc2_1_3.other W16 (Or.inl (ne_exa P14 P29 (by decide))))
    have f22 := ((P0.keep Kq2 (ninS (ne_exa P29 P14 (by decide)) (ninS (ne_exa P29 P25 (by decide)) nin0))).other W16 (Or.inr (slot_ne (Or.inl (own_w hw 55 rfl)) (Or.inl (own_w hw 62 rfl)) (by decide) (t := (.object own_s0)) (t' := .long) (by decide) (by decide))))
    exact own_retV X16 hx hlk hret (hb hby own_d8_39) (by decide) (by decide) e16 ⟨N16, K16, (Or.inr (Or.inl ⟨_, rfl, hq2_1_0, hq2_1_1, f17, OFc2_1_4, f18, f19, f20, f21, f22, F16, trivial⟩))⟩
  · skip
    refine own_st (fun t k => st2.trans k) ?_
    refine own_st (fun t k => XS.astoreN X2.here hx rfl (hb hby own_d8_8) rfl rfl (l' := #[.val (.ref b5013), .val (.ref b5009), .val .null]) rfl k) ?_
    refine own_st (fun t k => XS.aloadN X2.here hx rfl (hb hby own_d8_9) rfl rfl k) ?_
    refine own_st (fun t k => XS.ifnullYes X2.here hx rfl (pc0 := 10) (pc' := 29) rfl (hb hby own_d8_10) rfl (by decide) (by decide) k) ?_
    show own_Go _ _ _ _ T2 (mkF m 29 #[.val (.ref b5013), .val (.ref b5009), .val .null] [])
    refine own_st (fun t k => XS.aloadN X2.here hx rfl (hb hby own_d8_29) rfl rfl k) ?_
    refine own_st (fun t k => XS.dup X2.here hx rfl (hb hby own_d8_30) rfl rfl k) ?_
    show own_Go _ _ _ _ T2 (mkF m 31 #[.val (.ref b5013), .val (.ref b5009), .val .null] [(.ref b5013), (.ref b5013)])
    have f23 := (P28.keep Kq2 (ninS (ne_exa P29 P14 (by decide)) (ninS (ne_exa P29 P25 (by decide)) nin0)))
    obtain ⟨T24, X24, e24, st24⟩ := getF X2 hx hZ hown (host := "") (Or.inl (own_w hw 61 rfl)) Via.refl rfl f23 (g := (mkF m 31 #[.val (.ref b5013), .val (.ref b5009), .val .null] [(.ref b5013), (.ref b5013)])) rfl rfl (hb hby own_d8_31)
    refine own_st st24 ?_
    refine own_st (fun t k => XS.lconst X24.here hx rfl (hb hby own_d8_34) k) ?_
    show own_Go _ _ _ _ T24 (mkF m 35 #[.val (.ref b5013), .val (.ref b5009), .val .null] [(.long (1 : Int64)), (.long (((0 : Int64) + (1 : Int64)) + (1 : Int64))), (.ref b5013)])
    refine own_st (fun t k => XS.ladd X24.here hx rfl (hb hby own_d8_35) rfl k) ?_
    show own_Go _ _ _ _ T24 (mkF m 36 #[.val (.ref b5013), .val (.ref b5009), .val .null] [(.long ((((0 : Int64) + (1 : Int64)) + (1 : Int64)) + (1 : Int64))), (.ref b5013)])
    have f25 := (P29.keep Kq2)
    obtain ⟨T26, h26, X26, e26, W26, st26⟩ := putF X24 hx hZ hown (host := "") (Or.inl (own_w hw 61 rfl)) Via.refl e24 f23 f25 (Or.inl (own_w hw 62 rfl)) (own_w hw 27 rfl) (ty := .long) (by decide) rfl rfl (g := (mkF m 36 #[.val (.ref b5013), .val (.ref b5009), .val .null] [(.long ((((0 : Int64) + (1 : Int64)) + (1 : Int64)) + (1 : Int64))), (.ref b5013)])) rfl rfl (hb hby own_d8_36)
    refine own_st st26 ?_
    have K26 : Keep h0 h26 [b2x5_18c4c5015, b2x4_14c5015, b5013] := K2.wr W26 (Or.inl (List.mem_of_getElem? (i := 2) rfl))
    have Z26 := Nat.le_trans Z2 (Keep.of_wr W26).1
    have N26 := Fr.snoc X26 N2 g_b5013
    have F26 := f23.same W26
    show own_Go _ _ _ _ T26 (mkF m 39 #[.val (.ref b5013), .val (.ref b5009), .val .null] [])
    have f27 := (Fc2_2_4.other W26 (ne_exa P25 P29 (by decide)))
    have f28 := (Fc2_2_0.other W26 (Or.inl (ne_exa P14 P29 (by decide))))
    have f29 := (Fc2_2_1.other W26 (Or.inl (ne_exa P14 P29 (by decide))))
    have f30 := (Fc2_2_2.other W26 (Or.inl (ne_exa P14 P29 (by decide))))
    have f31 := (Fc2_2_3.other W26 (Or.inl (ne_exa P14 P29 (by decide))))
    have f32 := ((P0.keep Kq2 (ninS (ne_exa P29 P14 (by decide)) (ninS (ne_exa P29 P25 (by decide)) nin0))).other W26 (Or.inr (slot_ne (Or.inl (own_w hw 55 rfl)) (Or.inl (own_w hw 62 rfl)) (by decide) (t := (.object own_s0)) (t' := .long) (by decide) (by decide))))
    exact own_retV X26 hx hlk hret (hb hby own_d8_39) (by decide) (by decide) e26 ⟨N26, K26, (Or.inr (Or.inr ⟨_, rfl, hq2_2_0, hq2_2_1, f27, OFc2_2_4, f28, f29, f30, f31, f32, F26, trivial⟩))⟩
def own_Q22_129 (Z : State) (b2x4_14c5015 : Addr) (b2x5_18c4c5015 : Addr) (k2x5_18c4c5015c2c5044c2c5104c2c5139 : ClassId) (b5001 : Addr) (b5005 : Addr) (b5009 : Addr) (h0 : Heap) (n0 : Nat) (v : Option Value) (h : Heap) (L : List Loc) : Prop := Fr n0 L ∧ Keep h0 h [] ∧ ((v = some (.ref b5009) ∧ True))
set_option maxRecDepth 65536 in
set_option maxHeartbeats 40000000 in
theorem own_rm22_129 (l : Launch) (Z : State) (a0 : Array Value) (hw : ∀ d ∈ tables_1, d.before a0 Z = true) (ws : List Jvm.Cond) (b2x4_14c5015 : Addr) (b2x5_18c4c5015 : Addr) (k2x5_18c4c5015c2c5044c2c5104c2c5139 : ClassId) (b5001 : Addr) (b5005 : Addr) (b5009 : Addr) (h0 : Heap) (n0 : Nat) (Z0 : n0 ≤ h0.size) (P0 : Fld Z h0 b2x4_14c5015 own_s5 "items" own_s8 (.ref b2x5_18c4c5015)) (P1 : Fld Z h0 b2x4_14c5015 own_s0 "count" "I" (.int ((((0 : Int32) + (1 : Int32)) + (1 : Int32)) + (1 : Int32)))) (P2 : Arv Z h0 b2x5_18c4c5015 k2x5_18c4c5015c2c5044c2c5104c2c5139 (.object own_s1) (64 : Int32) [(.ref b5001), (.ref b5005), (.ref b5009)] .null) (OFc5139_0_0 : Ovr Z k2x5_18c4c5015c2c5044c2c5104c2c5139 own_s1) :
    MetFree l own_y12 (head1 (Jvm.Cond.code own_y12 prog_4_method_4_code 1 (some (.object own_s1)) :: ws) ({ frames := 0, cells := 0, slots := 0, locals := 0 } : Room)) (fun a U => a = #[(.ref b2x4_14c5015)] ∧ Z.Warmed39 U.vm ∧ U.heap = h0) (fun _ _ _ _ _ => True) (fun _ U o U' => ∃ v L, o = .returned v ∧ own_Q22_129 Z b2x4_14c5015 b2x5_18c4c5015 k2x5_18c4c5015c2c5044c2c5104c2c5139 b5001 b5005 b5009 h0 n0 v U'.heap L ∧ FrameEnd U o U' L ({ frames := 0, cells := 0, slots := 0, locals := 0 } : Room).cells ({ frames := 0, cells := 0, slots := 0, locals := 0 } : Room).slots) := by
  refine MetFree.of_bodySF (plainFor_of_name own_pn2) hisR ?_
  intro p e s m args below meth c s₁ Bd hml0 hP hK
  obtain ⟨rfl, hZ, hh⟩ := hP
  have hx := Bd.exec
  have hlk := Bd.notSynchronized
  have hret := Bd.returns
  have hby := Bd.bytes
  have hml : c.maxLocals = 1 := hml0
  have hown : s.vm.findClass own_s5 = some m.cls := findClass_of_methodNamed Bd.named
  have hnm := (name_of_methodNamed Bd.named Bd.method).1
  have X0 : Stand p l e ({ frames := 0, cells := 0, slots := 0, locals := 0 } : Room) s m #[(.ref b2x4_14c5015)] below meth c s₁ [] 0 0 := Stand.of_body Bd
  have e0 : s₁.heap = h0 := by rw [← hh, Bd.state]; rfl
  have N0 := Fr.nil n0
  refine own_open (Q := own_Q22_129 Z b2x4_14c5015 b2x5_18c4c5015 k2x5_18c4c5015c2c5044c2c5104c2c5139 b5001 b5005 b5009 h0 n0) (own_ef22 m b2x4_14c5015) ?_
  refine own_st (fun t k => XS.aloadN X0.here hx rfl (hb hby own_d22_0) rfl rfl k) ?_
  show own_Go _ _ _ _ s₁ (mkF m 1 #[.val (.ref b2x4_14c5015)] [(.ref b2x4_14c5015)])
  obtain ⟨T1, X1, e1, st1⟩ := getF X0 hx hZ hown (host := "") (Or.inl (own_w hw 52 rfl)) Via.refl e0 P0 (g := (mkF m 1 #[.val (.ref b2x4_14c5015)] [(.ref b2x4_14c5015)])) rfl rfl (hb hby own_d22_1)
  refine own_st st1 ?_
  refine own_st (fun t k => XS.aloadN X1.here hx rfl (hb hby own_d22_4) rfl rfl k) ?_
  show own_Go _ _ _ _ T1 (mkF m 5 #[.val (.ref b2x4_14c5015)] [(.ref b2x4_14c5015), (.ref b2x5_18c4c5015)])
  obtain ⟨T2, X2, e2, st2⟩ := getF X1 hx hZ hown (host := "") (Or.inl (own_w hw 77 rfl)) (Via.of (own_w hw 78 rfl)) e1 P1 (g := (mkF m 5 #[.val (.ref b2x4_14c5015)] [(.ref b2x4_14c5015), (.ref b2x5_18c4c5015)])) rfl rfl (hb hby own_d22_5)
  refine own_st st2 ?_
  refine own_st (fun t k => XS.iconst X2.here hx rfl (hb hby own_d22_8) k) ?_
  refine own_st (fun t k => XS.isub X2.here hx rfl (hb hby own_d22_9) rfl k) ?_
  show own_Go _ _ _ _ T2 (mkF m 10 #[.val (.ref b2x4_14c5015)] [(.int (((((0 : Int32) + (1 : Int32)) + (1 : Int32)) + (1 : Int32)) - (1 : Int32))), (.ref b2x5_18c4c5015)])
  refine own_st (own_aaload X2 hx hZ e2 P2 rfl (j := (((((0 : Int32) + (1 : Int32)) + (1 : Int32)) + (1 : Int32)) - (1 : Int32))) (v := (.ref b5009)) ⟨by decide, by decide⟩ rfl (g := (mkF m 10 #[.val (.ref b2x4_14c5015)] [(.int (((((0 : Int32) + (1 : Int32)) + (1 : Int32)) + (1 : Int32)) - (1 : Int32))), (.ref b2x5_18c4c5015)])) rfl rfl (hb hby own_d22_10)) ?_
  show own_Go _ _ _ _ T2 (mkF m 11 #[.val (.ref b2x4_14c5015)] [(.ref b5009)])
  exact own_retA X2 hx hlk hret rfl rfl (hb hby own_d22_11) (by decide) (by decide) e2 ⟨N0, (Keep.refl h0 []), ⟨rfl, trivial⟩⟩
def own_Q7_128 (Z : State) (b5013 : Addr) (b2x4_14c5015 : Addr) (b2x5_18c4c5015 : Addr) (k2x5_18c4c5015c2c5044c2c5104c2c5139 : ClassId) (b5001 : Addr) (b5005 : Addr) (b5009 : Addr) (h0 : Heap) (n0 : Nat) (v : Option Value) (h : Heap) (L : List Loc) : Prop := Fr n0 L ∧ Keep h0 h [] ∧ ((v = some (.ref b5009) ∧ True))
set_option maxRecDepth 65536 in
set_option maxHeartbeats 40000000 in
theorem own_rm7_128 (l : Launch) (Z : State) (a0 : Array Value) (hw : ∀ d ∈ tables_1, d.before a0 Z = true) (ws : List Jvm.Cond) (b5013 : Addr) (b2x4_14c5015 : Addr) (b2x5_18c4c5015 : Addr) (k2x5_18c4c5015c2c5044c2c5104c2c5139 : ClassId) (b5001 : Addr) (b5005 : Addr) (b5009 : Addr) (h0 : Heap) (n0 : Nat) (Z0 : n0 ≤ h0.size) (P0 : Fld Z h0 b5013 own_s4 "size" "J" (.long ((((0 : Int64) + (1 : Int64)) + (1 : Int64)) + (1 : Int64)))) (P1 : Fld Z h0 b5013 own_s4 "root" "Lcom/example/lonborg/lonborg/ItemTree$Node;" (.ref b2x4_14c5015)) (P2 : Fld Z h0 b2x4_14c5015 own_s5 "items" own_s8 (.ref b2x5_18c4c5015)) (P3 : Fld Z h0 b2x4_14c5015 own_s0 "count" "I" (.int ((((0 : Int32) + (1 : Int32)) + (1 : Int32)) + (1 : Int32)))) (P4 : Arv Z h0 b2x5_18c4c5015 k2x5_18c4c5015c2c5044c2c5104c2c5139 (.object own_s1) (64 : Int32) [(.ref b5001), (.ref b5005), (.ref b5009)] .null) (OFc5139_0_0 : Ovr Z k2x5_18c4c5015c2c5044c2c5104c2c5139 own_s1) (P6 : Exa Z h0 b2x4_14c5015 own_s5) :
    MetFree l own_y1 (head1 (Jvm.Cond.code own_y1 prog_2_method_4_code 1 (some (.object own_s1)) :: ws) ({ frames := 1, cells := 0, slots := 0, locals := 12 } : Room)) (fun a U => a = #[(.ref b5013)] ∧ Z.Warmed39 U.vm ∧ U.heap = h0) (fun _ _ _ _ _ => True) (fun _ U o U' => ∃ v L, o = .returned v ∧ own_Q7_128 Z b5013 b2x4_14c5015 b2x5_18c4c5015 k2x5_18c4c5015c2c5044c2c5104c2c5139 b5001 b5005 b5009 h0 n0 v U'.heap L ∧ FrameEnd U o U' L ({ frames := 1, cells := 0, slots := 0, locals := 12 } : Room).cells ({ frames := 1, cells := 0, slots := 0, locals := 12 } : Room).slots) := by
  refine MetFree.of_bodySF (plainFor_of_name own_pn3) hisR ?_
  intro p e s m args below meth c s₁ Bd hml0 hP hK
  obtain ⟨rfl, hZ, hh⟩ := hP
  have hx := Bd.exec
  have hlk := Bd.notSynchronized
  have hret := Bd.returns
  have hby := Bd.bytes
  have hml : c.maxLocals = 1 := hml0
  have hown : s.vm.findClass own_s4 = some m.cls := findClass_of_methodNamed Bd.named
  have hnm := (name_of_methodNamed Bd.named Bd.method).1
  have X0 : Stand p l e ({ frames := 1, cells := 0, slots := 0, locals := 12 } : Room) s m #[(.ref b5013)] below meth c s₁ [] 0 0 := Stand.of_body Bd
  have e0 : s₁.heap = h0 := by rw [← hh, Bd.state]; rfl
  have N0 := Fr.nil n0
  refine own_open (Q := own_Q7_128 Z b5013 b2x4_14c5015 b2x5_18c4c5015 k2x5_18c4c5015c2c5044c2c5104c2c5139 b5001 b5005 b5009 h0 n0) (own_ef7 m b5013) ?_
  refine own_st (fun t k => XS.aloadN X0.here hx rfl (hb hby own_d7_0) rfl rfl k) ?_
  show own_Go _ _ _ _ s₁ (mkF m 1 #[.val (.ref b5013)] [(.ref b5013)])
  obtain ⟨T1, X1, e1, st1⟩ := getF X0 hx hZ hown (host := "") (Or.inl (own_w hw 61 rfl)) Via.refl e0 P0 (g := (mkF m 1 #[.val (.ref b5013)] [(.ref b5013)])) rfl rfl (hb hby own_d7_1)
  refine own_st st1 ?_
  refine own_st (fun t k => XS.lconst X1.here hx rfl (hb hby own_d7_4) k) ?_
  show own_Go _ _ _ _ T1 (mkF m 5 #[.val (.ref b5013)] [(.long (0 : Int64)), (.long ((((0 : Int64) + (1 : Int64)) + (1 : Int64)) + (1 : Int64)))])
  refine own_st (fun t k => XS.lcmp X1.here hx rfl (hb hby own_d7_5) rfl k) ?_
  show own_Go _ _ _ _ T1 (mkF m 6 #[.val (.ref b5013)] [(.int (lcmpW ((((0 : Int64) + (1 : Int64)) + (1 : Int64)) + (1 : Int64)) (0 : Int64)))])
  refine own_st (fun t k => XS.ifYes X1.here hx rfl (pc0 := 6) (pc' := 13) rfl (hb hby own_d7_6) rfl ((if0 _ _).trans (feq (by decide : ¬ ((lcmpW ((((0 : Int64) + (1 : Int64)) + (1 : Int64)) + (1 : Int64)) (0 : Int64)) = (0 : Int32)))).2) (by decide) (by decide) k) ?_
  refine own_st (fun t k => XS.aloadN X1.here hx rfl (hb hby own_d7_13) rfl rfl k) ?_
  show own_Go _ _ _ _ T1 (mkF m 14 #[.val (.ref b5013)] [(.ref b5013)])
  obtain ⟨T2, X2, e2, st2⟩ := getF X1 hx hZ hown (host := "") (Or.inl (own_w hw 54 rfl)) Via.refl e1 P1 (g := (mkF m 14 #[.val (.ref b5013)] [(.ref b5013)])) rfl rfl (hb hby own_d7_14)
  refine own_st st2 ?_
  show own_Go _ _ _ _ T2 (mkF m 17 #[.val (.ref b5013)] [(.ref b2x4_14c5015)])
  obtain ⟨cq3, kq3, q3a, q3b, q3c⟩ := isOf hZ e2 P6
  obtain ⟨_, _, ⟨T3, L3, k3, n3⟩, -, X3, ⟨Lc3, hQ3, l3, y3, z3⟩, st3⟩ := X2.virtualBack hx (y := (⟨own_s0, "last", own_s7⟩ : MethodName)) (z := own_y12) hown (mvT hZ (own_w hw 149 rfl)) (mvT hZ (own_w hw 150 rfl)) (own_nf (args := #[]) (mvT hZ (own_w hw 89 rfl)) rfl) (mvT hZ (own_w hw 151 rfl)) (mvT hZ (own_w hw 152 rfl)) (by decide) (backOf (W := 0) (own_rm22_129 l Z a0 hw [] b2x4_14c5015 b2x5_18c4c5015 k2x5_18c4c5015c2c5044c2c5104c2c5139 b5001 b5005 b5009 h0 n0 Z0 P2 P3 P4 OFc5139_0_0) hZ (own_w hw 153 rfl) (own_w hw 35 rfl) (by decide) (by decide)) q3a q3c (g := (mkF m 17 #[.val (.ref b5013)] [(.ref b2x4_14c5015)])) rfl (by rw [hml]; rfl) (Steps.refl _) (argsL := []) (rest := []) (lenOf own_pd3 rfl) rfl (by show 2 * 0 + _ ≤ _; exact Nat.le_of_eq rfl) (hb hby own_d7_17) (fun _ _ => ⟨rfl, e2, (by decide : 0 + 0 ≤ _), (by decide : 0 + 0 ≤ _)⟩)
  dsimp only [Pt.U, Pt.locs, Pt.cells, Pt.slots] at X3 l3 y3 z3 st3 hQ3
  subst l3 y3 z3
  obtain ⟨N3q, Kq3, hL3⟩ := hQ3
  have N3 := Fr.app N0 N3q
  have K3 : Keep h0 T3.heap [] := (Keep.refl h0 []).trans Kq3 all0
  have Z3 := Nat.le_trans Z0 Kq3.1
  rcases hL3 with ⟨rfl, -⟩
  · skip
    refine own_st (fun t k => st3.trans k) ?_
    show own_Go _ _ _ _ T3 (mkF m 20 #[.val (.ref b5013)] [(.ref b5009)])
    exact own_retA X3 hx hlk hret rfl rfl (hb hby own_d7_20) (by decide) (by decide) rfl ⟨N3, K3, ⟨rfl, trivial⟩⟩
def own_Q0 (n0 : Nat) (v : Option Value) (h : Heap) (L : List Loc) : Prop := v = some (.int (1 : Int32)) ∧ Fr n0 L
set_option maxRecDepth 65536 in
set_option maxHeartbeats 40000000 in
theorem own_cut68 {p : Program} {l : Launch} {e : Env} {s : State} {m : MethodId} {args : Array Value} {below : List Frame} {meth : Method} {c : Code} {T0 : State} {locs : List Loc} {Z : State} {a0 : Array Value} {h0 : Heap} {n0 : Nat} (ip0 : Int32) (jp1 : Int64) (jp2 : Int64) (jp3 : Int64) (jp4 : Int64) (jp5 : Int64) (n11 : Int32) (j12 : Int64) (j14 : Int64) (j16 : Int64) (j18 : Int64) (w_NONE : Addr) (w_EMPTY : Addr) (w_EMPTY_parts : Addr) (w_NONE_names : Addr) (k_w_EMPTY_parts : ClassId) (k_w_NONE_names : ClassId)
    (X0 : Stand p l e room_1 s m args below meth c T0 locs 0 0) (hx : p.tables.exec = Jvm.exec) (hZ : Z.Warmed39 s.vm) (hw : ∀ d ∈ tables_1, d.before a0 Z = true) (hby : c.code = code) (hml : c.maxLocals = 29) (hown : s.vm.findClass own_s12 = some m.cls) (hlk : meth.locks = false) (hret : meth.sig.returnType = ret) (N0 : Fr n0 locs) (Z0 : n0 ≤ h0.size) (e0 : T0.heap = h0) (P0 : Sta Z h0 own_s3 "NONE" "Lcom/example/lonborg/lonborg/Resources;" (.ref w_NONE)) (P1 : Exa Z h0 w_NONE own_s3) (P2 : Sta Z h0 own_s2 "EMPTY" own_s6 (.ref w_EMPTY)) (P3 : Exa Z h0 w_EMPTY own_s2) (P4 : Fld Z h0 w_EMPTY own_s2 "parts" own_s9 (.ref w_EMPTY_parts)) (P5 : Fld Z h0 w_NONE own_s3 "names" "[Ljava/lang/String;" (.ref w_NONE_names)) (P6 : Arv Z h0 w_EMPTY_parts k_w_EMPTY_parts (.object own_s3) (0 : Int32) [] .null) (P7 : Arv Z h0 w_NONE_names k_w_NONE_names (.object "java/lang/String") (0 : Int32) [] .null) (hn11 : n11 = (0 : Int32) ∨ n11 = (1 : Int32) ∨ n11 = (2 : Int32) ∨ n11 = (3 : Int32)) :
    own_Go p.tables e below (own_End s below (own_Q0 n0) room_1.cells room_1.slots) T0 (mkF m 68 #[.val (.int ip0), .val (.long jp1), .second, .val (.long jp2), .second, .val (.long jp3), .second, .val (.long jp4), .second, .val (.long jp5), .second, .val (.int n11), .val (.long j12), .second, .val (.long j14), .second, .val (.long j16), .second, .val (.long j18), .second, .unset, .unset, .unset, .unset, .unset, .unset, .unset, .unset, .unset] []) := by
  show own_Go _ _ _ _ T0 (mkF m 68 #[.val (.int ip0), .val (.long jp1), .second, .val (.long jp2), .second, .val (.long jp3), .second, .val (.long jp4), .second, .val (.long jp5), .second, .val (.int n11), .val (.long j12), .second, .val (.long j14), .second, .val (.long j16), .second, .val (.long j18), .second, .unset, .unset, .unset, .unset, .unset, .unset, .unset, .unset, .unset] [])
  obtain ⟨T5001, h5001, X5001, e5001, E5001, A5001, D5001, -, st5001⟩ := newO X0 hx hZ hown (own_w hw 3 rfl) (own_w hw 4 rfl) (own_w hw 5 rfl) e0 (g := (mkF m 68 #[.val (.int ip0), .val (.long jp1), .second, .val (.long jp2), .second, .val (.long jp3), .second, .val (.long jp4), .second, .val (.long jp5), .second, .val (.int n11), .val (.long j12), .second, .val (.long j14), .second, .val (.long j16), .second, .val (.long j18), .second, .unset, .unset, .unset, .unset, .unset, .unset, .unset, .unset, .unset] [])) rfl (hb hby at_68) (by decide) (by decide)
  obtain ⟨b5001, g5001⟩ : ∃ z, z = h0.size := ⟨_, rfl⟩
  rw [← g5001] at A5001 D5001 st5001
  have g_b5001 : n0 ≤ b5001 := Nat.le_trans Z0 (Nat.le_of_eq g5001.symm)
  have sz_b5001 : h0.size ≤ b5001 := Nat.le_trans (Keep.refl h0 []).1 (Nat.le_of_eq g5001.symm)
  refine own_st st5001 ?_
  have K5001 : Keep h0 h5001 [] := (Keep.refl h0 []).ext E5001
  have Z5001 := Nat.le_trans Z0 E5001.1
  have F5001_19 : Fld Z h5001 b5001 own_s1 "id" "J" (.long (0 : Int64)) := D5001 (Or.inr (own_w hw 19 rfl)) (ty := .long) (by decide)
  have F5001_21 : Fld Z h5001 b5001 own_s1 "priority" "J" (.long (0 : Int64)) := D5001 (Or.inr (own_w hw 21 rfl)) (ty := .long) (by decide)
  have F5001_23 : Fld Z h5001 b5001 own_s1 "payload" "[B" .null := D5001 (Or.inr (own_w hw 23 rfl)) (ty := (.array .byte)) (by decide)
  have F5001_25 : Fld Z h5001 b5001 own_s1 "needs" "Lcom/example/lonborg/lonborg/Resources;" .null := D5001 (Or.inr (own_w hw 25 rfl)) (ty := (.object own_s3)) (by decide)
  refine own_st (fun t k => XS.dup X5001.here hx rfl (hb hby at_71) rfl rfl k) ?_
  refine own_st (fun t k => XS.lload X5001.here hx rfl (hb hby at_72) rfl k) ?_
  show own_Go _ _ _ _ T5001 (mkF m 74 #[.val (.int ip0), .val (.long jp1), .second, .val (.long jp2), .second, .val (.long jp3), .second, .val (.long jp4), .second, .val (.long jp5), .second, .val (.int n11), .val (.long j12), .second, .val (.long j14), .second, .val (.long j16), .second, .val (.long j18), .second, .unset, .unset, .unset, .unset, .unset, .unset, .unset, .unset, .unset] [(.long jp4), (.ref b5001), (.ref b5001)])
  refine own_st (fun t k => XS.lloadN X5001.here hx rfl (hb hby at_74) rfl k) ?_
  show own_Go _ _ _ _ T5001 (mkF m 75 #[.val (.int ip0), .val (.long jp1), .second, .val (.long jp2), .second, .val (.long jp3), .second, .val (.long jp4), .second, .val (.long jp5), .second, .val (.int n11), .val (.long j12), .second, .val (.long j14), .second, .val (.long j16), .second, .val (.long j18), .second, .unset, .unset, .unset, .unset, .unset, .unset, .unset, .unset, .unset] [(.long jp1), (.long jp4), (.ref b5001), (.ref b5001)])
  have f5002 := (P0.ext E5001)
  obtain ⟨T5003, X5003, e5003, st5003⟩ := getS2 X5001 hx hZ hown (host := "") (Or.inl (own_w hw 6 rfl)) Via.refl e5001 f5002 (g := (mkF m 75 #[.val (.int ip0), .val (.long jp1), .second, .val (.long jp2), .second, .val (.long jp3), .second, .val (.long jp4), .second, .val (.long jp5), .second, .val (.int n11), .val (.long j12), .second, .val (.long j14), .second, .val (.long j16), .second, .val (.long j18), .second, .unset, .unset, .unset, .unset, .unset, .unset, .unset, .unset, .unset] [(.long jp1), (.long jp4), (.ref b5001), (.ref b5001)])) rfl (hb hby at_75)
  refine own_st st5003 ?_
  show own_Go _ _ _ _ T5003 (mkF m 78 #[.val (.int ip0), .val (.long jp1), .second, .val (.long jp2), .second, .val (.long jp3), .second, .val (.long jp4), .second, .val (.long jp5), .second, .val (.int n11), .val (.long j12), .second, .val (.long j14), .second, .val (.long j16), .second, .val (.long j18), .second, .unset, .unset, .unset, .unset, .unset, .unset, .unset, .unset, .unset] [(.ref w_NONE), (.long jp1), (.long jp4), (.ref b5001), (.ref b5001)])
  obtain ⟨_, _, ⟨T5004, L5004, k5004, n5004⟩, -, X5004, ⟨Lc5004, hQ5004, l5004, y5004, z5004⟩, st5004⟩ := X5003.specialBack hx (y := own_y7) rfl hown (mvT hZ (own_w hw 9 rfl)) (mvT hZ (own_w hw 10 rfl)) (mvT hZ (own_w hw 11 rfl)) (by decide) (backOf (W := 1) (own_rm1_4 l Z a0 hw [] b5001 jp4 jp1 w_NONE h5001 n0 Z5001 A5001 F5001_19 F5001_21 F5001_23 F5001_25 g_b5001) hZ (own_w hw 11 rfl) (own_w hw 5 rfl) (by decide) (by decide)) (g := (mkF m 78 #[.val (.int ip0), .val (.long jp1), .second, .val (.long jp2), .second, .val (.long jp3), .second, .val (.long jp4), .second, .val (.long jp5), .second, .val (.int n11), .val (.long j12), .second, .val (.long j14), .second, .val (.long j16), .second, .val (.long j18), .second, .unset, .unset, .unset, .unset, .unset, .unset, .unset, .unset, .unset] [(.ref w_NONE), (.long jp1), (.long jp4), (.ref b5001), (.ref b5001)])) rfl (by rw [hml]; rfl) (Steps.refl _) (a := b5001) (argsL := [(.long jp4), (.long jp1), (.ref w_NONE)]) (rest := [(.ref b5001)]) (lenOf own_pd1 rfl) rfl (by show 2 * 0 + _ ≤ _; exact Nat.le_of_eq rfl) (hb hby at_78) (fun _ _ => ⟨rfl, e5003, (by decide : 1 + 0 ≤ _), (by decide : 4 + 0 ≤ _)⟩)
  dsimp only [Pt.U, Pt.locs, Pt.cells, Pt.slots] at X5004 l5004 y5004 z5004 st5004 hQ5004
  subst l5004 y5004 z5004
  obtain ⟨N5004q, Kq5004, hL5004⟩ := hQ5004
  have N5004 := Fr.app N0 N5004q
  have K5004 : Keep h0 T5004.heap [] := K5001.trans Kq5004 (allS (Or.inr sz_b5001) all0)
  have Z5004 := Nat.le_trans Z5001 Kq5004.1
  rcases hL5004 with ⟨rfl, Fc5004_0_0, Fc5004_0_1, Fc5004_0_2, Fc5004_0_3, -⟩
  · skip
    refine own_st (fun t k => st5004.trans k) ?_
    refine own_st (fun t k => XS.astore X5004.here hx rfl (hb hby at_81) rfl rfl (l' := #[.val (.int ip0), .val (.long jp1), .second, .val (.long jp2), .second, .val (.long jp3), .second, .val (.long jp4), .second, .val (.long jp5), .second, .val (.int n11), .val (.long j12), .second, .val (.long j14), .second, .val (.long j16), .second, .val (.long j18), .second, .val (.ref b5001), .unset, .unset, .unset, .unset, .unset, .unset, .unset, .unset]) rfl k) ?_
    show own_Go _ _ _ _ T5004 (mkF m 83 #[.val (.int ip0), .val (.long jp1), .second, .val (.long jp2), .second, .val (.long jp3), .second, .val (.long jp4), .second, .val (.long jp5), .second, .val (.int n11), .val (.long j12), .second, .val (.long j14), .second, .val (.long j16), .second, .val (.long j18), .second, .val (.ref b5001), .unset, .unset, .unset, .unset, .unset, .unset, .unset, .unset] [])
    obtain ⟨T5005, h5005, X5005, e5005, E5005, A5005, D5005, -, st5005⟩ := newO X5004 hx hZ hown (own_w hw 3 rfl) (own_w hw 4 rfl) (own_w hw 5 rfl) rfl (g := (mkF m 83 #[.val (.int ip0), .val (.long jp1), .second, .val (.long jp2), .second, .val (.long jp3), .second, .val (.long jp4), .second, .val (.long jp5), .second, .val (.int n11), .val (.long j12), .second, .val (.long j14), .second, .val (.long j16), .second, .val (.long j18), .second, .val (.ref b5001), .unset, .unset, .unset, .unset, .unset, .unset, .unset, .unset] [])) rfl (hb hby at_83) (by decide) (by decide)
    obtain ⟨b5005, g5005⟩ : ∃ z, z = T5004.heap.size := ⟨_, rfl⟩
    rw [← g5005] at A5005 D5005 st5005
    have g_b5005 : n0 ≤ b5005 := Nat.le_trans Z5004 (Nat.le_of_eq g5005.symm)
    have sz_b5005 : h0.size ≤ b5005 := Nat.le_trans K5004.1 (Nat.le_of_eq g5005.symm)
    refine own_st st5005 ?_
    have K5005 : Keep h0 h5005 [] := K5004.ext E5005
    have Z5005 := Nat.le_trans Z5004 E5005.1
    have F5005_19 : Fld Z h5005 b5005 own_s1 "id" "J" (.long (0 : Int64)) := D5005 (Or.inr (own_w hw 19 rfl)) (ty := .long) (by decide)
    have F5005_21 : Fld Z h5005 b5005 own_s1 "priority" "J" (.long (0 : Int64)) := D5005 (Or.inr (own_w hw 21 rfl)) (ty := .long) (by decide)
    have F5005_23 : Fld Z h5005 b5005 own_s1 "payload" "[B" .null := D5005 (Or.inr (own_w hw 23 rfl)) (ty := (.array .byte)) (by decide)
    have F5005_25 : Fld Z h5005 b5005 own_s1 "needs" "Lcom/example/lonborg/lonborg/Resources;" .null := D5005 (Or.inr (own_w hw 25 rfl)) (ty := (.object own_s3)) (by decide)
    refine own_st (fun t k => XS.dup X5005.here hx rfl (hb hby at_86) rfl rfl k) ?_
    refine own_st (fun t k => XS.lload X5005.here hx rfl (hb hby at_87) rfl k) ?_
    refine own_st (fun t k => XS.lload X5005.here hx rfl (hb hby at_89) rfl k) ?_
    show own_Go _ _ _ _ T5005 (mkF m 91 #[.val (.int ip0), .val (.long jp1), .second, .val (.long jp2), .second, .val (.long jp3), .second, .val (.long jp4), .second, .val (.long jp5), .second, .val (.int n11), .val (.long j12), .second, .val (.long j14), .second, .val (.long j16), .second, .val (.long j18), .second, .val (.ref b5001), .unset, .unset, .unset, .unset, .unset, .unset, .unset, .unset] [(.long j12), (.long j16), (.ref b5005), (.ref b5005)])
    have f5006 := (own_stak P0 K5005 all0)
    obtain ⟨T5007, X5007, e5007, st5007⟩ := getS2 X5005 hx hZ hown (host := "") (Or.inl (own_w hw 6 rfl)) Via.refl e5005 f5006 (g := (mkF m 91 #[.val (.int ip0), .val (.long jp1), .second, .val (.long jp2), .second, .val (.long jp3), .second, .val (.long jp4), .second, .val (.long jp5), .second, .val (.int n11), .val (.long j12), .second, .val (.long j14), .second, .val (.long j16), .second, .val (.long j18), .second, .val (.ref b5001), .unset, .unset, .unset, .unset, .unset, .unset, .unset, .unset] [(.long j12), (.long j16), (.ref b5005), (.ref b5005)])) rfl (hb hby at_91)
    refine own_st st5007 ?_
    show own_Go _ _ _ _ T5007 (mkF m 94 #[.val (.int ip0), .val (.long jp1), .second, .val (.long jp2), .second, .val (.long jp3), .second, .val (.long jp4), .second, .val (.long jp5), .second, .val (.int n11), .val (.long j12), .second, .val (.long j14), .second, .val (.long j16), .second, .val (.long j18), .second, .val (.ref b5001), .unset, .unset, .unset, .unset, .unset, .unset, .unset, .unset] [(.ref w_NONE), (.long j12), (.long j16), (.ref b5005), (.ref b5005)])
    obtain ⟨_, _, ⟨T5008, L5008, k5008, n5008⟩, -, X5008, ⟨Lc5008, hQ5008, l5008, y5008, z5008⟩, st5008⟩ := X5007.specialBack hx (y := own_y7) rfl hown (mvT hZ (own_w hw 9 rfl)) (mvT hZ (own_w hw 10 rfl)) (mvT hZ (own_w hw 11 rfl)) (by decide) (backOf (W := 1) (own_rm1_4 l Z a0 hw [] b5005 j16 j12 w_NONE h5005 n0 Z5005 A5005 F5005_19 F5005_21 F5005_23 F5005_25 g_b5005) hZ (own_w hw 11 rfl) (own_w hw 5 rfl) (by decide) (by decide)) (g := (mkF m 94 #[.val (.int ip0), .val (.long jp1), .second, .val (.long jp2), .second, .val (.long jp3), .second, .val (.long jp4), .second, .val (.long jp5), .second, .val (.int n11), .val (.long j12), .second, .val (.long j14), .second, .val (.long j16), .second, .val (.long j18), .second, .val (.ref b5001), .unset, .unset, .unset, .unset, .unset, .unset, .unset, .unset] [(.ref w_NONE), (.long j12), (.long j16), (.ref b5005), (.ref b5005)])) rfl (by rw [hml]; rfl) (Steps.refl _) (a := b5005) (argsL := [(.long j16), (.long j12), (.ref w_NONE)]) (rest := [(.ref b5005)]) (lenOf own_pd1 rfl) rfl (by show 2 * 0 + _ ≤ _; exact Nat.le_of_eq rfl) (hb hby at_94) (fun _ _ => ⟨rfl, e5007, (by decide : 2 + 0 ≤ _), (by decide : 8 + 0 ≤ _)⟩)
    dsimp only [Pt.U, Pt.locs, Pt.cells, Pt.slots] at X5008 l5008 y5008 z5008 st5008 hQ5008
    subst l5008 y5008 z5008
    obtain ⟨N5008q, Kq5008, hL5008⟩ := hQ5008
    have N5008 := Fr.app N5004 N5008q
    have K5008 : Keep h0 T5008.heap [] := K5005.trans Kq5008 (allS (Or.inr sz_b5005) all0)
    have Z5008 := Nat.le_trans Z5005 Kq5008.1
    rcases hL5008 with ⟨rfl, Fc5008_0_0, Fc5008_0_1, Fc5008_0_2, Fc5008_0_3, -⟩
    · skip
      refine own_st (fun t k => st5008.trans k) ?_
      refine own_st (fun t k => XS.astore X5008.here hx rfl (hb hby at_97) rfl rfl (l' := #[.val (.int ip0), .val (.long jp1), .second, .val (.long jp2), .second, .val (.long jp3), .second, .val (.long jp4), .second, .val (.long jp5), .second, .val (.int n11), .val (.long j12), .second, .val (.long j14), .second, .val (.long j16), .second, .val (.long j18), .second, .val (.ref b5001), .val (.ref b5005), .unset, .unset, .unset, .unset, .unset, .unset, .unset]) rfl k) ?_
      show own_Go _ _ _ _ T5008 (mkF m 99 #[.val (.int ip0), .val (.long jp1), .second, .val (.long jp2), .second, .val (.long jp3), .second, .val (.long jp4), .second, .val (.long jp5), .second, .val (.int n11), .val (.long j12), .second, .val (.long j14), .second, .val (.long j16), .second, .val (.long j18), .second, .val (.ref b5001), .val (.ref b5005), .unset, .unset, .unset, .unset, .unset, .unset, .unset] [])
      obtain ⟨T5009, h5009, X5009, e5009, E5009, A5009, D5009, -, st5009⟩ := newO X5008 hx hZ hown (own_w hw 3 rfl) (own_w hw 4 rfl) (own_w hw 5 rfl) rfl (g := (mkF m 99 #[.val (.int ip0), .val (.long jp1), .second, .val (.long jp2), .second, .val (.long jp3), .second, .val (.long jp4), .second, .val (.long jp5), .second, .val (.int n11), .val (.long j12), .second, .val (.long j14), .second, .val (.long j16), .second, .val (.long j18), .second, .val (.ref b5001), .val (.ref b5005), .unset, .unset, .unset, .unset, .unset, .unset, .unset] [])) rfl (hb hby at_99) (by decide) (by decide)
      obtain ⟨b5009, g5009⟩ : ∃ z, z = T5008.heap.size := ⟨_, rfl⟩
      rw [← g5009] at A5009 D5009 st5009
      have g_b5009 : n0 ≤ b5009 := Nat.le_trans Z5008 (Nat.le_of_eq g5009.symm)
      have sz_b5009 : h0.size ≤ b5009 := Nat.le_trans K5008.1 (Nat.le_of_eq g5009.symm)
      refine own_st st5009 ?_
      have K5009 : Keep h0 h5009 [] := K5008.ext E5009
      have Z5009 := Nat.le_trans Z5008 E5009.1
      have F5009_19 : Fld Z h5009 b5009 own_s1 "id" "J" (.long (0 : Int64)) := D5009 (Or.inr (own_w hw 19 rfl)) (ty := .long) (by decide)
      have F5009_21 : Fld Z h5009 b5009 own_s1 "priority" "J" (.long (0 : Int64)) := D5009 (Or.inr (own_w hw 21 rfl)) (ty := .long) (by decide)
      have F5009_23 : Fld Z h5009 b5009 own_s1 "payload" "[B" .null := D5009 (Or.inr (own_w hw 23 rfl)) (ty := (.array .byte)) (by decide)
      have F5009_25 : Fld Z h5009 b5009 own_s1 "needs" "Lcom/example/lonborg/lonborg/Resources;" .null := D5009 (Or.inr (own_w hw 25 rfl)) (ty := (.object own_s3)) (by decide)
      show own_Go _ _ _ _ T5009 (mkF m 102 #[.val (.int ip0), .val (.long jp1), .second, .val (.long jp2), .second, .val (.long jp3), .second, .val (.long jp4), .second, .val (.long jp5), .second, .val (.int n11), .val (.long j12), .second, .val (.long j14), .second, .val (.long j16), .second, .val (.long j18), .second, .val (.ref b5001), .val (.ref b5005), .unset, .unset, .unset, .unset, .unset, .unset, .unset] [(.ref b5009)])
      refine own_st (fun t k => XS.dup X5009.here hx rfl (hb hby at_102) rfl rfl k) ?_
      refine own_st (fun t k => XS.lload X5009.here hx rfl (hb hby at_103) rfl k) ?_
      refine own_st (fun t k => XS.lload X5009.here hx rfl (hb hby at_105) rfl k) ?_
      show own_Go _ _ _ _ T5009 (mkF m 107 #[.val (.int ip0), .val (.long jp1), .second, .val (.long jp2), .second, .val (.long jp3), .second, .val (.long jp4), .second, .val (.long jp5), .second, .val (.int n11), .val (.long j12), .second, .val (.long j14), .second, .val (.long j16), .second, .val (.long j18), .second, .val (.ref b5001), .val (.ref b5005), .unset, .unset, .unset, .unset, .unset, .unset, .unset] [(.long j14), (.long j18), (.ref b5009), (.ref b5009)])
      have f5010 := (own_stak P0 K5009 all0)
      obtain ⟨T5011, X5011, e5011, st5011⟩ := getS2 X5009 hx hZ hown (host := "") (Or.inl (own_w hw 6 rfl)) Via.refl e5009 f5010 (g := (mkF m 107 #[.val (.int ip0), .val (.long jp1), .second, .val (.long jp2), .second, .val (.long jp3), .second, .val (.long jp4), .second, .val (.long jp5), .second, .val (.int n11), .val (.long j12), .second, .val (.long j14), .second, .val (.long j16), .second, .val (.long j18), .second, .val (.ref b5001), .val (.ref b5005), .unset, .unset, .unset, .unset, .unset, .unset, .unset] [(.long j14), (.long j18), (.ref b5009), (.ref b5009)])) rfl (hb hby at_107)
      refine own_st st5011 ?_
      show own_Go _ _ _ _ T5011 (mkF m 110 #[.val (.int ip0), .val (.long jp1), .second, .val (.long jp2), .second, .val (.long jp3), .second, .val (.long jp4), .second, .val (.long jp5), .second, .val (.int n11), .val (.long j12), .second, .val (.long j14), .second, .val (.long j16), .second, .val (.long j18), .second, .val (.ref b5001), .val (.ref b5005), .unset, .unset, .unset, .unset, .unset, .unset, .unset] [(.ref w_NONE), (.long j14), (.long j18), (.ref b5009), (.ref b5009)])
      obtain ⟨_, _, ⟨T5012, L5012, k5012, n5012⟩, -, X5012, ⟨Lc5012, hQ5012, l5012, y5012, z5012⟩, st5012⟩ := X5011.specialBack hx (y := own_y7) rfl hown (mvT hZ (own_w hw 9 rfl)) (mvT hZ (own_w hw 10 rfl)) (mvT hZ (own_w hw 11 rfl)) (by decide) (backOf (W := 1) (own_rm1_4 l Z a0 hw [] b5009 j18 j14 w_NONE h5009 n0 Z5009 A5009 F5009_19 F5009_21 F5009_23 F5009_25 g_b5009) hZ (own_w hw 11 rfl) (own_w hw 5 rfl) (by decide) (by decide)) (g := (mkF m 110 #[.val (.int ip0), .val (.long jp1), .second, .val (.long jp2), .second, .val (.long jp3), .second, .val (.long jp4), .second, .val (.long jp5), .second, .val (.int n11), .val (.long j12), .second, .val (.long j14), .second, .val (.long j16), .second, .val (.long j18), .second, .val (.ref b5001), .val (.ref b5005), .unset, .unset, .unset, .unset, .unset, .unset, .unset] [(.ref w_NONE), (.long j14), (.long j18), (.ref b5009), (.ref b5009)])) rfl (by rw [hml]; rfl) (Steps.refl _) (a := b5009) (argsL := [(.long j18), (.long j14), (.ref w_NONE)]) (rest := [(.ref b5009)]) (lenOf own_pd1 rfl) rfl (by show 2 * 0 + _ ≤ _; exact Nat.le_of_eq rfl) (hb hby at_110) (fun _ _ => ⟨rfl, e5011, (by decide : 3 + 0 ≤ _), (by decide : 12 + 0 ≤ _)⟩)
      dsimp only [Pt.U, Pt.locs, Pt.cells, Pt.slots] at X5012 l5012 y5012 z5012 st5012 hQ5012
      subst l5012 y5012 z5012
      obtain ⟨N5012q, Kq5012, hL5012⟩ := hQ5012
      have N5012 := Fr.app N5008 N5012q
      have K5012 : Keep h0 T5012.heap [] := K5009.trans Kq5012 (allS (Or.inr sz_b5009) all0)
      have Z5012 := Nat.le_trans Z5009 Kq5012.1
      rcases hL5012 with ⟨rfl, Fc5012_0_0, Fc5012_0_1, Fc5012_0_2, Fc5012_0_3, -⟩
      · skip
        refine own_st (fun t k => st5012.trans k) ?_
        refine own_st (fun t k => XS.astore X5012.here hx rfl (hb hby at_113) rfl rfl (l' := #[.val (.int ip0), .val (.long jp1), .second, .val (.long jp2), .second, .val (.long jp3), .second, .val (.long jp4), .second, .val (.long jp5), .second, .val (.int n11), .val (.long j12), .second, .val (.long j14), .second, .val (.long j16), .second, .val (.long j18), .second, .val (.ref b5001), .val (.ref b5005), .val (.ref b5009), .unset, .unset, .unset, .unset, .unset, .unset]) rfl k) ?_
        show own_Go _ _ _ _ T5012 (mkF m 115 #[.val (.int ip0), .val (.long jp1), .second, .val (.long jp2), .second, .val (.long jp3), .second, .val (.long jp4), .second, .val (.long jp5), .second, .val (.int n11), .val (.long j12), .second, .val (.long j14), .second, .val (.long j16), .second, .val (.long j18), .second, .val (.ref b5001), .val (.ref b5005), .val (.ref b5009), .unset, .unset, .unset, .unset, .unset, .unset] [])
        obtain ⟨T5013, h5013, X5013, e5013, E5013, A5013, D5013, -, st5013⟩ := newO X5012 hx hZ hown (own_w hw 26 rfl) (own_w hw 27 rfl) (own_w hw 28 rfl) rfl (g := (mkF m 115 #[.val (.int ip0), .val (.long jp1), .second, .val (.long jp2), .second, .val (.long jp3), .second, .val (.long jp4), .second, .val (.long jp5), .second, .val (.int n11), .val (.long j12), .second, .val (.long j14), .second, .val (.long j16), .second, .val (.long j18), .second, .val (.ref b5001), .val (.ref b5005), .val (.ref b5009), .unset, .unset, .unset, .unset, .unset, .unset] [])) rfl (hb hby at_115) (by decide) (by decide)
        obtain ⟨b5013, g5013⟩ : ∃ z, z = T5012.heap.size := ⟨_, rfl⟩
        rw [← g5013] at A5013 D5013 st5013
        have g_b5013 : n0 ≤ b5013 := Nat.le_trans Z5012 (Nat.le_of_eq g5013.symm)
        have sz_b5013 : h0.size ≤ b5013 := Nat.le_trans K5012.1 (Nat.le_of_eq g5013.symm)
        refine own_st st5013 ?_
        have K5013 : Keep h0 h5013 [] := K5012.ext E5013
        have Z5013 := Nat.le_trans Z5012 E5013.1
        have F5013_55 : Fld Z h5013 b5013 own_s4 "root" "Lcom/example/lonborg/lonborg/ItemTree$Node;" .null := D5013 (Or.inl (own_w hw 55 rfl)) (ty := (.object own_s0)) (by decide)
        have F5013_62 : Fld Z h5013 b5013 own_s4 "size" "J" (.long (0 : Int64)) := D5013 (Or.inl (own_w hw 62 rfl)) (ty := .long) (by decide)
        refine own_st (fun t k => XS.dup X5013.here hx rfl (hb hby at_118) rfl rfl k) ?_
        show own_Go _ _ _ _ T5013 (mkF m 119 #[.val (.int ip0), .val (.long jp1), .second, .val (.long jp2), .second, .val (.long jp3), .second, .val (.long jp4), .second, .val (.long jp5), .second, .val (.int n11), .val (.long j12), .second, .val (.long j14), .second, .val (.long j16), .second, .val (.long j18), .second, .val (.ref b5001), .val (.ref b5005), .val (.ref b5009), .unset, .unset, .unset, .unset, .unset, .unset] [(.ref b5013), (.ref b5013)])
        have f5014 := (own_stak P2 K5013 all0)
        obtain ⟨_, _, ⟨T5015, L5015, k5015, n5015⟩, -, X5015, ⟨Lc5015, hQ5015, l5015, y5015, z5015⟩, st5015⟩ := X5013.specialBack hx (y := (⟨own_s4, "<init>", "()V"⟩ : MethodName)) rfl hown (mvT hZ (own_w hw 29 rfl)) (mvT hZ (own_w hw 30 rfl)) (mvT hZ (own_w hw 31 rfl)) (by decide) (backOf (W := 1) (own_rm4_14 l Z a0 hw [] b5013 w_EMPTY h5013 n0 Z5013 f5014 A5013 F5013_55 g_b5013 F5013_62) hZ (own_w hw 31 rfl) (own_w hw 28 rfl) (by decide) (by decide)) (g := (mkF m 119 #[.val (.int ip0), .val (.long jp1), .second, .val (.long jp2), .second, .val (.long jp3), .second, .val (.long jp4), .second, .val (.long jp5), .second, .val (.int n11), .val (.long j12), .second, .val (.long j14), .second, .val (.long j16), .second, .val (.long j18), .second, .val (.ref b5001), .val (.ref b5005), .val (.ref b5009), .unset, .unset, .unset, .unset, .unset, .unset] [(.ref b5013), (.ref b5013)])) rfl (by rw [hml]; rfl) (Steps.refl _) (a := b5013) (argsL := []) (rest := [(.ref b5013)]) (lenOf own_pd2 rfl) rfl (by show 2 * 0 + _ ≤ _; exact Nat.le_of_eq rfl) (hb hby at_119) (fun _ _ => ⟨rfl, e5013, (by decide : 4 + 2 ≤ _), (by decide : 14 + 68 ≤ _)⟩)
        dsimp only [Pt.U, Pt.locs, Pt.cells, Pt.slots] at X5015 l5015 y5015 z5015 st5015 hQ5015
        subst l5015 y5015 z5015
        obtain ⟨N5015q, Kq5015, hL5015⟩ := hQ5015
        have N5015 := Fr.app N5012 N5015q
        have K5015 : Keep h0 T5015.heap [] := K5013.trans Kq5015 (allS (Or.inr sz_b5013) all0)
        have Z5015 := Nat.le_trans Z5013 Kq5015.1
        rcases hL5015 with ⟨b2x4_14c5015, b2x5_18c4c5015, k2x5_18c4c5015, rfl, sq_b2x4_14c5015, sq_b2x5_18c4c5015, Fc5015_0_0, Fc5015_0_1, Fc5015_0_2, Fc5015_0_3, Fc5015_0_4, Fc5015_0_5, Fc5015_0_6, Fc5015_0_7, OFc5015_0_7, Fc5015_0_8, -⟩
        · skip
          have g_b2x4_14c5015 : n0 ≤ b2x4_14c5015 := Nat.le_trans Z5013 sq_b2x4_14c5015
          have sz_b2x4_14c5015 : h0.size ≤ b2x4_14c5015 := Nat.le_trans K5013.1 sq_b2x4_14c5015
          have g_b2x5_18c4c5015 : n0 ≤ b2x5_18c4c5015 := Nat.le_trans Z5013 sq_b2x5_18c4c5015
          have sz_b2x5_18c4c5015 : h0.size ≤ b2x5_18c4c5015 := Nat.le_trans K5013.1 sq_b2x5_18c4c5015
          refine own_st (fun t k => st5015.trans k) ?_
          refine own_st (fun t k => XS.astore X5015.here hx rfl (hb hby at_122) rfl rfl (l' := #[.val (.int ip0), .val (.long jp1), .second, .val (.long jp2), .second, .val (.long jp3), .second, .val (.long jp4), .second, .val (.long jp5), .second, .val (.int n11), .val (.long j12), .second, .val (.long j14), .second, .val (.long j16), .second, .val (.long j18), .second, .val (.ref b5001), .val (.ref b5005), .val (.ref b5009), .val (.ref b5013), .unset, .unset, .unset, .unset, .unset]) rfl k) ?_
          show own_Go _ _ _ _ T5015 (mkF m 124 #[.val (.int ip0), .val (.long jp1), .second, .val (.long jp2), .second, .val (.long jp3), .second, .val (.long jp4), .second, .val (.long jp5), .second, .val (.int n11), .val (.long j12), .second, .val (.long j14), .second, .val (.long j16), .second, .val (.long j18), .second, .val (.ref b5001), .val (.ref b5005), .val (.ref b5009), .val (.ref b5013), .unset, .unset, .unset, .unset, .unset] [])
          rcases hn11 with rfl | rfl | rfl | rfl
          · skip
            refine own_st (fun t k => XS.iload X5015.here hx rfl (hb hby at_124) rfl k) ?_
            show own_Go _ _ _ _ T5015 (mkF m 126 #[.val (.int ip0), .val (.long jp1), .second, .val (.long jp2), .second, .val (.long jp3), .second, .val (.long jp4), .second, .val (.long jp5), .second, .val (.int (0 : Int32)), .val (.long j12), .second, .val (.long j14), .second, .val (.long j16), .second, .val (.long j18), .second, .val (.ref b5001), .val (.ref b5005), .val (.ref b5009), .val (.ref b5013), .unset, .unset, .unset, .unset, .unset] [(.int (0 : Int32))])
            refine own_st (fun t k => XS.iconst X5015.here hx rfl (hb hby at_126) k) ?_
            show own_Go _ _ _ _ T5015 (mkF m 127 #[.val (.int ip0), .val (.long jp1), .second, .val (.long jp2), .second, .val (.long jp3), .second, .val (.long jp4), .second, .val (.long jp5), .second, .val (.int (0 : Int32)), .val (.long j12), .second, .val (.long j14), .second, .val (.long j16), .second, .val (.long j18), .second, .val (.ref b5001), .val (.ref b5005), .val (.ref b5009), .val (.ref b5013), .unset, .unset, .unset, .unset, .unset] [(.int (1 : Int32)), (.int (0 : Int32))])
            refine own_st (fun t k => XS.icmpYes X5015.here hx rfl (pc0 := 127) (pc' := 137) rfl (hb hby at_127) rfl (tlt (by decide : (0 : Int32) < (1 : Int32))).1 (by decide) (by decide) k) ?_
            refine own_st (fun t k => XS.iload X5015.here hx rfl (hb hby at_137) rfl k) ?_
            refine own_st (fun t k => XS.iconst X5015.here hx rfl (hb hby at_139) k) ?_
            show own_Go _ _ _ _ T5015 (mkF m 140 #[.val (.int ip0), .val (.long jp1), .second, .val (.long jp2), .second, .val (.long jp3), .second, .val (.long jp4), .second, .val (.long jp5), .second, .val (.int (0 : Int32)), .val (.long j12), .second, .val (.long j14), .second, .val (.long j16), .second, .val (.long j18), .second, .val (.ref b5001), .val (.ref b5005), .val (.ref b5009), .val (.ref b5013), .unset, .unset, .unset, .unset, .unset] [(.int (2 : Int32)), (.int (0 : Int32))])
            refine own_st (fun t k => XS.icmpYes X5015.here hx rfl (pc0 := 140) (pc' := 150) rfl (hb hby at_140) rfl (tlt (by decide : (0 : Int32) < (2 : Int32))).1 (by decide) (by decide) k) ?_
            refine own_st (fun t k => XS.iload X5015.here hx rfl (hb hby at_150) rfl k) ?_
            refine own_st (fun t k => XS.iconst X5015.here hx rfl (hb hby at_152) k) ?_
            show own_Go _ _ _ _ T5015 (mkF m 153 #[.val (.int ip0), .val (.long jp1), .second, .val (.long jp2), .second, .val (.long jp3), .second, .val (.long jp4), .second, .val (.long jp5), .second, .val (.int (0 : Int32)), .val (.long j12), .second, .val (.long j14), .second, .val (.long j16), .second, .val (.long j18), .second, .val (.ref b5001), .val (.ref b5005), .val (.ref b5009), .val (.ref b5013), .unset, .unset, .unset, .unset, .unset] [(.int (3 : Int32)), (.int (0 : Int32))])
            refine own_st (fun t k => XS.icmpYes X5015.here hx rfl (pc0 := 153) (pc' := 163) rfl (hb hby at_153) rfl (tlt (by decide : (0 : Int32) < (3 : Int32))).1 (by decide) (by decide) k) ?_
            show own_Go _ _ _ _ T5015 (mkF m 163 #[.val (.int ip0), .val (.long jp1), .second, .val (.long jp2), .second, .val (.long jp3), .second, .val (.long jp4), .second, .val (.long jp5), .second, .val (.int (0 : Int32)), .val (.long j12), .second, .val (.long j14), .second, .val (.long j16), .second, .val (.long j18), .second, .val (.ref b5001), .val (.ref b5005), .val (.ref b5009), .val (.ref b5013), .unset, .unset, .unset, .unset, .unset] [])
            refine own_st (fun t k => XS.aconstNull X5015.here hx rfl (hb hby at_163) k) ?_
            refine own_st (fun t k => XS.astore X5015.here hx rfl (hb hby at_164) rfl rfl (l' := #[.val (.int ip0), .val (.long jp1), .second, .val (.long jp2), .second, .val (.long jp3), .second, .val (.long jp4), .second, .val (.long jp5), .second, .val (.int (0 : Int32)), .val (.long j12), .second, .val (.long j14), .second, .val (.long j16), .second, .val (.long j18), .second, .val (.ref b5001), .val (.ref b5005), .val (.ref b5009), .val (.ref b5013), .val .null, .unset, .unset, .unset, .unset]) rfl k) ?_
            refine own_st (fun t k => XS.lconst X5015.here hx rfl (hb hby at_166) k) ?_
            refine own_st (fun t k => XS.lstore X5015.here hx rfl (hb hby at_167) rfl (l' := #[.val (.int ip0), .val (.long jp1), .second, .val (.long jp2), .second, .val (.long jp3), .second, .val (.long jp4), .second, .val (.long jp5), .second, .val (.int (0 : Int32)), .val (.long j12), .second, .val (.long j14), .second, .val (.long j16), .second, .val (.long j18), .second, .val (.ref b5001), .val (.ref b5005), .val (.ref b5009), .val (.ref b5013), .val .null, .val (.long (0 : Int64)), .second, .unset, .unset]) rfl k) ?_
            show own_Go _ _ _ _ T5015 (mkF m 169 #[.val (.int ip0), .val (.long jp1), .second, .val (.long jp2), .second, .val (.long jp3), .second, .val (.long jp4), .second, .val (.long jp5), .second, .val (.int (0 : Int32)), .val (.long j12), .second, .val (.long j14), .second, .val (.long j16), .second, .val (.long j18), .second, .val (.ref b5001), .val (.ref b5005), .val (.ref b5009), .val (.ref b5013), .val .null, .val (.long (0 : Int64)), .second, .unset, .unset] [])
            refine own_st (fun t k => XS.lconst X5015.here hx rfl (hb hby at_169) k) ?_
            refine own_st (fun t k => XS.lstore X5015.here hx rfl (hb hby at_170) rfl (l' := #[.val (.int ip0), .val (.long jp1), .second, .val (.long jp2), .second, .val (.long jp3), .second, .val (.long jp4), .second, .val (.long jp5), .second, .val (.int (0 : Int32)), .val (.long j12), .second, .val (.long j14), .second, .val (.long j16), .second, .val (.long j18), .second, .val (.ref b5001), .val (.ref b5005), .val (.ref b5009), .val (.ref b5013), .val .null, .val (.long (0 : Int64)), .second, .val (.long (0 : Int64)), .second]) rfl k) ?_
            refine own_st (fun t k => XS.iload X5015.here hx rfl (hb hby at_172) rfl k) ?_
            refine own_st (fun t k => XS.iconst X5015.here hx rfl (hb hby at_174) k) ?_
            show own_Go _ _ _ _ T5015 (mkF m 175 #[.val (.int ip0), .val (.long jp1), .second, .val (.long jp2), .second, .val (.long jp3), .second, .val (.long jp4), .second, .val (.long jp5), .second, .val (.int (0 : Int32)), .val (.long j12), .second, .val (.long j14), .second, .val (.long j16), .second, .val (.long j18), .second, .val (.ref b5001), .val (.ref b5005), .val (.ref b5009), .val (.ref b5013), .val .null, .val (.long (0 : Int64)), .second, .val (.long (0 : Int64)), .second] [(.int (1 : Int32)), (.int (0 : Int32))])
            refine own_st (fun t k => XS.icmpYes X5015.here hx rfl (pc0 := 175) (pc' := 189) rfl (hb hby at_175) rfl (tlt (by decide : (0 : Int32) < (1 : Int32))).1 (by decide) (by decide) k) ?_
            refine own_st (fun t k => XS.iload X5015.here hx rfl (hb hby at_189) rfl k) ?_
            refine own_st (fun t k => XS.iconst X5015.here hx rfl (hb hby at_191) k) ?_
            show own_Go _ _ _ _ T5015 (mkF m 192 #[.val (.int ip0), .val (.long jp1), .second, .val (.long jp2), .second, .val (.long jp3), .second, .val (.long jp4), .second, .val (.long jp5), .second, .val (.int (0 : Int32)), .val (.long j12), .second, .val (.long j14), .second, .val (.long j16), .second, .val (.long j18), .second, .val (.ref b5001), .val (.ref b5005), .val (.ref b5009), .val (.ref b5013), .val .null, .val (.long (0 : Int64)), .second, .val (.long (0 : Int64)), .second] [(.int (2 : Int32)), (.int (0 : Int32))])
            refine own_st (fun t k => XS.icmpYes X5015.here hx rfl (pc0 := 192) (pc' := 221) rfl (hb hby at_192) rfl (tlt (by decide : (0 : Int32) < (2 : Int32))).1 (by decide) (by decide) k) ?_
            show own_Go _ _ _ _ T5015 (mkF m 221 #[.val (.int ip0), .val (.long jp1), .second, .val (.long jp2), .second, .val (.long jp3), .second, .val (.long jp4), .second, .val (.long jp5), .second, .val (.int (0 : Int32)), .val (.long j12), .second, .val (.long j14), .second, .val (.long j16), .second, .val (.long j18), .second, .val (.ref b5001), .val (.ref b5005), .val (.ref b5009), .val (.ref b5013), .val .null, .val (.long (0 : Int64)), .second, .val (.long (0 : Int64)), .second] [])
            refine own_st (fun t k => XS.iload X5015.here hx rfl (hb hby at_221) rfl k) ?_
            refine own_st (fun t k => XS.iconst X5015.here hx rfl (hb hby at_223) k) ?_
            show own_Go _ _ _ _ T5015 (mkF m 224 #[.val (.int ip0), .val (.long jp1), .second, .val (.long jp2), .second, .val (.long jp3), .second, .val (.long jp4), .second, .val (.long jp5), .second, .val (.int (0 : Int32)), .val (.long j12), .second, .val (.long j14), .second, .val (.long j16), .second, .val (.long j18), .second, .val (.ref b5001), .val (.ref b5005), .val (.ref b5009), .val (.ref b5013), .val .null, .val (.long (0 : Int64)), .second, .val (.long (0 : Int64)), .second] [(.int (3 : Int32)), (.int (0 : Int32))])
            refine own_st (fun t k => XS.icmpYes X5015.here hx rfl (pc0 := 224) (pc' := 245) rfl (hb hby at_224) rfl (tlt (by decide : (0 : Int32) < (3 : Int32))).1 (by decide) (by decide) k) ?_
            refine own_st (fun t k => XS.aload X5015.here hx rfl (hb hby at_245) rfl rfl k) ?_
            show own_Go _ _ _ _ T5015 (mkF m 247 #[.val (.int ip0), .val (.long jp1), .second, .val (.long jp2), .second, .val (.long jp3), .second, .val (.long jp4), .second, .val (.long jp5), .second, .val (.int (0 : Int32)), .val (.long j12), .second, .val (.long j14), .second, .val (.long j16), .second, .val (.long j18), .second, .val (.ref b5001), .val (.ref b5005), .val (.ref b5009), .val (.ref b5013), .val .null, .val (.long (0 : Int64)), .second, .val (.long (0 : Int64)), .second] [(.ref b5013)])
            have f5017 := (A5013.keep Kq5015)
            obtain ⟨cq5016, kq5016, q5016a, q5016b, q5016c⟩ := isOf hZ rfl f5017
            obtain ⟨_, _, ⟨T5016, L5016, k5016, n5016⟩, -, X5016, ⟨Lc5016, hQ5016, l5016, y5016, z5016⟩, st5016⟩ := X5015.virtualBack hx (y := own_y1) (z := own_y1) hown (mvT hZ (own_w hw 56 rfl)) (mvT hZ (own_w hw 57 rfl)) (notFace_of_selects (args := #[]) (mvT hZ (own_w hw 59 rfl))) (mvT hZ (own_w hw 59 rfl)) (mvT hZ (own_w hw 58 rfl)) (by decide) (backOf (W := 0) (own_rm7_21 l Z a0 hw [] b5013 T5015.heap n0 Z5015 Fc5015_0_1) hZ (own_w hw 60 rfl) (own_w hw 28 rfl) (by decide) (by decide)) q5016a q5016c (g := (mkF m 247 #[.val (.int ip0), .val (.long jp1), .second, .val (.long jp2), .second, .val (.long jp3), .second, .val (.long jp4), .second, .val (.long jp5), .second, .val (.int (0 : Int32)), .val (.long j12), .second, .val (.long j14), .second, .val (.long j16), .second, .val (.long j18), .second, .val (.ref b5001), .val (.ref b5005), .val (.ref b5009), .val (.ref b5013), .val .null, .val (.long (0 : Int64)), .second, .val (.long (0 : Int64)), .second] [(.ref b5013)])) rfl (by rw [hml]; rfl) (Steps.refl _) (argsL := []) (rest := []) (lenOf own_pd3 rfl) rfl (by show 2 * 0 + _ ≤ _; exact Nat.le_of_eq rfl) (hb hby at_247) (fun _ _ => ⟨rfl, rfl, (by decide : 6 + 0 ≤ _), (by decide : 82 + 0 ≤ _)⟩)
            dsimp only [Pt.U, Pt.locs, Pt.cells, Pt.slots] at X5016 l5016 y5016 z5016 st5016 hQ5016
            subst l5016 y5016 z5016
            obtain ⟨N5016q, Kq5016, hL5016⟩ := hQ5016
            have N5016 := Fr.app N5015 N5016q
            have K5016 : Keep h0 T5016.heap [] := K5015.trans Kq5016 all0
            have Z5016 := Nat.le_trans Z5015 Kq5016.1
            rcases hL5016 with ⟨rfl, -⟩
            · skip
              refine own_st (fun t k => st5016.trans k) ?_
              refine own_st (fun t k => XS.aload X5016.here hx rfl (hb hby at_250) rfl rfl k) ?_
              show own_Go _ _ _ _ T5016 (mkF m 252 #[.val (.int ip0), .val (.long jp1), .second, .val (.long jp2), .second, .val (.long jp3), .second, .val (.long jp4), .second, .val (.long jp5), .second, .val (.int (0 : Int32)), .val (.long j12), .second, .val (.long j14), .second, .val (.long j16), .second, .val (.long j18), .second, .val (.ref b5001), .val (.ref b5005), .val (.ref b5009), .val (.ref b5013), .val .null, .val (.long (0 : Int64)), .second, .val (.long (0 : Int64)), .second] [.null, .null])
              refine own_st (fun t k => Jvm.RoadKit.acmp (g := (mkF m 252 #[.val (.int ip0), .val (.long jp1), .second, .val (.long jp2), .second, .val (.long jp3), .second, .val (.long jp4), .second, .val (.long jp5), .second, .val (.int (0 : Int32)), .val (.long j12), .second, .val (.long j14), .second, .val (.long j16), .second, .val (.long j18), .second, .val (.ref b5001), .val (.ref b5005), .val (.ref b5009), .val (.ref b5013), .val .null, .val (.long (0 : Int64)), .second, .val (.long (0 : Int64)), .second] [.null, .null])) X5016 hx rfl rfl rfl (pc0 := 252) (pc' := 255) (same := true) rfl (hb hby at_252) rfl (decide_eq_true rfl) (by decide) (by decide) k) ?_
              refine own_st (fun t k => XS.iconst X5016.here hx rfl (hb hby at_255) k) ?_
              show own_Go _ _ _ _ T5016 (mkF m 256 #[.val (.int ip0), .val (.long jp1), .second, .val (.long jp2), .second, .val (.long jp3), .second, .val (.long jp4), .second, .val (.long jp5), .second, .val (.int (0 : Int32)), .val (.long j12), .second, .val (.long j14), .second, .val (.long j16), .second, .val (.long j18), .second, .val (.ref b5001), .val (.ref b5005), .val (.ref b5009), .val (.ref b5013), .val .null, .val (.long (0 : Int64)), .second, .val (.long (0 : Int64)), .second] [(.int (1 : Int32))])
              refine own_st (fun t k => XS.goto X5016.here hx rfl (pc0 := 256) (pc' := 260) rfl (hb hby at_256) (by decide) (by decide) k) ?_
              show own_Go _ _ _ _ T5016 (mkF m 260 #[.val (.int ip0), .val (.long jp1), .second, .val (.long jp2), .second, .val (.long jp3), .second, .val (.long jp4), .second, .val (.long jp5), .second, .val (.int (0 : Int32)), .val (.long j12), .second, .val (.long j14), .second, .val (.long j16), .second, .val (.long j18), .second, .val (.ref b5001), .val (.ref b5005), .val (.ref b5009), .val (.ref b5013), .val .null, .val (.long (0 : Int64)), .second, .val (.long (0 : Int64)), .second] [(.int (1 : Int32))])
              exact own_retZ X5016 hx hlk (t := .boolean) hret (by simp) (hb hby at_260) (by decide) (by decide) rfl ⟨rfl, N5016⟩
          · skip
            refine own_st (fun t k => XS.iload X5015.here hx rfl (hb hby at_124) rfl k) ?_
            refine own_st (fun t k => XS.iconst X5015.here hx rfl (hb hby at_126) k) ?_
            show own_Go _ _ _ _ T5015 (mkF m 127 #[.val (.int ip0), .val (.long jp1), .second, .val (.long jp2), .second, .val (.long jp3), .second, .val (.long jp4), .second, .val (.long jp5), .second, .val (.int (1 : Int32)), .val (.long j12), .second, .val (.long j14), .second, .val (.long j16), .second, .val (.long j18), .second, .val (.ref b5001), .val (.ref b5005), .val (.ref b5009), .val (.ref b5013), .unset, .unset, .unset, .unset, .unset] [(.int (1 : Int32)), (.int (1 : Int32))])
            refine own_st (fun t k => XS.icmpNo X5015.here hx rfl (hb hby at_127) rfl (flt (by decide : ¬ ((1 : Int32) < (1 : Int32)))).1 k) ?_
            refine own_st (fun t k => XS.aload X5015.here hx rfl (hb hby at_130) rfl rfl k) ?_
            refine own_st (fun t k => XS.aload X5015.here hx rfl (hb hby at_132) rfl rfl k) ?_
            show own_Go _ _ _ _ T5015 (mkF m 134 #[.val (.int ip0), .val (.long jp1), .second, .val (.long jp2), .second, .val (.long jp3), .second, .val (.long jp4), .second, .val (.long jp5), .second, .val (.int (1 : Int32)), .val (.long j12), .second, .val (.long j14), .second, .val (.long j16), .second, .val (.long j18), .second, .val (.ref b5001), .val (.ref b5005), .val (.ref b5009), .val (.ref b5013), .unset, .unset, .unset, .unset, .unset] [(.ref b5001), (.ref b5013)])
            have ne5018 : b5001 ≠ b5005 := Nat.ne_of_lt (Nat.lt_of_lt_of_le (A5001.keep Kq5004).lt (Nat.le_of_eq g5005.symm))
            have ne5019 : b5001 ≠ b5009 := Nat.ne_of_lt (Nat.lt_of_lt_of_le (((A5001.keep Kq5004).ext E5005).keep Kq5008).lt (Nat.le_of_eq g5009.symm))
            have ne5020 : b5001 ≠ b5013 := Nat.ne_of_lt (Nat.lt_of_lt_of_le (((((A5001.keep Kq5004).ext E5005).keep Kq5008).ext E5009).keep Kq5012).lt (Nat.le_of_eq g5013.symm))
            have f5021 := ((((((Fc5004_0_3.ext E5005).keep Kq5008 (ninS ne5018 nin0)).ext E5009).keep Kq5012 (ninS ne5019 nin0)).ext E5013).keep Kq5015 (ninS ne5020 nin0))
            have f5022 := (((((((A5001.keep Kq5004).ext E5005).keep Kq5008).ext E5009).keep Kq5012).ext E5013).keep Kq5015)
            have f5023 := (own_stak f5014 Kq5015 (allS (own_plE A5013) all0))
            have f5024 := (P4.keep K5015 nin0)
            have f5025 := (P6.keep K5015 nin0)
            have f5026 := (P1.keep K5015)
            have f5027 := (P3.keep K5015)
            have f5028 := (A5013.keep Kq5015)
            obtain ⟨cq5029, kq5029, q5029a, q5029b, q5029c⟩ := isOf hZ rfl f5028
            obtain ⟨_, _, ⟨T5029, L5029, k5029, n5029⟩, -, X5029, ⟨Lc5029, hQ5029, l5029, y5029, z5029⟩, st5029⟩ := X5015.virtualBack hx (y := own_y2) (z := own_y2) hown (mvT hZ (own_w hw 63 rfl)) (mvT hZ (own_w hw 64 rfl)) (notFace_of_selects (args := #[]) (mvT hZ (own_w hw 66 rfl))) (mvT hZ (own_w hw 66 rfl)) (mvT hZ (own_w hw 65 rfl)) (by decide) (backOf (W := 0) (own_rm8_47 l Z a0 hw [] b5013 b5001 b2x4_14c5015 w_NONE w_EMPTY w_EMPTY_parts k_w_EMPTY_parts b2x5_18c4c5015 k2x5_18c4c5015 T5015.heap n0 Z5015 Fc5015_0_0 Fc5015_0_5 Fc5015_0_2 f5021 f5022 f5023 Fc5015_0_3 Fc5015_0_6 f5024 f5025 f5026 f5027 Fc5015_0_4 Fc5015_0_7 OFc5015_0_7 Fc5015_0_8 g_b2x4_14c5015 g_b2x5_18c4c5015 Fc5015_0_1 f5028 g_b5013) hZ (own_w hw 67 rfl) (own_w hw 28 rfl) (by decide) (by decide)) q5029a q5029c (g := (mkF m 134 #[.val (.int ip0), .val (.long jp1), .second, .val (.long jp2), .second, .val (.long jp3), .second, .val (.long jp4), .second, .val (.long jp5), .second, .val (.int (1 : Int32)), .val (.long j12), .second, .val (.long j14), .second, .val (.long j16), .second, .val (.long j18), .second, .val (.ref b5001), .val (.ref b5005), .val (.ref b5009), .val (.ref b5013), .unset, .unset, .unset, .unset, .unset] [(.ref b5001), (.ref b5013)])) rfl (by rw [hml]; rfl) (Steps.refl _) (argsL := [(.ref b5001)]) (rest := []) (lenOf own_pd12 rfl) rfl (by show 2 * 0 + _ ≤ _; exact Nat.le_of_eq rfl) (hb hby at_134) (fun _ _ => ⟨rfl, rfl, (by decide : 6 + 2 ≤ _), (by decide : 82 + 2 ≤ _)⟩)
            dsimp only [Pt.U, Pt.locs, Pt.cells, Pt.slots] at X5029 l5029 y5029 z5029 st5029 hQ5029
            subst l5029 y5029 z5029
            obtain ⟨N5029q, Kq5029, hL5029⟩ := hQ5029
            have N5029 := Fr.app N5015 N5029q
            have K5029 : Keep h0 T5029.heap [] := K5015.trans Kq5029 (allS (Or.inr sz_b2x5_18c4c5015) (allS (Or.inr sz_b2x4_14c5015) (allS (Or.inr sz_b5013) all0)))
            have Z5029 := Nat.le_trans Z5015 Kq5029.1
            rcases hL5029 with ⟨b6x14_69c4c13c16c2c5029, b3x14_69c4c13c16c2c5029, k2x5_18c4c5015c2c5029, k3x14_69c4c13c16c2c5029, rfl, hq5029_0_0, sq_b6x14_69c4c13c16c2c5029, sq_b3x14_69c4c13c16c2c5029, Fc5029_0_0, OFc5029_0_0, Fc5029_0_1, Fc5029_0_2, Fc5029_0_3, Fc5029_0_4, Fc5029_0_5, Fc5029_0_6, Fc5029_0_7, Fc5029_0_8, Fc5029_0_9, OFc5029_0_9, Fc5029_0_10, -⟩
            · skip
              have g_b6x14_69c4c13c16c2c5029 : n0 ≤ b6x14_69c4c13c16c2c5029 := Nat.le_trans Z5015 sq_b6x14_69c4c13c16c2c5029
              have sz_b6x14_69c4c13c16c2c5029 : h0.size ≤ b6x14_69c4c13c16c2c5029 := Nat.le_trans K5015.1 sq_b6x14_69c4c13c16c2c5029
              have g_b3x14_69c4c13c16c2c5029 : n0 ≤ b3x14_69c4c13c16c2c5029 := Nat.le_trans Z5015 sq_b3x14_69c4c13c16c2c5029
              have sz_b3x14_69c4c13c16c2c5029 : h0.size ≤ b3x14_69c4c13c16c2c5029 := Nat.le_trans K5015.1 sq_b3x14_69c4c13c16c2c5029
              refine own_st (fun t k => st5029.trans k) ?_
              show own_Go _ _ _ _ T5029 (mkF m 137 #[.val (.int ip0), .val (.long jp1), .second, .val (.long jp2), .second, .val (.long jp3), .second, .val (.long jp4), .second, .val (.long jp5), .second, .val (.int (1 : Int32)), .val (.long j12), .second, .val (.long j14), .second, .val (.long j16), .second, .val (.long j18), .second, .val (.ref b5001), .val (.ref b5005), .val (.ref b5009), .val (.ref b5013), .unset, .unset, .unset, .unset, .unset] [])
              refine own_st (fun t k => XS.iload X5029.here hx rfl (hb hby at_137) rfl k) ?_
              refine own_st (fun t k => XS.iconst X5029.here hx rfl (hb hby at_139) k) ?_
              show own_Go _ _ _ _ T5029 (mkF m 140 #[.val (.int ip0), .val (.long jp1), .second, .val (.long jp2), .second, .val (.long jp3), .second, .val (.long jp4), .second, .val (.long jp5), .second, .val (.int (1 : Int32)), .val (.long j12), .second, .val (.long j14), .second, .val (.long j16), .second, .val (.long j18), .second, .val (.ref b5001), .val (.ref b5005), .val (.ref b5009), .val (.ref b5013), .unset, .unset, .unset, .unset, .unset] [(.int (2 : Int32)), (.int (1 : Int32))])
              refine own_st (fun t k => XS.icmpYes X5029.here hx rfl (pc0 := 140) (pc' := 150) rfl (hb hby at_140) rfl (tlt (by decide : (1 : Int32) < (2 : Int32))).1 (by decide) (by decide) k) ?_
              refine own_st (fun t k => XS.iload X5029.here hx rfl (hb hby at_150) rfl k) ?_
              show own_Go _ _ _ _ T5029 (mkF m 152 #[.val (.int ip0), .val (.long jp1), .second, .val (.long jp2), .second, .val (.long jp3), .second, .val (.long jp4), .second, .val (.long jp5), .second, .val (.int (1 : Int32)), .val (.long j12), .second, .val (.long j14), .second, .val (.long j16), .second, .val (.long j18), .second, .val (.ref b5001), .val (.ref b5005), .val (.ref b5009), .val (.ref b5013), .unset, .unset, .unset, .unset, .unset] [(.int (1 : Int32))])
              refine own_st (fun t k => XS.iconst X5029.here hx rfl (hb hby at_152) k) ?_
              show own_Go _ _ _ _ T5029 (mkF m 153 #[.val (.int ip0), .val (.long jp1), .second, .val (.long jp2), .second, .val (.long jp3), .second, .val (.long jp4), .second, .val (.long jp5), .second, .val (.int (1 : Int32)), .val (.long j12), .second, .val (.long j14), .second, .val (.long j16), .second, .val (.long j18), .second, .val (.ref b5001), .val (.ref b5005), .val (.ref b5009), .val (.ref b5013), .unset, .unset, .unset, .unset, .unset] [(.int (3 : Int32)), (.int (1 : Int32))])
              refine own_st (fun t k => XS.icmpYes X5029.here hx rfl (pc0 := 153) (pc' := 163) rfl (hb hby at_153) rfl (tlt (by decide : (1 : Int32) < (3 : Int32))).1 (by decide) (by decide) k) ?_
              refine own_st (fun t k => XS.aconstNull X5029.here hx rfl (hb hby at_163) k) ?_
              refine own_st (fun t k => XS.astore X5029.here hx rfl (hb hby at_164) rfl rfl (l' := #[.val (.int ip0), .val (.long jp1), .second, .val (.long jp2), .second, .val (.long jp3), .second, .val (.long jp4), .second, .val (.long jp5), .second, .val (.int (1 : Int32)), .val (.long j12), .second, .val (.long j14), .second, .val (.long j16), .second, .val (.long j18), .second, .val (.ref b5001), .val (.ref b5005), .val (.ref b5009), .val (.ref b5013), .val .null, .unset, .unset, .unset, .unset]) rfl k) ?_
              show own_Go _ _ _ _ T5029 (mkF m 166 #[.val (.int ip0), .val (.long jp1), .second, .val (.long jp2), .second, .val (.long jp3), .second, .val (.long jp4), .second, .val (.long jp5), .second, .val (.int (1 : Int32)), .val (.long j12), .second, .val (.long j14), .second, .val (.long j16), .second, .val (.long j18), .second, .val (.ref b5001), .val (.ref b5005), .val (.ref b5009), .val (.ref b5013), .val .null, .unset, .unset, .unset, .unset] [])
              refine own_st (fun t k => XS.lconst X5029.here hx rfl (hb hby at_166) k) ?_
              refine own_st (fun t k => XS.lstore X5029.here hx rfl (hb hby at_167) rfl (l' := #[.val (.int ip0), .val (.long jp1), .second, .val (.long jp2), .second, .val (.long jp3), .second, .val (.long jp4), .second, .val (.long jp5), .second, .val (.int (1 : Int32)), .val (.long j12), .second, .val (.long j14), .second, .val (.long j16), .second, .val (.long j18), .second, .val (.ref b5001), .val (.ref b5005), .val (.ref b5009), .val (.ref b5013), .val .null, .val (.long (0 : Int64)), .second, .unset, .unset]) rfl k) ?_
              refine own_st (fun t k => XS.lconst X5029.here hx rfl (hb hby at_169) k) ?_
              refine own_st (fun t k => XS.lstore X5029.here hx rfl (hb hby at_170) rfl (l' := #[.val (.int ip0), .val (.long jp1), .second, .val (.long jp2), .second, .val (.long jp3), .second, .val (.long jp4), .second, .val (.long jp5), .second, .val (.int (1 : Int32)), .val (.long j12), .second, .val (.long j14), .second, .val (.long j16), .second, .val (.long j18), .second, .val (.ref b5001), .val (.ref b5005), .val (.ref b5009), .val (.ref b5013), .val .null, .val (.long (0 : Int64)), .second, .val (.long (0 : Int64)), .second]) rfl k) ?_
              show own_Go _ _ _ _ T5029 (mkF m 172 #[.val (.int ip0), .val (.long jp1), .second, .val (.long jp2), .second, .val (.long jp3), .second, .val (.long jp4), .second, .val (.long jp5), .second, .val (.int (1 : Int32)), .val (.long j12), .second, .val (.long j14), .second, .val (.long j16), .second, .val (.long j18), .second, .val (.ref b5001), .val (.ref b5005), .val (.ref b5009), .val (.ref b5013), .val .null, .val (.long (0 : Int64)), .second, .val (.long (0 : Int64)), .second] [])
              refine own_st (fun t k => XS.iload X5029.here hx rfl (hb hby at_172) rfl k) ?_
              refine own_st (fun t k => XS.iconst X5029.here hx rfl (hb hby at_174) k) ?_
              show own_Go _ _ _ _ T5029 (mkF m 175 #[.val (.int ip0), .val (.long jp1), .second, .val (.long jp2), .second, .val (.long jp3), .second, .val (.long jp4), .second, .val (.long jp5), .second, .val (.int (1 : Int32)), .val (.long j12), .second, .val (.long j14), .second, .val (.long j16), .second, .val (.long j18), .second, .val (.ref b5001), .val (.ref b5005), .val (.ref b5009), .val (.ref b5013), .val .null, .val (.long (0 : Int64)), .second, .val (.long (0 : Int64)), .second] [(.int (1 : Int32)), (.int (1 : Int32))])
              refine own_st (fun t k => XS.icmpNo X5029.here hx rfl (hb hby at_175) rfl (flt (by decide : ¬ ((1 : Int32) < (1 : Int32)))).1 k) ?_
              refine own_st (fun t k => XS.aload X5029.here hx rfl (hb hby at_178) rfl rfl k) ?_
              show own_Go _ _ _ _ T5029 (mkF m 180 #[.val (.int ip0), .val (.long jp1), .second, .val (.long jp2), .second, .val (.long jp3), .second, .val (.long jp4), .second, .val (.long jp5), .second, .val (.int (1 : Int32)), .val (.long j12), .second, .val (.long j14), .second, .val (.long j16), .second, .val (.long j18), .second, .val (.ref b5001), .val (.ref b5005), .val (.ref b5009), .val (.ref b5013), .val .null, .val (.long (0 : Int64)), .second, .val (.long (0 : Int64)), .second] [(.ref b5001)])
              refine own_st (fun t k => XS.astore X5029.here hx rfl (hb hby at_180) rfl rfl (l' := #[.val (.int ip0), .val (.long jp1), .second, .val (.long jp2), .second, .val (.long jp3), .second, .val (.long jp4), .second, .val (.long jp5), .second, .val (.int (1 : Int32)), .val (.long j12), .second, .val (.long j14), .second, .val (.long j16), .second, .val (.long j18), .second, .val (.ref b5001), .val (.ref b5005), .val (.ref b5009), .val (.ref b5013), .val (.ref b5001), .val (.long (0 : Int64)), .second, .val (.long (0 : Int64)), .second]) rfl k) ?_
              refine own_st (fun t k => XS.lloadN X5029.here hx rfl (hb hby at_182) rfl k) ?_
              refine own_st (fun t k => XS.lstore X5029.here hx rfl (hb hby at_183) rfl (l' := #[.val (.int ip0), .val (.long jp1), .second, .val (.long jp2), .second, .val (.long jp3), .second, .val (.long jp4), .second, .val (.long jp5), .second, .val (.int (1 : Int32)), .val (.long j12), .second, .val (.long j14), .second, .val (.long j16), .second, .val (.long j18), .second, .val (.ref b5001), .val (.ref b5005), .val (.ref b5009), .val (.ref b5013), .val (.ref b5001), .val (.long jp1), .second, .val (.long (0 : Int64)), .second]) rfl k) ?_
              refine own_st (fun t k => XS.lload X5029.here hx rfl (hb hby at_185) rfl k) ?_
              show own_Go _ _ _ _ T5029 (mkF m 187 #[.val (.int ip0), .val (.long jp1), .second, .val (.long jp2), .second, .val (.long jp3), .second, .val (.long jp4), .second, .val (.long jp5), .second, .val (.int (1 : Int32)), .val (.long j12), .second, .val (.long j14), .second, .val (.long j16), .second, .val (.long j18), .second, .val (.ref b5001), .val (.ref b5005), .val (.ref b5009), .val (.ref b5013), .val (.ref b5001), .val (.long jp1), .second, .val (.long (0 : Int64)), .second] [(.long jp4)])
              refine own_st (fun t k => XS.lstore X5029.here hx rfl (hb hby at_187) rfl (l' := #[.val (.int ip0), .val (.long jp1), .second, .val (.long jp2), .second, .val (.long jp3), .second, .val (.long jp4), .second, .val (.long jp5), .second, .val (.int (1 : Int32)), .val (.long j12), .second, .val (.long j14), .second, .val (.long j16), .second, .val (.long j18), .second, .val (.ref b5001), .val (.ref b5005), .val (.ref b5009), .val (.ref b5013), .val (.ref b5001), .val (.long jp1), .second, .val (.long jp4), .second]) rfl k) ?_
              refine own_st (fun t k => XS.iload X5029.here hx rfl (hb hby at_189) rfl k) ?_
              refine own_st (fun t k => XS.iconst X5029.here hx rfl (hb hby at_191) k) ?_
              show own_Go _ _ _ _ T5029 (mkF m 192 #[.val (.int ip0), .val (.long jp1), .second, .val (.long jp2), .second, .val (.long jp3), .second, .val (.long jp4), .second, .val (.long jp5), .second, .val (.int (1 : Int32)), .val (.long j12), .second, .val (.long j14), .second, .val (.long j16), .second, .val (.long j18), .second, .val (.ref b5001), .val (.ref b5005), .val (.ref b5009), .val (.ref b5013), .val (.ref b5001), .val (.long jp1), .second, .val (.long jp4), .second] [(.int (2 : Int32)), (.int (1 : Int32))])
              refine own_st (fun t k => XS.icmpYes X5029.here hx rfl (pc0 := 192) (pc' := 221) rfl (hb hby at_192) rfl (tlt (by decide : (1 : Int32) < (2 : Int32))).1 (by decide) (by decide) k) ?_
              show own_Go _ _ _ _ T5029 (mkF m 221 #[.val (.int ip0), .val (.long jp1), .second, .val (.long jp2), .second, .val (.long jp3), .second, .val (.long jp4), .second, .val (.long jp5), .second, .val (.int (1 : Int32)), .val (.long j12), .second, .val (.long j14), .second, .val (.long j16), .second, .val (.long j18), .second, .val (.ref b5001), .val (.ref b5005), .val (.ref b5009), .val (.ref b5013), .val (.ref b5001), .val (.long jp1), .second, .val (.long jp4), .second] [])
              refine own_st (fun t k => XS.iload X5029.here hx rfl (hb hby at_221) rfl k) ?_
              refine own_st (fun t k => XS.iconst X5029.here hx rfl (hb hby at_223) k) ?_
              show own_Go _ _ _ _ T5029 (mkF m 224 #[.val (.int ip0), .val (.long jp1), .second, .val (.long jp2), .second, .val (.long jp3), .second, .val (.long jp4), .second, .val (.long jp5), .second, .val (.int (1 : Int32)), .val (.long j12), .second, .val (.long j14), .second, .val (.long j16), .second, .val (.long j18), .second, .val (.ref b5001), .val (.ref b5005), .val (.ref b5009), .val (.ref b5013), .val (.ref b5001), .val (.long jp1), .second, .val (.long jp4), .second] [(.int (3 : Int32)), (.int (1 : Int32))])
              refine own_st (fun t k => XS.icmpYes X5029.here hx rfl (pc0 := 224) (pc' := 245) rfl (hb hby at_224) rfl (tlt (by decide : (1 : Int32) < (3 : Int32))).1 (by decide) (by decide) k) ?_
              refine own_st (fun t k => XS.aload X5029.here hx rfl (hb hby at_245) rfl rfl k) ?_
              show own_Go _ _ _ _ T5029 (mkF m 247 #[.val (.int ip0), .val (.long jp1), .second, .val (.long jp2), .second, .val (.long jp3), .second, .val (.long jp4), .second, .val (.long jp5), .second, .val (.int (1 : Int32)), .val (.long j12), .second, .val (.long j14), .second, .val (.long j16), .second, .val (.long j18), .second, .val (.ref b5001), .val (.ref b5005), .val (.ref b5009), .val (.ref b5013), .val (.ref b5001), .val (.long jp1), .second, .val (.long jp4), .second] [(.ref b5013)])
              have f5030 := (Fc5015_0_2.keep Kq5029)
              have f5032 := (f5028.keep Kq5029)
              obtain ⟨cq5031, kq5031, q5031a, q5031b, q5031c⟩ := isOf hZ rfl f5032
              obtain ⟨_, _, ⟨T5031, L5031, k5031, n5031⟩, -, X5031, ⟨Lc5031, hQ5031, l5031, y5031, z5031⟩, st5031⟩ := X5029.virtualBack hx (y := own_y1) (z := own_y1) hown (mvT hZ (own_w hw 56 rfl)) (mvT hZ (own_w hw 57 rfl)) (notFace_of_selects (args := #[]) (mvT hZ (own_w hw 59 rfl))) (mvT hZ (own_w hw 59 rfl)) (mvT hZ (own_w hw 58 rfl)) (by decide) (backOf (W := 0) (own_rm7_72 l Z a0 hw [] b5013 b2x4_14c5015 b2x5_18c4c5015 k2x5_18c4c5015c2c5029 b5001 T5029.heap n0 Z5029 Fc5029_0_6 Fc5029_0_5 Fc5029_0_4 Fc5029_0_1 Fc5029_0_0 OFc5029_0_0 f5030) hZ (own_w hw 60 rfl) (own_w hw 28 rfl) (by decide) (by decide)) q5031a q5031c (g := (mkF m 247 #[.val (.int ip0), .val (.long jp1), .second, .val (.long jp2), .second, .val (.long jp3), .second, .val (.long jp4), .second, .val (.long jp5), .second, .val (.int (1 : Int32)), .val (.long j12), .second, .val (.long j14), .second, .val (.long j16), .second, .val (.long j18), .second, .val (.ref b5001), .val (.ref b5005), .val (.ref b5009), .val (.ref b5013), .val (.ref b5001), .val (.long jp1), .second, .val (.long jp4), .second] [(.ref b5013)])) rfl (by rw [hml]; rfl) (Steps.refl _) (argsL := []) (rest := []) (lenOf own_pd3 rfl) rfl (by show 2 * 0 + _ ≤ _; exact Nat.le_of_eq rfl) (hb hby at_247) (fun _ _ => ⟨rfl, rfl, (by decide : 8 + 0 ≤ _), (by decide : 84 + 0 ≤ _)⟩)
              dsimp only [Pt.U, Pt.locs, Pt.cells, Pt.slots] at X5031 l5031 y5031 z5031 st5031 hQ5031
              subst l5031 y5031 z5031
              obtain ⟨N5031q, Kq5031, hL5031⟩ := hQ5031
              have N5031 := Fr.app N5029 N5031q
              have K5031 : Keep h0 T5031.heap [] := K5029.trans Kq5031 all0
              have Z5031 := Nat.le_trans Z5029 Kq5031.1
              rcases hL5031 with ⟨rfl, -⟩
              · skip
                refine own_st (fun t k => st5031.trans k) ?_
                refine own_st (fun t k => XS.aload X5031.here hx rfl (hb hby at_250) rfl rfl k) ?_
                show own_Go _ _ _ _ T5031 (mkF m 252 #[.val (.int ip0), .val (.long jp1), .second, .val (.long jp2), .second, .val (.long jp3), .second, .val (.long jp4), .second, .val (.long jp5), .second, .val (.int (1 : Int32)), .val (.long j12), .second, .val (.long j14), .second, .val (.long j16), .second, .val (.long j18), .second, .val (.ref b5001), .val (.ref b5005), .val (.ref b5009), .val (.ref b5013), .val (.ref b5001), .val (.long jp1), .second, .val (.long jp4), .second] [(.ref b5001), (.ref b5001)])
                refine own_st (fun t k => Jvm.RoadKit.acmp (g := (mkF m 252 #[.val (.int ip0), .val (.long jp1), .second, .val (.long jp2), .second, .val (.long jp3), .second, .val (.long jp4), .second, .val (.long jp5), .second, .val (.int (1 : Int32)), .val (.long j12), .second, .val (.long j14), .second, .val (.long j16), .second, .val (.long j18), .second, .val (.ref b5001), .val (.ref b5005), .val (.ref b5009), .val (.ref b5013), .val (.ref b5001), .val (.long jp1), .second, .val (.long jp4), .second] [(.ref b5001), (.ref b5001)])) X5031 hx rfl rfl rfl (pc0 := 252) (pc' := 255) (same := true) rfl (hb hby at_252) rfl (decide_eq_true (congrArg Value.ref (rfl : b5001 = b5001))) (by decide) (by decide) k) ?_
                refine own_st (fun t k => XS.iconst X5031.here hx rfl (hb hby at_255) k) ?_
                show own_Go _ _ _ _ T5031 (mkF m 256 #[.val (.int ip0), .val (.long jp1), .second, .val (.long jp2), .second, .val (.long jp3), .second, .val (.long jp4), .second, .val (.long jp5), .second, .val (.int (1 : Int32)), .val (.long j12), .second, .val (.long j14), .second, .val (.long j16), .second, .val (.long j18), .second, .val (.ref b5001), .val (.ref b5005), .val (.ref b5009), .val (.ref b5013), .val (.ref b5001), .val (.long jp1), .second, .val (.long jp4), .second] [(.int (1 : Int32))])
                refine own_st (fun t k => XS.goto X5031.here hx rfl (pc0 := 256) (pc' := 260) rfl (hb hby at_256) (by decide) (by decide) k) ?_
                show own_Go _ _ _ _ T5031 (mkF m 260 #[.val (.int ip0), .val (.long jp1), .second, .val (.long jp2), .second, .val (.long jp3), .second, .val (.long jp4), .second, .val (.long jp5), .second, .val (.int (1 : Int32)), .val (.long j12), .second, .val (.long j14), .second, .val (.long j16), .second, .val (.long j18), .second, .val (.ref b5001), .val (.ref b5005), .val (.ref b5009), .val (.ref b5013), .val (.ref b5001), .val (.long jp1), .second, .val (.long jp4), .second] [(.int (1 : Int32))])
                exact own_retZ X5031 hx hlk (t := .boolean) hret (by simp) (hb hby at_260) (by decide) (by decide) rfl ⟨rfl, N5031⟩
          · skip
            refine own_st (fun t k => XS.iload X5015.here hx rfl (hb hby at_124) rfl k) ?_
            refine own_st (fun t k => XS.iconst X5015.here hx rfl (hb hby at_126) k) ?_
            show own_Go _ _ _ _ T5015 (mkF m 127 #[.val (.int ip0), .val (.long jp1), .second, .val (.long jp2), .second, .val (.long jp3), .second, .val (.long jp4), .second, .val (.long jp5), .second, .val (.int (2 : Int32)), .val (.long j12), .second, .val (.long j14), .second, .val (.long j16), .second, .val (.long j18), .second, .val (.ref b5001), .val (.ref b5005), .val (.ref b5009), .val (.ref b5013), .unset, .unset, .unset, .unset, .unset] [(.int (1 : Int32)), (.int (2 : Int32))])
            refine own_st (fun t k => XS.icmpNo X5015.here hx rfl (hb hby at_127) rfl (flt (by decide : ¬ ((2 : Int32) < (1 : Int32)))).1 k) ?_
            refine own_st (fun t k => XS.aload X5015.here hx rfl (hb hby at_130) rfl rfl k) ?_
            refine own_st (fun t k => XS.aload X5015.here hx rfl (hb hby at_132) rfl rfl k) ?_
            show own_Go _ _ _ _ T5015 (mkF m 134 #[.val (.int ip0), .val (.long jp1), .second, .val (.long jp2), .second, .val (.long jp3), .second, .val (.long jp4), .second, .val (.long jp5), .second, .val (.int (2 : Int32)), .val (.long j12), .second, .val (.long j14), .second, .val (.long j16), .second, .val (.long j18), .second, .val (.ref b5001), .val (.ref b5005), .val (.ref b5009), .val (.ref b5013), .unset, .unset, .unset, .unset, .unset] [(.ref b5001), (.ref b5013)])
            have ne5033 : b5001 ≠ b5005 := Nat.ne_of_lt (Nat.lt_of_lt_of_le (A5001.keep Kq5004).lt (Nat.le_of_eq g5005.symm))
            have ne5034 : b5001 ≠ b5009 := Nat.ne_of_lt (Nat.lt_of_lt_of_le (((A5001.keep Kq5004).ext E5005).keep Kq5008).lt (Nat.le_of_eq g5009.symm))
            have ne5035 : b5001 ≠ b5013 := Nat.ne_of_lt (Nat.lt_of_lt_of_le (((((A5001.keep Kq5004).ext E5005).keep Kq5008).ext E5009).keep Kq5012).lt (Nat.le_of_eq g5013.symm))
            have f5036 := ((((((Fc5004_0_3.ext E5005).keep Kq5008 (ninS ne5033 nin0)).ext E5009).keep Kq5012 (ninS ne5034 nin0)).ext E5013).keep Kq5015 (ninS ne5035 nin0))
            have f5037 := (((((((A5001.keep Kq5004).ext E5005).keep Kq5008).ext E5009).keep Kq5012).ext E5013).keep Kq5015)
            have f5038 := (own_stak f5014 Kq5015 (allS (own_plE A5013) all0))
            have f5039 := (P4.keep K5015 nin0)
            have f5040 := (P6.keep K5015 nin0)
            have f5041 := (P1.keep K5015)
            have f5042 := (P3.keep K5015)
            have f5043 := (A5013.keep Kq5015)
            obtain ⟨cq5044, kq5044, q5044a, q5044b, q5044c⟩ := isOf hZ rfl f5043
            obtain ⟨_, _, ⟨T5044, L5044, k5044, n5044⟩, -, X5044, ⟨Lc5044, hQ5044, l5044, y5044, z5044⟩, st5044⟩ := X5015.virtualBack hx (y := own_y2) (z := own_y2) hown (mvT hZ (own_w hw 63 rfl)) (mvT hZ (own_w hw 64 rfl)) (notFace_of_selects (args := #[]) (mvT hZ (own_w hw 66 rfl))) (mvT hZ (own_w hw 66 rfl)) (mvT hZ (own_w hw 65 rfl)) (by decide) (backOf (W := 0) (own_rm8_47 l Z a0 hw [] b5013 b5001 b2x4_14c5015 w_NONE w_EMPTY w_EMPTY_parts k_w_EMPTY_parts b2x5_18c4c5015 k2x5_18c4c5015 T5015.heap n0 Z5015 Fc5015_0_0 Fc5015_0_5 Fc5015_0_2 f5036 f5037 f5038 Fc5015_0_3 Fc5015_0_6 f5039 f5040 f5041 f5042 Fc5015_0_4 Fc5015_0_7 OFc5015_0_7 Fc5015_0_8 g_b2x4_14c5015 g_b2x5_18c4c5015 Fc5015_0_1 f5043 g_b5013) hZ (own_w hw 67 rfl) (own_w hw 28 rfl) (by decide) (by decide)) q5044a q5044c (g := (mkF m 134 #[.val (.int ip0), .val (.long jp1), .second, .val (.long jp2), .second, .val (.long jp3), .second, .val (.long jp4), .second, .val (.long jp5), .second, .val (.int (2 : Int32)), .val (.long j12), .second, .val (.long j14), .second, .val (.long j16), .second, .val (.long j18), .second, .val (.ref b5001), .val (.ref b5005), .val (.ref b5009), .val (.ref b5013), .unset, .unset, .unset, .unset, .unset] [(.ref b5001), (.ref b5013)])) rfl (by rw [hml]; rfl) (Steps.refl _) (argsL := [(.ref b5001)]) (rest := []) (lenOf own_pd12 rfl) rfl (by show 2 * 0 + _ ≤ _; exact Nat.le_of_eq rfl) (hb hby at_134) (fun _ _ => ⟨rfl, rfl, (by decide : 6 + 2 ≤ _), (by decide : 82 + 2 ≤ _)⟩)
            dsimp only [Pt.U, Pt.locs, Pt.cells, Pt.slots] at X5044 l5044 y5044 z5044 st5044 hQ5044
            subst l5044 y5044 z5044
            obtain ⟨N5044q, Kq5044, hL5044⟩ := hQ5044
            have N5044 := Fr.app N5015 N5044q
            have K5044 : Keep h0 T5044.heap [] := K5015.trans Kq5044 (allS (Or.inr sz_b2x5_18c4c5015) (allS (Or.inr sz_b2x4_14c5015) (allS (Or.inr sz_b5013) all0)))
            have Z5044 := Nat.le_trans Z5015 Kq5044.1
            rcases hL5044 with ⟨b6x14_69c4c13c16c2c5044, b3x14_69c4c13c16c2c5044, k2x5_18c4c5015c2c5044, k3x14_69c4c13c16c2c5044, rfl, hq5044_0_0, sq_b6x14_69c4c13c16c2c5044, sq_b3x14_69c4c13c16c2c5044, Fc5044_0_0, OFc5044_0_0, Fc5044_0_1, Fc5044_0_2, Fc5044_0_3, Fc5044_0_4, Fc5044_0_5, Fc5044_0_6, Fc5044_0_7, Fc5044_0_8, Fc5044_0_9, OFc5044_0_9, Fc5044_0_10, -⟩
            · skip
              have g_b6x14_69c4c13c16c2c5044 : n0 ≤ b6x14_69c4c13c16c2c5044 := Nat.le_trans Z5015 sq_b6x14_69c4c13c16c2c5044
              have sz_b6x14_69c4c13c16c2c5044 : h0.size ≤ b6x14_69c4c13c16c2c5044 := Nat.le_trans K5015.1 sq_b6x14_69c4c13c16c2c5044
              have g_b3x14_69c4c13c16c2c5044 : n0 ≤ b3x14_69c4c13c16c2c5044 := Nat.le_trans Z5015 sq_b3x14_69c4c13c16c2c5044
              have sz_b3x14_69c4c13c16c2c5044 : h0.size ≤ b3x14_69c4c13c16c2c5044 := Nat.le_trans K5015.1 sq_b3x14_69c4c13c16c2c5044
              refine own_st (fun t k => st5044.trans k) ?_
              show own_Go _ _ _ _ T5044 (mkF m 137 #[.val (.int ip0), .val (.long jp1), .second, .val (.long jp2), .second, .val (.long jp3), .second, .val (.long jp4), .second, .val (.long jp5), .second, .val (.int (2 : Int32)), .val (.long j12), .second, .val (.long j14), .second, .val (.long j16), .second, .val (.long j18), .second, .val (.ref b5001), .val (.ref b5005), .val (.ref b5009), .val (.ref b5013), .unset, .unset, .unset, .unset, .unset] [])
              refine own_st (fun t k => XS.iload X5044.here hx rfl (hb hby at_137) rfl k) ?_
              refine own_st (fun t k => XS.iconst X5044.here hx rfl (hb hby at_139) k) ?_
              show own_Go _ _ _ _ T5044 (mkF m 140 #[.val (.int ip0), .val (.long jp1), .second, .val (.long jp2), .second, .val (.long jp3), .second, .val (.long jp4), .second, .val (.long jp5), .second, .val (.int (2 : Int32)), .val (.long j12), .second, .val (.long j14), .second, .val (.long j16), .second, .val (.long j18), .second, .val (.ref b5001), .val (.ref b5005), .val (.ref b5009), .val (.ref b5013), .unset, .unset, .unset, .unset, .unset] [(.int (2 : Int32)), (.int (2 : Int32))])
              refine own_st (fun t k => XS.icmpNo X5044.here hx rfl (hb hby at_140) rfl (flt (by decide : ¬ ((2 : Int32) < (2 : Int32)))).1 k) ?_
              refine own_st (fun t k => XS.aload X5044.here hx rfl (hb hby at_143) rfl rfl k) ?_
              show own_Go _ _ _ _ T5044 (mkF m 145 #[.val (.int ip0), .val (.long jp1), .second, .val (.long jp2), .second, .val (.long jp3), .second, .val (.long jp4), .second, .val (.long jp5), .second, .val (.int (2 : Int32)), .val (.long j12), .second, .val (.long j14), .second, .val (.long j16), .second, .val (.long j18), .second, .val (.ref b5001), .val (.ref b5005), .val (.ref b5009), .val (.ref b5013), .unset, .unset, .unset, .unset, .unset] [(.ref b5013)])
              refine own_st (fun t k => XS.aload X5044.here hx rfl (hb hby at_145) rfl rfl k) ?_
              show own_Go _ _ _ _ T5044 (mkF m 147 #[.val (.int ip0), .val (.long jp1), .second, .val (.long jp2), .second, .val (.long jp3), .second, .val (.long jp4), .second, .val (.long jp5), .second, .val (.int (2 : Int32)), .val (.long j12), .second, .val (.long j14), .second, .val (.long j16), .second, .val (.long j18), .second, .val (.ref b5001), .val (.ref b5005), .val (.ref b5009), .val (.ref b5013), .unset, .unset, .unset, .unset, .unset] [(.ref b5005), (.ref b5013)])
              have ne5045 : b5005 ≠ b5009 := Nat.ne_of_lt (Nat.lt_of_lt_of_le (A5005.keep Kq5008).lt (Nat.le_of_eq g5009.symm))
              have ne5046 : b5005 ≠ b5013 := Nat.ne_of_lt (Nat.lt_of_lt_of_le (((A5005.keep Kq5008).ext E5009).keep Kq5012).lt (Nat.le_of_eq g5013.symm))
              have ne5047 : b5005 ≠ b2x4_14c5015 := Nat.ne_of_lt (Nat.lt_of_lt_of_le ((((A5005.keep Kq5008).ext E5009).keep Kq5012).ext E5013).lt sq_b2x4_14c5015)
              have ne5048 : b5005 ≠ b2x5_18c4c5015 := Nat.ne_of_lt (Nat.lt_of_lt_of_le ((((A5005.keep Kq5008).ext E5009).keep Kq5012).ext E5013).lt sq_b2x5_18c4c5015)
              have f5049 := (((((Fc5008_0_1.ext E5009).keep Kq5012 (ninS ne5045 nin0)).ext E5013).keep Kq5015 (ninS ne5046 nin0)).keep Kq5044 (ninS ne5048 (ninS ne5047 (ninS ne5046 nin0))))
              have f5050 := ((((((A5005.keep Kq5008).ext E5009).keep Kq5012).ext E5013).keep Kq5015).keep Kq5044)
              have f5051 := (((((Fc5008_0_0.ext E5009).keep Kq5012 (ninS ne5045 nin0)).ext E5013).keep Kq5015 (ninS ne5046 nin0)).keep Kq5044 (ninS ne5048 (ninS ne5047 (ninS ne5046 nin0))))
              have ne5052 : b5001 ≠ b2x4_14c5015 := Nat.ne_of_lt (Nat.lt_of_lt_of_le ((((((A5001.keep Kq5004).ext E5005).keep Kq5008).ext E5009).keep Kq5012).ext E5013).lt sq_b2x4_14c5015)
              have ne5053 : b5001 ≠ b2x5_18c4c5015 := Nat.ne_of_lt (Nat.lt_of_lt_of_le ((((((A5001.keep Kq5004).ext E5005).keep Kq5008).ext E5009).keep Kq5012).ext E5013).lt sq_b2x5_18c4c5015)
              have f5054 := (((((((Fc5004_0_1.ext E5005).keep Kq5008 (ninS ne5033 nin0)).ext E5009).keep Kq5012 (ninS ne5034 nin0)).ext E5013).keep Kq5015 (ninS ne5035 nin0)).keep Kq5044 (ninS ne5053 (ninS ne5052 (ninS ne5035 nin0))))
              have f5055 := (((((((Fc5004_0_0.ext E5005).keep Kq5008 (ninS ne5033 nin0)).ext E5009).keep Kq5012 (ninS ne5034 nin0)).ext E5013).keep Kq5015 (ninS ne5035 nin0)).keep Kq5044 (ninS ne5053 (ninS ne5052 (ninS ne5035 nin0))))
              have f5056 := (f5037.keep Kq5044)
              have f5057 := (Fc5015_0_2.keep Kq5044)
              have f5058 := (((((Fc5008_0_3.ext E5009).keep Kq5012 (ninS ne5045 nin0)).ext E5013).keep Kq5015 (ninS ne5046 nin0)).keep Kq5044 (ninS ne5048 (ninS ne5047 (ninS ne5046 nin0))))
              have f5059 := (P5.keep K5044 nin0)
              have f5060 := (P7.keep K5044 nin0)
              have f5061 := (f5041.keep Kq5044)
              have f5062 := (Fc5015_0_8.keep Kq5044)
              have f5063 := (f5043.keep Kq5044)
              obtain ⟨cq5064, kq5064, q5064a, q5064b, q5064c⟩ := isOf hZ rfl f5063
              obtain ⟨_, _, ⟨T5064, L5064, k5064, n5064⟩, -, X5064, ⟨Lc5064, hQ5064, l5064, y5064, z5064⟩, st5064⟩ := X5044.virtualBack hx (y := own_y2) (z := own_y2) hown (mvT hZ (own_w hw 63 rfl)) (mvT hZ (own_w hw 64 rfl)) (notFace_of_selects (args := #[]) (mvT hZ (own_w hw 66 rfl))) (mvT hZ (own_w hw 66 rfl)) (mvT hZ (own_w hw 65 rfl)) (by decide) (backOf (W := 0) (own_rm8_91 l Z a0 hw [] b5013 b5005 b2x4_14c5015 b2x5_18c4c5015 k2x5_18c4c5015c2c5044 b5001 j12 j16 jp1 jp4 w_NONE b6x14_69c4c13c16c2c5044 b3x14_69c4c13c16c2c5044 k3x14_69c4c13c16c2c5044 w_NONE_names k_w_NONE_names T5044.heap n0 Z5044 Fc5044_0_5 Fc5044_0_1 Fc5044_0_4 Fc5044_0_0 OFc5044_0_0 f5049 f5050 f5051 f5054 f5055 f5056 f5057 f5058 Fc5044_0_2 Fc5044_0_8 Fc5044_0_9 OFc5044_0_9 f5059 f5060 f5061 Fc5044_0_7 Fc5044_0_3 f5062 g_b2x4_14c5015 g_b2x5_18c4c5015 Fc5044_0_6 f5063 g_b5013) hZ (own_w hw 67 rfl) (own_w hw 28 rfl) (by decide) (by decide)) q5064a q5064c (g := (mkF m 147 #[.val (.int ip0), .val (.long jp1), .second, .val (.long jp2), .second, .val (.long jp3), .second, .val (.long jp4), .second, .val (.long jp5), .second, .val (.int (2 : Int32)), .val (.long j12), .second, .val (.long j14), .second, .val (.long j16), .second, .val (.long j18), .second, .val (.ref b5001), .val (.ref b5005), .val (.ref b5009), .val (.ref b5013), .unset, .unset, .unset, .unset, .unset] [(.ref b5005), (.ref b5013)])) rfl (by rw [hml]; rfl) (Steps.refl _) (argsL := [(.ref b5005)]) (rest := []) (lenOf own_pd12 rfl) rfl (by show 2 * 0 + _ ≤ _; exact Nat.le_of_eq rfl) (hb hby at_147) (fun _ _ => ⟨rfl, rfl, (by decide : 8 + 0 ≤ _), (by decide : 84 + 0 ≤ _)⟩)
              dsimp only [Pt.U, Pt.locs, Pt.cells, Pt.slots] at X5064 l5064 y5064 z5064 st5064 hQ5064
              subst l5064 y5064 z5064
              obtain ⟨N5064q, Kq5064, hL5064⟩ := hQ5064
              have N5064 := Fr.app N5044 N5064q
              have K5064 : Keep h0 T5064.heap [] := K5044.trans Kq5064 (allS (Or.inr sz_b2x5_18c4c5015) (allS (Or.inr sz_b2x4_14c5015) (allS (Or.inr sz_b5013) all0)))
              have Z5064 := Nat.le_trans Z5044 Kq5064.1
              rcases hL5064 with ⟨k2x5_18c4c5015c2c5044c2c5064, rfl, hq5064_0_0, Fc5064_0_0, OFc5064_0_0, Fc5064_0_1, Fc5064_0_2, Fc5064_0_3, Fc5064_0_4, Fc5064_0_5, Fc5064_0_6, -⟩ | ⟨k2x5_18c4c5015c2c5044c2c5064, rfl, hq5064_1_0, Fc5064_1_0, OFc5064_1_0, Fc5064_1_1, Fc5064_1_2, Fc5064_1_3, Fc5064_1_4, Fc5064_1_5, Fc5064_1_6, -⟩
              · skip
                refine own_st (fun t k => st5064.trans k) ?_
                refine own_st (fun t k => XS.iload X5064.here hx rfl (hb hby at_150) rfl k) ?_
                refine own_st (fun t k => XS.iconst X5064.here hx rfl (hb hby at_152) k) ?_
                show own_Go _ _ _ _ T5064 (mkF m 153 #[.val (.int ip0), .val (.long jp1), .second, .val (.long jp2), .second, .val (.long jp3), .second, .val (.long jp4), .second, .val (.long jp5), .second, .val (.int (2 : Int32)), .val (.long j12), .second, .val (.long j14), .second, .val (.long j16), .second, .val (.long j18), .second, .val (.ref b5001), .val (.ref b5005), .val (.ref b5009), .val (.ref b5013), .unset, .unset, .unset, .unset, .unset] [(.int (3 : Int32)), (.int (2 : Int32))])
                refine own_st (fun t k => XS.icmpYes X5064.here hx rfl (pc0 := 153) (pc' := 163) rfl (hb hby at_153) rfl (tlt (by decide : (2 : Int32) < (3 : Int32))).1 (by decide) (by decide) k) ?_
                refine own_st (fun t k => XS.aconstNull X5064.here hx rfl (hb hby at_163) k) ?_
                refine own_st (fun t k => XS.astore X5064.here hx rfl (hb hby at_164) rfl rfl (l' := #[.val (.int ip0), .val (.long jp1), .second, .val (.long jp2), .second, .val (.long jp3), .second, .val (.long jp4), .second, .val (.long jp5), .second, .val (.int (2 : Int32)), .val (.long j12), .second, .val (.long j14), .second, .val (.long j16), .second, .val (.long j18), .second, .val (.ref b5001), .val (.ref b5005), .val (.ref b5009), .val (.ref b5013), .val .null, .unset, .unset, .unset, .unset]) rfl k) ?_
                refine own_st (fun t k => XS.lconst X5064.here hx rfl (hb hby at_166) k) ?_
                show own_Go _ _ _ _ T5064 (mkF m 167 #[.val (.int ip0), .val (.long jp1), .second, .val (.long jp2), .second, .val (.long jp3), .second, .val (.long jp4), .second, .val (.long jp5), .second, .val (.int (2 : Int32)), .val (.long j12), .second, .val (.long j14), .second, .val (.long j16), .second, .val (.long j18), .second, .val (.ref b5001), .val (.ref b5005), .val (.ref b5009), .val (.ref b5013), .val .null, .unset, .unset, .unset, .unset] [(.long (0 : Int64))])
                refine own_st (fun t k => XS.lstore X5064.here hx rfl (hb hby at_167) rfl (l' := #[.val (.int ip0), .val (.long jp1), .second, .val (.long jp2), .second, .val (.long jp3), .second, .val (.long jp4), .second, .val (.long jp5), .second, .val (.int (2 : Int32)), .val (.long j12), .second, .val (.long j14), .second, .val (.long j16), .second, .val (.long j18), .second, .val (.ref b5001), .val (.ref b5005), .val (.ref b5009), .val (.ref b5013), .val .null, .val (.long (0 : Int64)), .second, .unset, .unset]) rfl k) ?_
                refine own_st (fun t k => XS.lconst X5064.here hx rfl (hb hby at_169) k) ?_
                refine own_st (fun t k => XS.lstore X5064.here hx rfl (hb hby at_170) rfl (l' := #[.val (.int ip0), .val (.long jp1), .second, .val (.long jp2), .second, .val (.long jp3), .second, .val (.long jp4), .second, .val (.long jp5), .second, .val (.int (2 : Int32)), .val (.long j12), .second, .val (.long j14), .second, .val (.long j16), .second, .val (.long j18), .second, .val (.ref b5001), .val (.ref b5005), .val (.ref b5009), .val (.ref b5013), .val .null, .val (.long (0 : Int64)), .second, .val (.long (0 : Int64)), .second]) rfl k) ?_
                refine own_st (fun t k => XS.iload X5064.here hx rfl (hb hby at_172) rfl k) ?_
                show own_Go _ _ _ _ T5064 (mkF m 174 #[.val (.int ip0), .val (.long jp1), .second, .val (.long jp2), .second, .val (.long jp3), .second, .val (.long jp4), .second, .val (.long jp5), .second, .val (.int (2 : Int32)), .val (.long j12), .second, .val (.long j14), .second, .val (.long j16), .second, .val (.long j18), .second, .val (.ref b5001), .val (.ref b5005), .val (.ref b5009), .val (.ref b5013), .val .null, .val (.long (0 : Int64)), .second, .val (.long (0 : Int64)), .second] [(.int (2 : Int32))])
                refine own_st (fun t k => XS.iconst X5064.here hx rfl (hb hby at_174) k) ?_
                show own_Go _ _ _ _ T5064 (mkF m 175 #[.val (.int ip0), .val (.long jp1), .second, .val (.long jp2), .second, .val (.long jp3), .second, .val (.long jp4), .second, .val (.long jp5), .second, .val (.int (2 : Int32)), .val (.long j12), .second, .val (.long j14), .second, .val (.long j16), .second, .val (.long j18), .second, .val (.ref b5001), .val (.ref b5005), .val (.ref b5009), .val (.ref b5013), .val .null, .val (.long (0 : Int64)), .second, .val (.long (0 : Int64)), .second] [(.int (1 : Int32)), (.int (2 : Int32))])
                refine own_st (fun t k => XS.icmpNo X5064.here hx rfl (hb hby at_175) rfl (flt (by decide : ¬ ((2 : Int32) < (1 : Int32)))).1 k) ?_
                refine own_st (fun t k => XS.aload X5064.here hx rfl (hb hby at_178) rfl rfl k) ?_
                refine own_st (fun t k => XS.astore X5064.here hx rfl (hb hby at_180) rfl rfl (l' := #[.val (.int ip0), .val (.long jp1), .second, .val (.long jp2), .second, .val (.long jp3), .second, .val (.long jp4), .second, .val (.long jp5), .second, .val (.int (2 : Int32)), .val (.long j12), .second, .val (.long j14), .second, .val (.long j16), .second, .val (.long j18), .second, .val (.ref b5001), .val (.ref b5005), .val (.ref b5009), .val (.ref b5013), .val (.ref b5001), .val (.long (0 : Int64)), .second, .val (.long (0 : Int64)), .second]) rfl k) ?_
                show own_Go _ _ _ _ T5064 (mkF m 182 #[.val (.int ip0), .val (.long jp1), .second, .val (.long jp2), .second, .val (.long jp3), .second, .val (.long jp4), .second, .val (.long jp5), .second, .val (.int (2 : Int32)), .val (.long j12), .second, .val (.long j14), .second, .val (.long j16), .second, .val (.long j18), .second, .val (.ref b5001), .val (.ref b5005), .val (.ref b5009), .val (.ref b5013), .val (.ref b5001), .val (.long (0 : Int64)), .second, .val (.long (0 : Int64)), .second] [])
                refine own_st (fun t k => XS.lloadN X5064.here hx rfl (hb hby at_182) rfl k) ?_
                refine own_st (fun t k => XS.lstore X5064.here hx rfl (hb hby at_183) rfl (l' := #[.val (.int ip0), .val (.long jp1), .second, .val (.long jp2), .second, .val (.long jp3), .second, .val (.long jp4), .second, .val (.long jp5), .second, .val (.int (2 : Int32)), .val (.long j12), .second, .val (.long j14), .second, .val (.long j16), .second, .val (.long j18), .second, .val (.ref b5001), .val (.ref b5005), .val (.ref b5009), .val (.ref b5013), .val (.ref b5001), .val (.long jp1), .second, .val (.long (0 : Int64)), .second]) rfl k) ?_
                refine own_st (fun t k => XS.lload X5064.here hx rfl (hb hby at_185) rfl k) ?_
                refine own_st (fun t k => XS.lstore X5064.here hx rfl (hb hby at_187) rfl (l' := #[.val (.int ip0), .val (.long jp1), .second, .val (.long jp2), .second, .val (.long jp3), .second, .val (.long jp4), .second, .val (.long jp5), .second, .val (.int (2 : Int32)), .val (.long j12), .second, .val (.long j14), .second, .val (.long j16), .second, .val (.long j18), .second, .val (.ref b5001), .val (.ref b5005), .val (.ref b5009), .val (.ref b5013), .val (.ref b5001), .val (.long jp1), .second, .val (.long jp4), .second]) rfl k) ?_
                show own_Go _ _ _ _ T5064 (mkF m 189 #[.val (.int ip0), .val (.long jp1), .second, .val (.long jp2), .second, .val (.long jp3), .second, .val (.long jp4), .second, .val (.long jp5), .second, .val (.int (2 : Int32)), .val (.long j12), .second, .val (.long j14), .second, .val (.long j16), .second, .val (.long j18), .second, .val (.ref b5001), .val (.ref b5005), .val (.ref b5009), .val (.ref b5013), .val (.ref b5001), .val (.long jp1), .second, .val (.long jp4), .second] [])
                refine own_st (fun t k => XS.iload X5064.here hx rfl (hb hby at_189) rfl k) ?_
                refine own_st (fun t k => XS.iconst X5064.here hx rfl (hb hby at_191) k) ?_
                show own_Go _ _ _ _ T5064 (mkF m 192 #[.val (.int ip0), .val (.long jp1), .second, .val (.long jp2), .second, .val (.long jp3), .second, .val (.long jp4), .second, .val (.long jp5), .second, .val (.int (2 : Int32)), .val (.long j12), .second, .val (.long j14), .second, .val (.long j16), .second, .val (.long j18), .second, .val (.ref b5001), .val (.ref b5005), .val (.ref b5009), .val (.ref b5013), .val (.ref b5001), .val (.long jp1), .second, .val (.long jp4), .second] [(.int (2 : Int32)), (.int (2 : Int32))])
                refine own_st (fun t k => XS.icmpNo X5064.here hx rfl (hb hby at_192) rfl (flt (by decide : ¬ ((2 : Int32) < (2 : Int32)))).1 k) ?_
                refine own_st (fun t k => XS.lload X5064.here hx rfl (hb hby at_195) rfl k) ?_
                show own_Go _ _ _ _ T5064 (mkF m 197 #[.val (.int ip0), .val (.long jp1), .second, .val (.long jp2), .second, .val (.long jp3), .second, .val (.long jp4), .second, .val (.long jp5), .second, .val (.int (2 : Int32)), .val (.long j12), .second, .val (.long j14), .second, .val (.long j16), .second, .val (.long j18), .second, .val (.ref b5001), .val (.ref b5005), .val (.ref b5009), .val (.ref b5013), .val (.ref b5001), .val (.long jp1), .second, .val (.long jp4), .second] [(.long j12)])
                refine own_st (fun t k => XS.lload X5064.here hx rfl (hb hby at_197) rfl k) ?_
                refine own_st (fun t k => XS.lload X5064.here hx rfl (hb hby at_199) rfl k) ?_
                refine own_st (fun t k => XS.lload X5064.here hx rfl (hb hby at_201) rfl k) ?_
                show own_Go _ _ _ _ T5064 (mkF m 203 #[.val (.int ip0), .val (.long jp1), .second, .val (.long jp2), .second, .val (.long jp3), .second, .val (.long jp4), .second, .val (.long jp5), .second, .val (.int (2 : Int32)), .val (.long j12), .second, .val (.long j14), .second, .val (.long j16), .second, .val (.long j18), .second, .val (.ref b5001), .val (.ref b5005), .val (.ref b5009), .val (.ref b5013), .val (.ref b5001), .val (.long jp1), .second, .val (.long jp4), .second] [(.long jp4), (.long jp1), (.long j16), (.long j12)])
                obtain ⟨_, _, ⟨T5065, L5065, k5065, n5065⟩, -, X5065, ⟨Lc5065, hQ5065, l5065, y5065, z5065⟩, st5065⟩ := Jvm.LawKit.callS X5064 hx (y := own_y3) hown (mvT hZ (own_w hw 145 rfl)) (mvT hZ (own_w hw 146 rfl)) (mvT hZ (own_w hw 147 rfl)) (mvT hZ (own_w hw 148 rfl)) (by decide) (backOf (W := 0) (own_rm21 l Z a0 hw [] j12 j16 jp1 jp4 T5064.heap n0 Z5064 ) hZ (own_w hw 148 rfl) (own_w hw 147 rfl) (by decide) (by decide)) (g := (mkF m 203 #[.val (.int ip0), .val (.long jp1), .second, .val (.long jp2), .second, .val (.long jp3), .second, .val (.long jp4), .second, .val (.long jp5), .second, .val (.int (2 : Int32)), .val (.long j12), .second, .val (.long j14), .second, .val (.long j16), .second, .val (.long j18), .second, .val (.ref b5001), .val (.ref b5005), .val (.ref b5009), .val (.ref b5013), .val (.ref b5001), .val (.long jp1), .second, .val (.long jp4), .second] [(.long jp4), (.long jp1), (.long j16), (.long j12)])) rfl (by rw [hml]; rfl) (argsL := [(.long j12), (.long j16), (.long jp1), (.long jp4)]) (rest := []) (lenOf own_pd16 rfl) rfl (by show 2 * 0 + _ ≤ _; exact Nat.le_of_eq rfl) (hb hby at_203) (fun _ _ => ⟨rfl, rfl, (by decide : 8 + 0 ≤ _), (by decide : 84 + 0 ≤ _)⟩)
                dsimp only [Pt.U, Pt.locs, Pt.cells, Pt.slots] at X5065 l5065 y5065 z5065 st5065 hQ5065
                subst l5065 y5065 z5065
                obtain ⟨N5065q, e5065, hL5065⟩ := hQ5065
                have N5065 := Fr.app N5064 N5065q
                rcases hL5065 with ⟨rfl, hq5065_0_0, -⟩ | ⟨rfl, hq5065_1_0, -⟩
                · skip
                  refine own_st st5065 ?_
                  show own_Go _ _ _ _ T5065 (mkF m 206 #[.val (.int ip0), .val (.long jp1), .second, .val (.long jp2), .second, .val (.long jp3), .second, .val (.long jp4), .second, .val (.long jp5), .second, .val (.int (2 : Int32)), .val (.long j12), .second, .val (.long j14), .second, .val (.long j16), .second, .val (.long j18), .second, .val (.ref b5001), .val (.ref b5005), .val (.ref b5009), .val (.ref b5013), .val (.ref b5001), .val (.long jp1), .second, .val (.long jp4), .second] [(.int (1 : Int32))])
                  refine own_st (fun t k => XS.ifNo X5065.here hx rfl (hb hby at_206) rfl ((if0 _ _).trans (feq (by decide : ¬ ((1 : Int32) = (0 : Int32)))).1) k) ?_
                  refine own_st (fun t k => XS.aload X5065.here hx rfl (hb hby at_209) rfl rfl k) ?_
                  refine own_st (fun t k => XS.astore X5065.here hx rfl (hb hby at_211) rfl rfl (l' := #[.val (.int ip0), .val (.long jp1), .second, .val (.long jp2), .second, .val (.long jp3), .second, .val (.long jp4), .second, .val (.long jp5), .second, .val (.int (2 : Int32)), .val (.long j12), .second, .val (.long j14), .second, .val (.long j16), .second, .val (.long j18), .second, .val (.ref b5001), .val (.ref b5005), .val (.ref b5009), .val (.ref b5013), .val (.ref b5005), .val (.long jp1), .second, .val (.long jp4), .second]) rfl k) ?_
                  refine own_st (fun t k => XS.lload X5065.here hx rfl (hb hby at_213) rfl k) ?_
                  show own_Go _ _ _ _ T5065 (mkF m 215 #[.val (.int ip0), .val (.long jp1), .second, .val (.long jp2), .second, .val (.long jp3), .second, .val (.long jp4), .second, .val (.long jp5), .second, .val (.int (2 : Int32)), .val (.long j12), .second, .val (.long j14), .second, .val (.long j16), .second, .val (.long j18), .second, .val (.ref b5001), .val (.ref b5005), .val (.ref b5009), .val (.ref b5013), .val (.ref b5005), .val (.long jp1), .second, .val (.long jp4), .second] [(.long j12)])
                  refine own_st (fun t k => XS.lstore X5065.here hx rfl (hb hby at_215) rfl (l' := #[.val (.int ip0), .val (.long jp1), .second, .val (.long jp2), .second, .val (.long jp3), .second, .val (.long jp4), .second, .val (.long jp5), .second, .val (.int (2 : Int32)), .val (.long j12), .second, .val (.long j14), .second, .val (.long j16), .second, .val (.long j18), .second, .val (.ref b5001), .val (.ref b5005), .val (.ref b5009), .val (.ref b5013), .val (.ref b5005), .val (.long j12), .second, .val (.long jp4), .second]) rfl k) ?_
                  refine own_st (fun t k => XS.lload X5065.here hx rfl (hb hby at_217) rfl k) ?_
                  refine own_st (fun t k => XS.lstore X5065.here hx rfl (hb hby at_219) rfl (l' := #[.val (.int ip0), .val (.long jp1), .second, .val (.long jp2), .second, .val (.long jp3), .second, .val (.long jp4), .second, .val (.long jp5), .second, .val (.int (2 : Int32)), .val (.long j12), .second, .val (.long j14), .second, .val (.long j16), .second, .val (.long j18), .second, .val (.ref b5001), .val (.ref b5005), .val (.ref b5009), .val (.ref b5013), .val (.ref b5005), .val (.long j12), .second, .val (.long j16), .second]) rfl k) ?_
                  refine own_st (fun t k => XS.iload X5065.here hx rfl (hb hby at_221) rfl k) ?_
                  show own_Go _ _ _ _ T5065 (mkF m 223 #[.val (.int ip0), .val (.long jp1), .second, .val (.long jp2), .second, .val (.long jp3), .second, .val (.long jp4), .second, .val (.long jp5), .second, .val (.int (2 : Int32)), .val (.long j12), .second, .val (.long j14), .second, .val (.long j16), .second, .val (.long j18), .second, .val (.ref b5001), .val (.ref b5005), .val (.ref b5009), .val (.ref b5013), .val (.ref b5005), .val (.long j12), .second, .val (.long j16), .second] [(.int (2 : Int32))])
                  refine own_st (fun t k => XS.iconst X5065.here hx rfl (hb hby at_223) k) ?_
                  show own_Go _ _ _ _ T5065 (mkF m 224 #[.val (.int ip0), .val (.long jp1), .second, .val (.long jp2), .second, .val (.long jp3), .second, .val (.long jp4), .second, .val (.long jp5), .second, .val (.int (2 : Int32)), .val (.long j12), .second, .val (.long j14), .second, .val (.long j16), .second, .val (.long j18), .second, .val (.ref b5001), .val (.ref b5005), .val (.ref b5009), .val (.ref b5013), .val (.ref b5005), .val (.long j12), .second, .val (.long j16), .second] [(.int (3 : Int32)), (.int (2 : Int32))])
                  refine own_st (fun t k => XS.icmpYes X5065.here hx rfl (pc0 := 224) (pc' := 245) rfl (hb hby at_224) rfl (tlt (by decide : (2 : Int32) < (3 : Int32))).1 (by decide) (by decide) k) ?_
                  refine own_st (fun t k => XS.aload X5065.here hx rfl (hb hby at_245) rfl rfl k) ?_
                  show own_Go _ _ _ _ T5065 (mkF m 247 #[.val (.int ip0), .val (.long jp1), .second, .val (.long jp2), .second, .val (.long jp3), .second, .val (.long jp4), .second, .val (.long jp5), .second, .val (.int (2 : Int32)), .val (.long j12), .second, .val (.long j14), .second, .val (.long j16), .second, .val (.long j18), .second, .val (.ref b5001), .val (.ref b5005), .val (.ref b5009), .val (.ref b5013), .val (.ref b5005), .val (.long j12), .second, .val (.long j16), .second] [(.ref b5013)])
                  have f5066 := (f5057.keep Kq5064)
                  have f5068 := (f5063.keep Kq5064)
                  obtain ⟨cq5067, kq5067, q5067a, q5067b, q5067c⟩ := isOf hZ e5065 f5068
                  obtain ⟨_, _, ⟨T5067, L5067, k5067, n5067⟩, -, X5067, ⟨Lc5067, hQ5067, l5067, y5067, z5067⟩, st5067⟩ := X5065.virtualBack hx (y := own_y1) (z := own_y1) hown (mvT hZ (own_w hw 56 rfl)) (mvT hZ (own_w hw 57 rfl)) (notFace_of_selects (args := #[]) (mvT hZ (own_w hw 59 rfl))) (mvT hZ (own_w hw 59 rfl)) (mvT hZ (own_w hw 58 rfl)) (by decide) (backOf (W := 0) (own_rm7_108 l Z a0 hw [] b5013 b2x4_14c5015 b2x5_18c4c5015 k2x5_18c4c5015c2c5044c2c5064 b5001 b5005 T5064.heap n0 Z5064 Fc5064_0_6 Fc5064_0_5 Fc5064_0_2 Fc5064_0_1 Fc5064_0_0 OFc5064_0_0 f5066) hZ (own_w hw 60 rfl) (own_w hw 28 rfl) (by decide) (by decide)) q5067a q5067c (g := (mkF m 247 #[.val (.int ip0), .val (.long jp1), .second, .val (.long jp2), .second, .val (.long jp3), .second, .val (.long jp4), .second, .val (.long jp5), .second, .val (.int (2 : Int32)), .val (.long j12), .second, .val (.long j14), .second, .val (.long j16), .second, .val (.long j18), .second, .val (.ref b5001), .val (.ref b5005), .val (.ref b5009), .val (.ref b5013), .val (.ref b5005), .val (.long j12), .second, .val (.long j16), .second] [(.ref b5013)])) rfl (by rw [hml]; rfl) (Steps.refl _) (argsL := []) (rest := []) (lenOf own_pd3 rfl) rfl (by show 2 * 0 + _ ≤ _; exact Nat.le_of_eq rfl) (hb hby at_247) (fun _ _ => ⟨rfl, e5065, (by decide : 8 + 0 ≤ _), (by decide : 84 + 0 ≤ _)⟩)
                  dsimp only [Pt.U, Pt.locs, Pt.cells, Pt.slots] at X5067 l5067 y5067 z5067 st5067 hQ5067
                  subst l5067 y5067 z5067
                  obtain ⟨N5067q, Kq5067, hL5067⟩ := hQ5067
                  have N5067 := Fr.app N5065 N5067q
                  have K5067 : Keep h0 T5067.heap [] := K5064.trans Kq5067 all0
                  have Z5067 := Nat.le_trans Z5064 Kq5067.1
                  rcases hL5067 with ⟨rfl, -⟩
                  · skip
                    refine own_st (fun t k => st5067.trans k) ?_
                    show own_Go _ _ _ _ T5067 (mkF m 250 #[.val (.int ip0), .val (.long jp1), .second, .val (.long jp2), .second, .val (.long jp3), .second, .val (.long jp4), .second, .val (.long jp5), .second, .val (.int (2 : Int32)), .val (.long j12), .second, .val (.long j14), .second, .val (.long j16), .second, .val (.long j18), .second, .val (.ref b5001), .val (.ref b5005), .val (.ref b5009), .val (.ref b5013), .val (.ref b5005), .val (.long j12), .second, .val (.long j16), .second] [(.ref b5005)])
                    refine own_st (fun t k => XS.aload X5067.here hx rfl (hb hby at_250) rfl rfl k) ?_
                    show own_Go _ _ _ _ T5067 (mkF m 252 #[.val (.int ip0), .val (.long jp1), .second, .val (.long jp2), .second, .val (.long jp3), .second, .val (.long jp4), .second, .val (.long jp5), .second, .val (.int (2 : Int32)), .val (.long j12), .second, .val (.long j14), .second, .val (.long j16), .second, .val (.long j18), .second, .val (.ref b5001), .val (.ref b5005), .val (.ref b5009), .val (.ref b5013), .val (.ref b5005), .val (.long j12), .second, .val (.long j16), .second] [(.ref b5005), (.ref b5005)])
                    refine own_st (fun t k => Jvm.RoadKit.acmp (g := (mkF m 252 #[.val (.int ip0), .val (.long jp1), .second, .val (.long jp2), .second, .val (.long jp3), .second, .val (.long jp4), .second, .val (.long jp5), .second, .val (.int (2 : Int32)), .val (.long j12), .second, .val (.long j14), .second, .val (.long j16), .second, .val (.long j18), .second, .val (.ref b5001), .val (.ref b5005), .val (.ref b5009), .val (.ref b5013), .val (.ref b5005), .val (.long j12), .second, .val (.long j16), .second] [(.ref b5005), (.ref b5005)])) X5067 hx rfl rfl rfl (pc0 := 252) (pc' := 255) (same := true) rfl (hb hby at_252) rfl (decide_eq_true (congrArg Value.ref (rfl : b5005 = b5005))) (by decide) (by decide) k) ?_
                    refine own_st (fun t k => XS.iconst X5067.here hx rfl (hb hby at_255) k) ?_
                    refine own_st (fun t k => XS.goto X5067.here hx rfl (pc0 := 256) (pc' := 260) rfl (hb hby at_256) (by decide) (by decide) k) ?_
                    show own_Go _ _ _ _ T5067 (mkF m 260 #[.val (.int ip0), .val (.long jp1), .second, .val (.long jp2), .second, .val (.long jp3), .second, .val (.long jp4), .second, .val (.long jp5), .second, .val (.int (2 : Int32)), .val (.long j12), .second, .val (.long j14), .second, .val (.long j16), .second, .val (.long j18), .second, .val (.ref b5001), .val (.ref b5005), .val (.ref b5009), .val (.ref b5013), .val (.ref b5005), .val (.long j12), .second, .val (.long j16), .second] [(.int (1 : Int32))])
                    exact own_retZ X5067 hx hlk (t := .boolean) hret (by simp) (hb hby at_260) (by decide) (by decide) rfl ⟨rfl, N5067⟩
                · skip
                  exact absurd hq5064_0_0 hq5065_1_0
              · skip
                refine own_st (fun t k => st5064.trans k) ?_
                refine own_st (fun t k => XS.iload X5064.here hx rfl (hb hby at_150) rfl k) ?_
                refine own_st (fun t k => XS.iconst X5064.here hx rfl (hb hby at_152) k) ?_
                show own_Go _ _ _ _ T5064 (mkF m 153 #[.val (.int ip0), .val (.long jp1), .second, .val (.long jp2), .second, .val (.long jp3), .second, .val (.long jp4), .second, .val (.long jp5), .second, .val (.int (2 : Int32)), .val (.long j12), .second, .val (.long j14), .second, .val (.long j16), .second, .val (.long j18), .second, .val (.ref b5001), .val (.ref b5005), .val (.ref b5009), .val (.ref b5013), .unset, .unset, .unset, .unset, .unset] [(.int (3 : Int32)), (.int (2 : Int32))])
                refine own_st (fun t k => XS.icmpYes X5064.here hx rfl (pc0 := 153) (pc' := 163) rfl (hb hby at_153) rfl (tlt (by decide : (2 : Int32) < (3 : Int32))).1 (by decide) (by decide) k) ?_
                show own_Go _ _ _ _ T5064 (mkF m 163 #[.val (.int ip0), .val (.long jp1), .second, .val (.long jp2), .second, .val (.long jp3), .second, .val (.long jp4), .second, .val (.long jp5), .second, .val (.int (2 : Int32)), .val (.long j12), .second, .val (.long j14), .second, .val (.long j16), .second, .val (.long j18), .second, .val (.ref b5001), .val (.ref b5005), .val (.ref b5009), .val (.ref b5013), .unset, .unset, .unset, .unset, .unset] [])
                refine own_st (fun t k => XS.aconstNull X5064.here hx rfl (hb hby at_163) k) ?_
                refine own_st (fun t k => XS.astore X5064.here hx rfl (hb hby at_164) rfl rfl (l' := #[.val (.int ip0), .val (.long jp1), .second, .val (.long jp2), .second, .val (.long jp3), .second, .val (.long jp4), .second, .val (.long jp5), .second, .val (.int (2 : Int32)), .val (.long j12), .second, .val (.long j14), .second, .val (.long j16), .second, .val (.long j18), .second, .val (.ref b5001), .val (.ref b5005), .val (.ref b5009), .val (.ref b5013), .val .null, .unset, .unset, .unset, .unset]) rfl k) ?_
                refine own_st (fun t k => XS.lconst X5064.here hx rfl (hb hby at_166) k) ?_
                refine own_st (fun t k => XS.lstore X5064.here hx rfl (hb hby at_167) rfl (l' := #[.val (.int ip0), .val (.long jp1), .second, .val (.long jp2), .second, .val (.long jp3), .second, .val (.long jp4), .second, .val (.long jp5), .second, .val (.int (2 : Int32)), .val (.long j12), .second, .val (.long j14), .second, .val (.long j16), .second, .val (.long j18), .second, .val (.ref b5001), .val (.ref b5005), .val (.ref b5009), .val (.ref b5013), .val .null, .val (.long (0 : Int64)), .second, .unset, .unset]) rfl k) ?_
                show own_Go _ _ _ _ T5064 (mkF m 169 #[.val (.int ip0), .val (.long jp1), .second, .val (.long jp2), .second, .val (.long jp3), .second, .val (.long jp4), .second, .val (.long jp5), .second, .val (.int (2 : Int32)), .val (.long j12), .second, .val (.long j14), .second, .val (.long j16), .second, .val (.long j18), .second, .val (.ref b5001), .val (.ref b5005), .val (.ref b5009), .val (.ref b5013), .val .null, .val (.long (0 : Int64)), .second, .unset, .unset] [])
                refine own_st (fun t k => XS.lconst X5064.here hx rfl (hb hby at_169) k) ?_
                refine own_st (fun t k => XS.lstore X5064.here hx rfl (hb hby at_170) rfl (l' := #[.val (.int ip0), .val (.long jp1), .second, .val (.long jp2), .second, .val (.long jp3), .second, .val (.long jp4), .second, .val (.long jp5), .second, .val (.int (2 : Int32)), .val (.long j12), .second, .val (.long j14), .second, .val (.long j16), .second, .val (.long j18), .second, .val (.ref b5001), .val (.ref b5005), .val (.ref b5009), .val (.ref b5013), .val .null, .val (.long (0 : Int64)), .second, .val (.long (0 : Int64)), .second]) rfl k) ?_
                refine own_st (fun t k => XS.iload X5064.here hx rfl (hb hby at_172) rfl k) ?_
                refine own_st (fun t k => XS.iconst X5064.here hx rfl (hb hby at_174) k) ?_
                show own_Go _ _ _ _ T5064 (mkF m 175 #[.val (.int ip0), .val (.long jp1), .second, .val (.long jp2), .second, .val (.long jp3), .second, .val (.long jp4), .second, .val (.long jp5), .second, .val (.int (2 : Int32)), .val (.long j12), .second, .val (.long j14), .second, .val (.long j16), .second, .val (.long j18), .second, .val (.ref b5001), .val (.ref b5005), .val (.ref b5009), .val (.ref b5013), .val .null, .val (.long (0 : Int64)), .second, .val (.long (0 : Int64)), .second] [(.int (1 : Int32)), (.int (2 : Int32))])
                refine own_st (fun t k => XS.icmpNo X5064.here hx rfl (hb hby at_175) rfl (flt (by decide : ¬ ((2 : Int32) < (1 : Int32)))).1 k) ?_
                refine own_st (fun t k => XS.aload X5064.here hx rfl (hb hby at_178) rfl rfl k) ?_
                refine own_st (fun t k => XS.astore X5064.here hx rfl (hb hby at_180) rfl rfl (l' := #[.val (.int ip0), .val (.long jp1), .second, .val (.long jp2), .second, .val (.long jp3), .second, .val (.long jp4), .second, .val (.long jp5), .second, .val (.int (2 : Int32)), .val (.long j12), .second, .val (.long j14), .second, .val (.long j16), .second, .val (.long j18), .second, .val (.ref b5001), .val (.ref b5005), .val (.ref b5009), .val (.ref b5013), .val (.ref b5001), .val (.long (0 : Int64)), .second, .val (.long (0 : Int64)), .second]) rfl k) ?_
                refine own_st (fun t k => XS.lloadN X5064.here hx rfl (hb hby at_182) rfl k) ?_
                show own_Go _ _ _ _ T5064 (mkF m 183 #[.val (.int ip0), .val (.long jp1), .second, .val (.long jp2), .second, .val (.long jp3), .second, .val (.long jp4), .second, .val (.long jp5), .second, .val (.int (2 : Int32)), .val (.long j12), .second, .val (.long j14), .second, .val (.long j16), .second, .val (.long j18), .second, .val (.ref b5001), .val (.ref b5005), .val (.ref b5009), .val (.ref b5013), .val (.ref b5001), .val (.long (0 : Int64)), .second, .val (.long (0 : Int64)), .second] [(.long jp1)])
                refine own_st (fun t k => XS.lstore X5064.here hx rfl (hb hby at_183) rfl (l' := #[.val (.int ip0), .val (.long jp1), .second, .val (.long jp2), .second, .val (.long jp3), .second, .val (.long jp4), .second, .val (.long jp5), .second, .val (.int (2 : Int32)), .val (.long j12), .second, .val (.long j14), .second, .val (.long j16), .second, .val (.long j18), .second, .val (.ref b5001), .val (.ref b5005), .val (.ref b5009), .val (.ref b5013), .val (.ref b5001), .val (.long jp1), .second, .val (.long (0 : Int64)), .second]) rfl k) ?_
                refine own_st (fun t k => XS.lload X5064.here hx rfl (hb hby at_185) rfl k) ?_
                refine own_st (fun t k => XS.lstore X5064.here hx rfl (hb hby at_187) rfl (l' := #[.val (.int ip0), .val (.long jp1), .second, .val (.long jp2), .second, .val (.long jp3), .second, .val (.long jp4), .second, .val (.long jp5), .second, .val (.int (2 : Int32)), .val (.long j12), .second, .val (.long j14), .second, .val (.long j16), .second, .val (.long j18), .second, .val (.ref b5001), .val (.ref b5005), .val (.ref b5009), .val (.ref b5013), .val (.ref b5001), .val (.long jp1), .second, .val (.long jp4), .second]) rfl k) ?_
                refine own_st (fun t k => XS.iload X5064.here hx rfl (hb hby at_189) rfl k) ?_
                show own_Go _ _ _ _ T5064 (mkF m 191 #[.val (.int ip0), .val (.long jp1), .second, .val (.long jp2), .second, .val (.long jp3), .second, .val (.long jp4), .second, .val (.long jp5), .second, .val (.int (2 : Int32)), .val (.long j12), .second, .val (.long j14), .second, .val (.long j16), .second, .val (.long j18), .second, .val (.ref b5001), .val (.ref b5005), .val (.ref b5009), .val (.ref b5013), .val (.ref b5001), .val (.long jp1), .second, .val (.long jp4), .second] [(.int (2 : Int32))])
                refine own_st (fun t k => XS.iconst X5064.here hx rfl (hb hby at_191) k) ?_
                show own_Go _ _ _ _ T5064 (mkF m 192 #[.val (.int ip0), .val (.long jp1), .second, .val (.long jp2), .second, .val (.long jp3), .second, .val (.long jp4), .second, .val (.long jp5), .second, .val (.int (2 : Int32)), .val (.long j12), .second, .val (.long j14), .second, .val (.long j16), .second, .val (.long j18), .second, .val (.ref b5001), .val (.ref b5005), .val (.ref b5009), .val (.ref b5013), .val (.ref b5001), .val (.long jp1), .second, .val (.long jp4), .second] [(.int (2 : Int32)), (.int (2 : Int32))])
                refine own_st (fun t k => XS.icmpNo X5064.here hx rfl (hb hby at_192) rfl (flt (by decide : ¬ ((2 : Int32) < (2 : Int32)))).1 k) ?_
                refine own_st (fun t k => XS.lload X5064.here hx rfl (hb hby at_195) rfl k) ?_
                refine own_st (fun t k => XS.lload X5064.here hx rfl (hb hby at_197) rfl k) ?_
                show own_Go _ _ _ _ T5064 (mkF m 199 #[.val (.int ip0), .val (.long jp1), .second, .val (.long jp2), .second, .val (.long jp3), .second, .val (.long jp4), .second, .val (.long jp5), .second, .val (.int (2 : Int32)), .val (.long j12), .second, .val (.long j14), .second, .val (.long j16), .second, .val (.long j18), .second, .val (.ref b5001), .val (.ref b5005), .val (.ref b5009), .val (.ref b5013), .val (.ref b5001), .val (.long jp1), .second, .val (.long jp4), .second] [(.long j16), (.long j12)])
                refine own_st (fun t k => XS.lload X5064.here hx rfl (hb hby at_199) rfl k) ?_
                refine own_st (fun t k => XS.lload X5064.here hx rfl (hb hby at_201) rfl k) ?_
                show own_Go _ _ _ _ T5064 (mkF m 203 #[.val (.int ip0), .val (.long jp1), .second, .val (.long jp2), .second, .val (.long jp3), .second, .val (.long jp4), .second, .val (.long jp5), .second, .val (.int (2 : Int32)), .val (.long j12), .second, .val (.long j14), .second, .val (.long j16), .second, .val (.long j18), .second, .val (.ref b5001), .val (.ref b5005), .val (.ref b5009), .val (.ref b5013), .val (.ref b5001), .val (.long jp1), .second, .val (.long jp4), .second] [(.long jp4), (.long jp1), (.long j16), (.long j12)])
                obtain ⟨_, _, ⟨T5069, L5069, k5069, n5069⟩, -, X5069, ⟨Lc5069, hQ5069, l5069, y5069, z5069⟩, st5069⟩ := Jvm.LawKit.callS X5064 hx (y := own_y3) hown (mvT hZ (own_w hw 145 rfl)) (mvT hZ (own_w hw 146 rfl)) (mvT hZ (own_w hw 147 rfl)) (mvT hZ (own_w hw 148 rfl)) (by decide) (backOf (W := 0) (own_rm21 l Z a0 hw [] j12 j16 jp1 jp4 T5064.heap n0 Z5064 ) hZ (own_w hw 148 rfl) (own_w hw 147 rfl) (by decide) (by decide)) (g := (mkF m 203 #[.val (.int ip0), .val (.long jp1), .second, .val (.long jp2), .second, .val (.long jp3), .second, .val (.long jp4), .second, .val (.long jp5), .second, .val (.int (2 : Int32)), .val (.long j12), .second, .val (.long j14), .second, .val (.long j16), .second, .val (.long j18), .second, .val (.ref b5001), .val (.ref b5005), .val (.ref b5009), .val (.ref b5013), .val (.ref b5001), .val (.long jp1), .second, .val (.long jp4), .second] [(.long jp4), (.long jp1), (.long j16), (.long j12)])) rfl (by rw [hml]; rfl) (argsL := [(.long j12), (.long j16), (.long jp1), (.long jp4)]) (rest := []) (lenOf own_pd16 rfl) rfl (by show 2 * 0 + _ ≤ _; exact Nat.le_of_eq rfl) (hb hby at_203) (fun _ _ => ⟨rfl, rfl, (by decide : 8 + 0 ≤ _), (by decide : 84 + 0 ≤ _)⟩)
                dsimp only [Pt.U, Pt.locs, Pt.cells, Pt.slots] at X5069 l5069 y5069 z5069 st5069 hQ5069
                subst l5069 y5069 z5069
                obtain ⟨N5069q, e5069, hL5069⟩ := hQ5069
                have N5069 := Fr.app N5064 N5069q
                rcases hL5069 with ⟨rfl, hq5069_0_0, -⟩ | ⟨rfl, hq5069_1_0, -⟩
                · skip
                  exact absurd hq5069_0_0 hq5064_1_0
                · skip
                  refine own_st st5069 ?_
                  show own_Go _ _ _ _ T5069 (mkF m 206 #[.val (.int ip0), .val (.long jp1), .second, .val (.long jp2), .second, .val (.long jp3), .second, .val (.long jp4), .second, .val (.long jp5), .second, .val (.int (2 : Int32)), .val (.long j12), .second, .val (.long j14), .second, .val (.long j16), .second, .val (.long j18), .second, .val (.ref b5001), .val (.ref b5005), .val (.ref b5009), .val (.ref b5013), .val (.ref b5001), .val (.long jp1), .second, .val (.long jp4), .second] [(.int (0 : Int32))])
                  refine own_st (fun t k => XS.ifYes X5069.here hx rfl (pc0 := 206) (pc' := 221) rfl (hb hby at_206) rfl ((if0 _ _).trans (teq (by decide : (0 : Int32) = (0 : Int32))).1) (by decide) (by decide) k) ?_
                  show own_Go _ _ _ _ T5069 (mkF m 221 #[.val (.int ip0), .val (.long jp1), .second, .val (.long jp2), .second, .val (.long jp3), .second, .val (.long jp4), .second, .val (.long jp5), .second, .val (.int (2 : Int32)), .val (.long j12), .second, .val (.long j14), .second, .val (.long j16), .second, .val (.long j18), .second, .val (.ref b5001), .val (.ref b5005), .val (.ref b5009), .val (.ref b5013), .val (.ref b5001), .val (.long jp1), .second, .val (.long jp4), .second] [])
                  refine own_st (fun t k => XS.iload X5069.here hx rfl (hb hby at_221) rfl k) ?_
                  refine own_st (fun t k => XS.iconst X5069.here hx rfl (hb hby at_223) k) ?_
                  show own_Go _ _ _ _ T5069 (mkF m 224 #[.val (.int ip0), .val (.long jp1), .second, .val (.long jp2), .second, .val (.long jp3), .second, .val (.long jp4), .second, .val (.long jp5), .second, .val (.int (2 : Int32)), .val (.long j12), .second, .val (.long j14), .second, .val (.long j16), .second, .val (.long j18), .second, .val (.ref b5001), .val (.ref b5005), .val (.ref b5009), .val (.ref b5013), .val (.ref b5001), .val (.long jp1), .second, .val (.long jp4), .second] [(.int (3 : Int32)), (.int (2 : Int32))])
                  refine own_st (fun t k => XS.icmpYes X5069.here hx rfl (pc0 := 224) (pc' := 245) rfl (hb hby at_224) rfl (tlt (by decide : (2 : Int32) < (3 : Int32))).1 (by decide) (by decide) k) ?_
                  refine own_st (fun t k => XS.aload X5069.here hx rfl (hb hby at_245) rfl rfl k) ?_
                  show own_Go _ _ _ _ T5069 (mkF m 247 #[.val (.int ip0), .val (.long jp1), .second, .val (.long jp2), .second, .val (.long jp3), .second, .val (.long jp4), .second, .val (.long jp5), .second, .val (.int (2 : Int32)), .val (.long j12), .second, .val (.long j14), .second, .val (.long j16), .second, .val (.long j18), .second, .val (.ref b5001), .val (.ref b5005), .val (.ref b5009), .val (.ref b5013), .val (.ref b5001), .val (.long jp1), .second, .val (.long jp4), .second] [(.ref b5013)])
                  have f5070 := (f5057.keep Kq5064)
                  have f5072 := (f5063.keep Kq5064)
                  obtain ⟨cq5071, kq5071, q5071a, q5071b, q5071c⟩ := isOf hZ e5069 f5072
                  obtain ⟨_, _, ⟨T5071, L5071, k5071, n5071⟩, -, X5071, ⟨Lc5071, hQ5071, l5071, y5071, z5071⟩, st5071⟩ := X5069.virtualBack hx (y := own_y1) (z := own_y1) hown (mvT hZ (own_w hw 56 rfl)) (mvT hZ (own_w hw 57 rfl)) (notFace_of_selects (args := #[]) (mvT hZ (own_w hw 59 rfl))) (mvT hZ (own_w hw 59 rfl)) (mvT hZ (own_w hw 58 rfl)) (by decide) (backOf (W := 0) (own_rm7_108 l Z a0 hw [] b5013 b2x4_14c5015 b2x5_18c4c5015 k2x5_18c4c5015c2c5044c2c5064 b5005 b5001 T5064.heap n0 Z5064 Fc5064_1_6 Fc5064_1_5 Fc5064_1_2 Fc5064_1_1 Fc5064_1_0 OFc5064_1_0 f5070) hZ (own_w hw 60 rfl) (own_w hw 28 rfl) (by decide) (by decide)) q5071a q5071c (g := (mkF m 247 #[.val (.int ip0), .val (.long jp1), .second, .val (.long jp2), .second, .val (.long jp3), .second, .val (.long jp4), .second, .val (.long jp5), .second, .val (.int (2 : Int32)), .val (.long j12), .second, .val (.long j14), .second, .val (.long j16), .second, .val (.long j18), .second, .val (.ref b5001), .val (.ref b5005), .val (.ref b5009), .val (.ref b5013), .val (.ref b5001), .val (.long jp1), .second, .val (.long jp4), .second] [(.ref b5013)])) rfl (by rw [hml]; rfl) (Steps.refl _) (argsL := []) (rest := []) (lenOf own_pd3 rfl) rfl (by show 2 * 0 + _ ≤ _; exact Nat.le_of_eq rfl) (hb hby at_247) (fun _ _ => ⟨rfl, e5069, (by decide : 8 + 0 ≤ _), (by decide : 84 + 0 ≤ _)⟩)
                  dsimp only [Pt.U, Pt.locs, Pt.cells, Pt.slots] at X5071 l5071 y5071 z5071 st5071 hQ5071
                  subst l5071 y5071 z5071
                  obtain ⟨N5071q, Kq5071, hL5071⟩ := hQ5071
                  have N5071 := Fr.app N5069 N5071q
                  have K5071 : Keep h0 T5071.heap [] := K5064.trans Kq5071 all0
                  have Z5071 := Nat.le_trans Z5064 Kq5071.1
                  rcases hL5071 with ⟨rfl, -⟩
                  · skip
                    refine own_st (fun t k => st5071.trans k) ?_
                    refine own_st (fun t k => XS.aload X5071.here hx rfl (hb hby at_250) rfl rfl k) ?_
                    show own_Go _ _ _ _ T5071 (mkF m 252 #[.val (.int ip0), .val (.long jp1), .second, .val (.long jp2), .second, .val (.long jp3), .second, .val (.long jp4), .second, .val (.long jp5), .second, .val (.int (2 : Int32)), .val (.long j12), .second, .val (.long j14), .second, .val (.long j16), .second, .val (.long j18), .second, .val (.ref b5001), .val (.ref b5005), .val (.ref b5009), .val (.ref b5013), .val (.ref b5001), .val (.long jp1), .second, .val (.long jp4), .second] [(.ref b5001), (.ref b5001)])
                    refine own_st (fun t k => Jvm.RoadKit.acmp (g := (mkF m 252 #[.val (.int ip0), .val (.long jp1), .second, .val (.long jp2), .second, .val (.long jp3), .second, .val (.long jp4), .second, .val (.long jp5), .second, .val (.int (2 : Int32)), .val (.long j12), .second, .val (.long j14), .second, .val (.long j16), .second, .val (.long j18), .second, .val (.ref b5001), .val (.ref b5005), .val (.ref b5009), .val (.ref b5013), .val (.ref b5001), .val (.long jp1), .second, .val (.long jp4), .second] [(.ref b5001), (.ref b5001)])) X5071 hx rfl rfl rfl (pc0 := 252) (pc' := 255) (same := true) rfl (hb hby at_252) rfl (decide_eq_true (congrArg Value.ref (rfl : b5001 = b5001))) (by decide) (by decide) k) ?_
                    refine own_st (fun t k => XS.iconst X5071.here hx rfl (hb hby at_255) k) ?_
                    show own_Go _ _ _ _ T5071 (mkF m 256 #[.val (.int ip0), .val (.long jp1), .second, .val (.long jp2), .second, .val (.long jp3), .second, .val (.long jp4), .second, .val (.long jp5), .second, .val (.int (2 : Int32)), .val (.long j12), .second, .val (.long j14), .second, .val (.long j16), .second, .val (.long j18), .second, .val (.ref b5001), .val (.ref b5005), .val (.ref b5009), .val (.ref b5013), .val (.ref b5001), .val (.long jp1), .second, .val (.long jp4), .second] [(.int (1 : Int32))])
                    refine own_st (fun t k => XS.goto X5071.here hx rfl (pc0 := 256) (pc' := 260) rfl (hb hby at_256) (by decide) (by decide) k) ?_
                    show own_Go _ _ _ _ T5071 (mkF m 260 #[.val (.int ip0), .val (.long jp1), .second, .val (.long jp2), .second, .val (.long jp3), .second, .val (.long jp4), .second, .val (.long jp5), .second, .val (.int (2 : Int32)), .val (.long j12), .second, .val (.long j14), .second, .val (.long j16), .second, .val (.long j18), .second, .val (.ref b5001), .val (.ref b5005), .val (.ref b5009), .val (.ref b5013), .val (.ref b5001), .val (.long jp1), .second, .val (.long jp4), .second] [(.int (1 : Int32))])
                    exact own_retZ X5071 hx hlk (t := .boolean) hret (by simp) (hb hby at_260) (by decide) (by decide) rfl ⟨rfl, N5071⟩
          · skip
            refine own_st (fun t k => XS.iload X5015.here hx rfl (hb hby at_124) rfl k) ?_
            refine own_st (fun t k => XS.iconst X5015.here hx rfl (hb hby at_126) k) ?_
            show own_Go _ _ _ _ T5015 (mkF m 127 #[.val (.int ip0), .val (.long jp1), .second, .val (.long jp2), .second, .val (.long jp3), .second, .val (.long jp4), .second, .val (.long jp5), .second, .val (.int (3 : Int32)), .val (.long j12), .second, .val (.long j14), .second, .val (.long j16), .second, .val (.long j18), .second, .val (.ref b5001), .val (.ref b5005), .val (.ref b5009), .val (.ref b5013), .unset, .unset, .unset, .unset, .unset] [(.int (1 : Int32)), (.int (3 : Int32))])
            refine own_st (fun t k => XS.icmpNo X5015.here hx rfl (hb hby at_127) rfl (flt (by decide : ¬ ((3 : Int32) < (1 : Int32)))).1 k) ?_
            refine own_st (fun t k => XS.aload X5015.here hx rfl (hb hby at_130) rfl rfl k) ?_
            refine own_st (fun t k => XS.aload X5015.here hx rfl (hb hby at_132) rfl rfl k) ?_
            show own_Go _ _ _ _ T5015 (mkF m 134 #[.val (.int ip0), .val (.long jp1), .second, .val (.long jp2), .second, .val (.long jp3), .second, .val (.long jp4), .second, .val (.long jp5), .second, .val (.int (3 : Int32)), .val (.long j12), .second, .val (.long j14), .second, .val (.long j16), .second, .val (.long j18), .second, .val (.ref b5001), .val (.ref b5005), .val (.ref b5009), .val (.ref b5013), .unset, .unset, .unset, .unset, .unset] [(.ref b5001), (.ref b5013)])
            have ne5073 : b5001 ≠ b5005 := Nat.ne_of_lt (Nat.lt_of_lt_of_le (A5001.keep Kq5004).lt (Nat.le_of_eq g5005.symm))
            have ne5074 : b5001 ≠ b5009 := Nat.ne_of_lt (Nat.lt_of_lt_of_le (((A5001.keep Kq5004).ext E5005).keep Kq5008).lt (Nat.le_of_eq g5009.symm))
            have ne5075 : b5001 ≠ b5013 := Nat.ne_of_lt (Nat.lt_of_lt_of_le (((((A5001.keep Kq5004).ext E5005).keep Kq5008).ext E5009).keep Kq5012).lt (Nat.le_of_eq g5013.symm))
            have f5076 := ((((((Fc5004_0_3.ext E5005).keep Kq5008 (ninS ne5073 nin0)).ext E5009).keep Kq5012 (ninS ne5074 nin0)).ext E5013).keep Kq5015 (ninS ne5075 nin0))
            have f5077 := (((((((A5001.keep Kq5004).ext E5005).keep Kq5008).ext E5009).keep Kq5012).ext E5013).keep Kq5015)
            have f5078 := (own_stak f5014 Kq5015 (allS (own_plE A5013) all0))
            have f5079 := (P4.keep K5015 nin0)
            have f5080 := (P6.keep K5015 nin0)
            have f5081 := (P1.keep K5015)
            have f5082 := (P3.keep K5015)
            have f5083 := (A5013.keep Kq5015)
            obtain ⟨cq5084, kq5084, q5084a, q5084b, q5084c⟩ := isOf hZ rfl f5083
            obtain ⟨_, _, ⟨T5084, L5084, k5084, n5084⟩, -, X5084, ⟨Lc5084, hQ5084, l5084, y5084, z5084⟩, st5084⟩ := X5015.virtualBack hx (y := own_y2) (z := own_y2) hown (mvT hZ (own_w hw 63 rfl)) (mvT hZ (own_w hw 64 rfl)) (notFace_of_selects (args := #[]) (mvT hZ (own_w hw 66 rfl))) (mvT hZ (own_w hw 66 rfl)) (mvT hZ (own_w hw 65 rfl)) (by decide) (backOf (W := 0) (own_rm8_47 l Z a0 hw [] b5013 b5001 b2x4_14c5015 w_NONE w_EMPTY w_EMPTY_parts k_w_EMPTY_parts b2x5_18c4c5015 k2x5_18c4c5015 T5015.heap n0 Z5015 Fc5015_0_0 Fc5015_0_5 Fc5015_0_2 f5076 f5077 f5078 Fc5015_0_3 Fc5015_0_6 f5079 f5080 f5081 f5082 Fc5015_0_4 Fc5015_0_7 OFc5015_0_7 Fc5015_0_8 g_b2x4_14c5015 g_b2x5_18c4c5015 Fc5015_0_1 f5083 g_b5013) hZ (own_w hw 67 rfl) (own_w hw 28 rfl) (by decide) (by decide)) q5084a q5084c (g := (mkF m 134 #[.val (.int ip0), .val (.long jp1), .second, .val (.long jp2), .second, .val (.long jp3), .second, .val (.long jp4), .second, .val (.long jp5), .second, .val (.int (3 : Int32)), .val (.long j12), .second, .val (.long j14), .second, .val (.long j16), .second, .val (.long j18), .second, .val (.ref b5001), .val (.ref b5005), .val (.ref b5009), .val (.ref b5013), .unset, .unset, .unset, .unset, .unset] [(.ref b5001), (.ref b5013)])) rfl (by rw [hml]; rfl) (Steps.refl _) (argsL := [(.ref b5001)]) (rest := []) (lenOf own_pd12 rfl) rfl (by show 2 * 0 + _ ≤ _; exact Nat.le_of_eq rfl) (hb hby at_134) (fun _ _ => ⟨rfl, rfl, (by decide : 6 + 2 ≤ _), (by decide : 82 + 2 ≤ _)⟩)
            dsimp only [Pt.U, Pt.locs, Pt.cells, Pt.slots] at X5084 l5084 y5084 z5084 st5084 hQ5084
            subst l5084 y5084 z5084
            obtain ⟨N5084q, Kq5084, hL5084⟩ := hQ5084
            have N5084 := Fr.app N5015 N5084q
            have K5084 : Keep h0 T5084.heap [] := K5015.trans Kq5084 (allS (Or.inr sz_b2x5_18c4c5015) (allS (Or.inr sz_b2x4_14c5015) (allS (Or.inr sz_b5013) all0)))
            have Z5084 := Nat.le_trans Z5015 Kq5084.1
            rcases hL5084 with ⟨b6x14_69c4c13c16c2c5084, b3x14_69c4c13c16c2c5084, k2x5_18c4c5015c2c5084, k3x14_69c4c13c16c2c5084, rfl, hq5084_0_0, sq_b6x14_69c4c13c16c2c5084, sq_b3x14_69c4c13c16c2c5084, Fc5084_0_0, OFc5084_0_0, Fc5084_0_1, Fc5084_0_2, Fc5084_0_3, Fc5084_0_4, Fc5084_0_5, Fc5084_0_6, Fc5084_0_7, Fc5084_0_8, Fc5084_0_9, OFc5084_0_9, Fc5084_0_10, -⟩
            · skip
              have g_b6x14_69c4c13c16c2c5084 : n0 ≤ b6x14_69c4c13c16c2c5084 := Nat.le_trans Z5015 sq_b6x14_69c4c13c16c2c5084
              have sz_b6x14_69c4c13c16c2c5084 : h0.size ≤ b6x14_69c4c13c16c2c5084 := Nat.le_trans K5015.1 sq_b6x14_69c4c13c16c2c5084
              have g_b3x14_69c4c13c16c2c5084 : n0 ≤ b3x14_69c4c13c16c2c5084 := Nat.le_trans Z5015 sq_b3x14_69c4c13c16c2c5084
              have sz_b3x14_69c4c13c16c2c5084 : h0.size ≤ b3x14_69c4c13c16c2c5084 := Nat.le_trans K5015.1 sq_b3x14_69c4c13c16c2c5084
              refine own_st (fun t k => st5084.trans k) ?_
              show own_Go _ _ _ _ T5084 (mkF m 137 #[.val (.int ip0), .val (.long jp1), .second, .val (.long jp2), .second, .val (.long jp3), .second, .val (.long jp4), .second, .val (.long jp5), .second, .val (.int (3 : Int32)), .val (.long j12), .second, .val (.long j14), .second, .val (.long j16), .second, .val (.long j18), .second, .val (.ref b5001), .val (.ref b5005), .val (.ref b5009), .val (.ref b5013), .unset, .unset, .unset, .unset, .unset] [])
              refine own_st (fun t k => XS.iload X5084.here hx rfl (hb hby at_137) rfl k) ?_
              refine own_st (fun t k => XS.iconst X5084.here hx rfl (hb hby at_139) k) ?_
              show own_Go _ _ _ _ T5084 (mkF m 140 #[.val (.int ip0), .val (.long jp1), .second, .val (.long jp2), .second, .val (.long jp3), .second, .val (.long jp4), .second, .val (.long jp5), .second, .val (.int (3 : Int32)), .val (.long j12), .second, .val (.long j14), .second, .val (.long j16), .second, .val (.long j18), .second, .val (.ref b5001), .val (.ref b5005), .val (.ref b5009), .val (.ref b5013), .unset, .unset, .unset, .unset, .unset] [(.int (2 : Int32)), (.int (3 : Int32))])
              refine own_st (fun t k => XS.icmpNo X5084.here hx rfl (hb hby at_140) rfl (flt (by decide : ¬ ((3 : Int32) < (2 : Int32)))).1 k) ?_
              refine own_st (fun t k => XS.aload X5084.here hx rfl (hb hby at_143) rfl rfl k) ?_
              show own_Go _ _ _ _ T5084 (mkF m 145 #[.val (.int ip0), .val (.long jp1), .second, .val (.long jp2), .second, .val (.long jp3), .second, .val (.long jp4), .second, .val (.long jp5), .second, .val (.int (3 : Int32)), .val (.long j12), .second, .val (.long j14), .second, .val (.long j16), .second, .val (.long j18), .second, .val (.ref b5001), .val (.ref b5005), .val (.ref b5009), .val (.ref b5013), .unset, .unset, .unset, .unset, .unset] [(.ref b5013)])
              refine own_st (fun t k => XS.aload X5084.here hx rfl (hb hby at_145) rfl rfl k) ?_
              show own_Go _ _ _ _ T5084 (mkF m 147 #[.val (.int ip0), .val (.long jp1), .second, .val (.long jp2), .second, .val (.long jp3), .second, .val (.long jp4), .second, .val (.long jp5), .second, .val (.int (3 : Int32)), .val (.long j12), .second, .val (.long j14), .second, .val (.long j16), .second, .val (.long j18), .second, .val (.ref b5001), .val (.ref b5005), .val (.ref b5009), .val (.ref b5013), .unset, .unset, .unset, .unset, .unset] [(.ref b5005), (.ref b5013)])
              have ne5085 : b5005 ≠ b5009 := Nat.ne_of_lt (Nat.lt_of_lt_of_le (A5005.keep Kq5008).lt (Nat.le_of_eq g5009.symm))
              have ne5086 : b5005 ≠ b5013 := Nat.ne_of_lt (Nat.lt_of_lt_of_le (((A5005.keep Kq5008).ext E5009).keep Kq5012).lt (Nat.le_of_eq g5013.symm))
              have ne5087 : b5005 ≠ b2x4_14c5015 := Nat.ne_of_lt (Nat.lt_of_lt_of_le ((((A5005.keep Kq5008).ext E5009).keep Kq5012).ext E5013).lt sq_b2x4_14c5015)
              have ne5088 : b5005 ≠ b2x5_18c4c5015 := Nat.ne_of_lt (Nat.lt_of_lt_of_le ((((A5005.keep Kq5008).ext E5009).keep Kq5012).ext E5013).lt sq_b2x5_18c4c5015)
              have f5089 := (((((Fc5008_0_1.ext E5009).keep Kq5012 (ninS ne5085 nin0)).ext E5013).keep Kq5015 (ninS ne5086 nin0)).keep Kq5084 (ninS ne5088 (ninS ne5087 (ninS ne5086 nin0))))
              have f5090 := ((((((A5005.keep Kq5008).ext E5009).keep Kq5012).ext E5013).keep Kq5015).keep Kq5084)
              have f5091 := (((((Fc5008_0_0.ext E5009).keep Kq5012 (ninS ne5085 nin0)).ext E5013).keep Kq5015 (ninS ne5086 nin0)).keep Kq5084 (ninS ne5088 (ninS ne5087 (ninS ne5086 nin0))))
              have ne5092 : b5001 ≠ b2x4_14c5015 := Nat.ne_of_lt (Nat.lt_of_lt_of_le ((((((A5001.keep Kq5004).ext E5005).keep Kq5008).ext E5009).keep Kq5012).ext E5013).lt sq_b2x4_14c5015)
              have ne5093 : b5001 ≠ b2x5_18c4c5015 := Nat.ne_of_lt (Nat.lt_of_lt_of_le ((((((A5001.keep Kq5004).ext E5005).keep Kq5008).ext E5009).keep Kq5012).ext E5013).lt sq_b2x5_18c4c5015)
              have f5094 := (((((((Fc5004_0_1.ext E5005).keep Kq5008 (ninS ne5073 nin0)).ext E5009).keep Kq5012 (ninS ne5074 nin0)).ext E5013).keep Kq5015 (ninS ne5075 nin0)).keep Kq5084 (ninS ne5093 (ninS ne5092 (ninS ne5075 nin0))))
              have f5095 := (((((((Fc5004_0_0.ext E5005).keep Kq5008 (ninS ne5073 nin0)).ext E5009).keep Kq5012 (ninS ne5074 nin0)).ext E5013).keep Kq5015 (ninS ne5075 nin0)).keep Kq5084 (ninS ne5093 (ninS ne5092 (ninS ne5075 nin0))))
              have f5096 := (f5077.keep Kq5084)
              have f5097 := (Fc5015_0_2.keep Kq5084)
              have f5098 := (((((Fc5008_0_3.ext E5009).keep Kq5012 (ninS ne5085 nin0)).ext E5013).keep Kq5015 (ninS ne5086 nin0)).keep Kq5084 (ninS ne5088 (ninS ne5087 (ninS ne5086 nin0))))
              have f5099 := (P5.keep K5084 nin0)
              have f5100 := (P7.keep K5084 nin0)
              have f5101 := (f5081.keep Kq5084)
              have f5102 := (Fc5015_0_8.keep Kq5084)
              have f5103 := (f5083.keep Kq5084)
              obtain ⟨cq5104, kq5104, q5104a, q5104b, q5104c⟩ := isOf hZ rfl f5103
              obtain ⟨_, _, ⟨T5104, L5104, k5104, n5104⟩, -, X5104, ⟨Lc5104, hQ5104, l5104, y5104, z5104⟩, st5104⟩ := X5084.virtualBack hx (y := own_y2) (z := own_y2) hown (mvT hZ (own_w hw 63 rfl)) (mvT hZ (own_w hw 64 rfl)) (notFace_of_selects (args := #[]) (mvT hZ (own_w hw 66 rfl))) (mvT hZ (own_w hw 66 rfl)) (mvT hZ (own_w hw 65 rfl)) (by decide) (backOf (W := 0) (own_rm8_91 l Z a0 hw [] b5013 b5005 b2x4_14c5015 b2x5_18c4c5015 k2x5_18c4c5015c2c5084 b5001 j12 j16 jp1 jp4 w_NONE b6x14_69c4c13c16c2c5084 b3x14_69c4c13c16c2c5084 k3x14_69c4c13c16c2c5084 w_NONE_names k_w_NONE_names T5084.heap n0 Z5084 Fc5084_0_5 Fc5084_0_1 Fc5084_0_4 Fc5084_0_0 OFc5084_0_0 f5089 f5090 f5091 f5094 f5095 f5096 f5097 f5098 Fc5084_0_2 Fc5084_0_8 Fc5084_0_9 OFc5084_0_9 f5099 f5100 f5101 Fc5084_0_7 Fc5084_0_3 f5102 g_b2x4_14c5015 g_b2x5_18c4c5015 Fc5084_0_6 f5103 g_b5013) hZ (own_w hw 67 rfl) (own_w hw 28 rfl) (by decide) (by decide)) q5104a q5104c (g := (mkF m 147 #[.val (.int ip0), .val (.long jp1), .second, .val (.long jp2), .second, .val (.long jp3), .second, .val (.long jp4), .second, .val (.long jp5), .second, .val (.int (3 : Int32)), .val (.long j12), .second, .val (.long j14), .second, .val (.long j16), .second, .val (.long j18), .second, .val (.ref b5001), .val (.ref b5005), .val (.ref b5009), .val (.ref b5013), .unset, .unset, .unset, .unset, .unset] [(.ref b5005), (.ref b5013)])) rfl (by rw [hml]; rfl) (Steps.refl _) (argsL := [(.ref b5005)]) (rest := []) (lenOf own_pd12 rfl) rfl (by show 2 * 0 + _ ≤ _; exact Nat.le_of_eq rfl) (hb hby at_147) (fun _ _ => ⟨rfl, rfl, (by decide : 8 + 0 ≤ _), (by decide : 84 + 0 ≤ _)⟩)
              dsimp only [Pt.U, Pt.locs, Pt.cells, Pt.slots] at X5104 l5104 y5104 z5104 st5104 hQ5104
              subst l5104 y5104 z5104
              obtain ⟨N5104q, Kq5104, hL5104⟩ := hQ5104
              have N5104 := Fr.app N5084 N5104q
              have K5104 : Keep h0 T5104.heap [] := K5084.trans Kq5104 (allS (Or.inr sz_b2x5_18c4c5015) (allS (Or.inr sz_b2x4_14c5015) (allS (Or.inr sz_b5013) all0)))
              have Z5104 := Nat.le_trans Z5084 Kq5104.1
              rcases hL5104 with ⟨k2x5_18c4c5015c2c5044c2c5104, rfl, hq5104_0_0, Fc5104_0_0, OFc5104_0_0, Fc5104_0_1, Fc5104_0_2, Fc5104_0_3, Fc5104_0_4, Fc5104_0_5, Fc5104_0_6, -⟩ | ⟨k2x5_18c4c5015c2c5044c2c5104, rfl, hq5104_1_0, Fc5104_1_0, OFc5104_1_0, Fc5104_1_1, Fc5104_1_2, Fc5104_1_3, Fc5104_1_4, Fc5104_1_5, Fc5104_1_6, -⟩
              · skip
                refine own_st (fun t k => st5104.trans k) ?_
                refine own_st (fun t k => XS.iload X5104.here hx rfl (hb hby at_150) rfl k) ?_
                refine own_st (fun t k => XS.iconst X5104.here hx rfl (hb hby at_152) k) ?_
                show own_Go _ _ _ _ T5104 (mkF m 153 #[.val (.int ip0), .val (.long jp1), .second, .val (.long jp2), .second, .val (.long jp3), .second, .val (.long jp4), .second, .val (.long jp5), .second, .val (.int (3 : Int32)), .val (.long j12), .second, .val (.long j14), .second, .val (.long j16), .second, .val (.long j18), .second, .val (.ref b5001), .val (.ref b5005), .val (.ref b5009), .val (.ref b5013), .unset, .unset, .unset, .unset, .unset] [(.int (3 : Int32)), (.int (3 : Int32))])
                refine own_st (fun t k => XS.icmpNo X5104.here hx rfl (hb hby at_153) rfl (flt (by decide : ¬ ((3 : Int32) < (3 : Int32)))).1 k) ?_
                refine own_st (fun t k => XS.aload X5104.here hx rfl (hb hby at_156) rfl rfl k) ?_
                refine own_st (fun t k => XS.aload X5104.here hx rfl (hb hby at_158) rfl rfl k) ?_
                show own_Go _ _ _ _ T5104 (mkF m 160 #[.val (.int ip0), .val (.long jp1), .second, .val (.long jp2), .second, .val (.long jp3), .second, .val (.long jp4), .second, .val (.long jp5), .second, .val (.int (3 : Int32)), .val (.long j12), .second, .val (.long j14), .second, .val (.long j16), .second, .val (.long j18), .second, .val (.ref b5001), .val (.ref b5005), .val (.ref b5009), .val (.ref b5013), .unset, .unset, .unset, .unset, .unset] [(.ref b5009), (.ref b5013)])
                have ne5105 : b5009 ≠ b5013 := Nat.ne_of_lt (Nat.lt_of_lt_of_le (A5009.keep Kq5012).lt (Nat.le_of_eq g5013.symm))
                have ne5106 : b5009 ≠ b2x4_14c5015 := Nat.ne_of_lt (Nat.lt_of_lt_of_le ((A5009.keep Kq5012).ext E5013).lt sq_b2x4_14c5015)
                have ne5107 : b5009 ≠ b2x5_18c4c5015 := Nat.ne_of_lt (Nat.lt_of_lt_of_le ((A5009.keep Kq5012).ext E5013).lt sq_b2x5_18c4c5015)
                have f5108 := ((((Fc5012_0_1.ext E5013).keep Kq5015 (ninS ne5105 nin0)).keep Kq5084 (ninS ne5107 (ninS ne5106 (ninS ne5105 nin0)))).keep Kq5104 (ninS ne5107 (ninS ne5106 (ninS ne5105 nin0))))
                have f5109 := (((((A5009.keep Kq5012).ext E5013).keep Kq5015).keep Kq5084).keep Kq5104)
                have f5110 := ((((Fc5012_0_0.ext E5013).keep Kq5015 (ninS ne5105 nin0)).keep Kq5084 (ninS ne5107 (ninS ne5106 (ninS ne5105 nin0)))).keep Kq5104 (ninS ne5107 (ninS ne5106 (ninS ne5105 nin0))))
                have f5111 := (f5089.keep Kq5104 (ninS ne5088 (ninS ne5087 (ninS ne5086 nin0))))
                have f5112 := (f5091.keep Kq5104 (ninS ne5088 (ninS ne5087 (ninS ne5086 nin0))))
                have f5113 := (f5090.keep Kq5104)
                have f5114 := (f5094.keep Kq5104 (ninS ne5093 (ninS ne5092 (ninS ne5075 nin0))))
                have f5115 := (f5095.keep Kq5104 (ninS ne5093 (ninS ne5092 (ninS ne5075 nin0))))
                have f5116 := (f5096.keep Kq5104)
                have f5117 := (f5097.keep Kq5104)
                have f5118 := ((((Fc5012_0_3.ext E5013).keep Kq5015 (ninS ne5105 nin0)).keep Kq5084 (ninS ne5107 (ninS ne5106 (ninS ne5105 nin0)))).keep Kq5104 (ninS ne5107 (ninS ne5106 (ninS ne5105 nin0))))
                have ne5119 : b5013 ≠ b6x14_69c4c13c16c2c5084 := Nat.ne_of_lt (Nat.lt_of_lt_of_le f5083.lt sq_b6x14_69c4c13c16c2c5084)
                have ne5120 : b2x4_14c5015 ≠ b6x14_69c4c13c16c2c5084 := Nat.ne_of_lt (Nat.lt_of_lt_of_le Fc5015_0_2.lt sq_b6x14_69c4c13c16c2c5084)
                have ne5121 : b2x5_18c4c5015 ≠ b6x14_69c4c13c16c2c5084 := Nat.ne_of_lt (Nat.lt_of_lt_of_le Fc5015_0_7.lt sq_b6x14_69c4c13c16c2c5084)
                have f5122 := (Fc5084_0_8.keep Kq5104 (ninS (Ne.symm ne5121) (ninS (Ne.symm ne5120) (ninS (Ne.symm ne5119) nin0))))
                have ne5123 : b5013 ≠ b3x14_69c4c13c16c2c5084 := Nat.ne_of_lt (Nat.lt_of_lt_of_le f5083.lt sq_b3x14_69c4c13c16c2c5084)
                have ne5124 : b2x4_14c5015 ≠ b3x14_69c4c13c16c2c5084 := Nat.ne_of_lt (Nat.lt_of_lt_of_le Fc5015_0_2.lt sq_b3x14_69c4c13c16c2c5084)
                have ne5125 : b2x5_18c4c5015 ≠ b3x14_69c4c13c16c2c5084 := Nat.ne_of_lt (Nat.lt_of_lt_of_le Fc5015_0_7.lt sq_b3x14_69c4c13c16c2c5084)
                have f5126 := (Fc5084_0_9.keep Kq5104 (ninS (Ne.symm ne5125) (ninS (Ne.symm ne5124) (ninS (Ne.symm ne5123) nin0))))
                have ne5127 : w_NONE ≠ b5013 := Nat.ne_of_lt (Nat.lt_of_lt_of_le P1.lt sz_b5013)
                have ne5128 : w_NONE ≠ b2x4_14c5015 := Nat.ne_of_lt (Nat.lt_of_lt_of_le P1.lt sz_b2x4_14c5015)
                have ne5129 : w_NONE ≠ b2x5_18c4c5015 := Nat.ne_of_lt (Nat.lt_of_lt_of_le P1.lt sz_b2x5_18c4c5015)
                have f5130 := (f5099.keep Kq5104 (ninS ne5129 (ninS ne5128 (ninS ne5127 nin0))))
                have ne5131 : w_NONE_names ≠ b5013 := Nat.ne_of_lt (Nat.lt_of_lt_of_le P7.lt sz_b5013)
                have ne5132 : w_NONE_names ≠ b2x4_14c5015 := Nat.ne_of_lt (Nat.lt_of_lt_of_le P7.lt sz_b2x4_14c5015)
                have ne5133 : w_NONE_names ≠ b2x5_18c4c5015 := Nat.ne_of_lt (Nat.lt_of_lt_of_le P7.lt sz_b2x5_18c4c5015)
                have f5134 := (f5100.keep Kq5104 (ninS ne5133 (ninS ne5132 (ninS ne5131 nin0))))
                have f5135 := (f5101.keep Kq5104)
                have f5136 := (Fc5084_0_7.keep Kq5104)
                have f5137 := (f5102.keep Kq5104)
                have f5138 := (f5103.keep Kq5104)
                obtain ⟨cq5139, kq5139, q5139a, q5139b, q5139c⟩ := isOf hZ rfl f5138
                obtain ⟨_, _, ⟨T5139, L5139, k5139, n5139⟩, -, X5139, ⟨Lc5139, hQ5139, l5139, y5139, z5139⟩, st5139⟩ := X5104.virtualBack hx (y := own_y2) (z := own_y2) hown (mvT hZ (own_w hw 63 rfl)) (mvT hZ (own_w hw 64 rfl)) (notFace_of_selects (args := #[]) (mvT hZ (own_w hw 66 rfl))) (mvT hZ (own_w hw 66 rfl)) (mvT hZ (own_w hw 65 rfl)) (by decide) (backOf (W := 0) (own_rm8_119 l Z a0 hw [] b5013 b5009 b2x4_14c5015 b2x5_18c4c5015 k2x5_18c4c5015c2c5044c2c5104 b5001 b5005 j14 j18 j12 j16 jp1 jp4 w_NONE b6x14_69c4c13c16c2c5084 b3x14_69c4c13c16c2c5084 k3x14_69c4c13c16c2c5084 w_NONE_names k_w_NONE_names T5104.heap n0 Z5104 Fc5104_0_5 Fc5104_0_1 Fc5104_0_2 Fc5104_0_0 OFc5104_0_0 f5108 f5109 f5110 f5111 f5112 f5113 f5114 f5115 f5116 f5117 f5118 Fc5104_0_3 f5122 f5126 OFc5084_0_9 f5130 f5134 f5135 f5136 Fc5104_0_4 f5137 g_b2x4_14c5015 g_b2x5_18c4c5015 Fc5104_0_6 f5138 g_b5013) hZ (own_w hw 67 rfl) (own_w hw 28 rfl) (by decide) (by decide)) q5139a q5139c (g := (mkF m 160 #[.val (.int ip0), .val (.long jp1), .second, .val (.long jp2), .second, .val (.long jp3), .second, .val (.long jp4), .second, .val (.long jp5), .second, .val (.int (3 : Int32)), .val (.long j12), .second, .val (.long j14), .second, .val (.long j16), .second, .val (.long j18), .second, .val (.ref b5001), .val (.ref b5005), .val (.ref b5009), .val (.ref b5013), .unset, .unset, .unset, .unset, .unset] [(.ref b5009), (.ref b5013)])) rfl (by rw [hml]; rfl) (Steps.refl _) (argsL := [(.ref b5009)]) (rest := []) (lenOf own_pd12 rfl) rfl (by show 2 * 0 + _ ≤ _; exact Nat.le_of_eq rfl) (hb hby at_160) (fun _ _ => ⟨rfl, rfl, (by decide : 8 + 0 ≤ _), (by decide : 84 + 0 ≤ _)⟩)
                dsimp only [Pt.U, Pt.locs, Pt.cells, Pt.slots] at X5139 l5139 y5139 z5139 st5139 hQ5139
                subst l5139 y5139 z5139
                obtain ⟨N5139q, Kq5139, hL5139⟩ := hQ5139
                have N5139 := Fr.app N5104 N5139q
                have K5139 : Keep h0 T5139.heap [] := K5104.trans Kq5139 (allS (Or.inr sz_b2x5_18c4c5015) (allS (Or.inr sz_b2x4_14c5015) (allS (Or.inr sz_b5013) all0)))
                have Z5139 := Nat.le_trans Z5104 Kq5139.1
                rcases hL5139 with ⟨k2x5_18c4c5015c2c5044c2c5104c2c5139, rfl, hq5139_0_0, Fc5139_0_0, OFc5139_0_0, Fc5139_0_1, Fc5139_0_2, Fc5139_0_3, Fc5139_0_4, Fc5139_0_5, Fc5139_0_6, -⟩ | ⟨k2x5_18c4c5015c2c5044c2c5104c2c5139, rfl, hq5139_1_0, hq5139_1_1, Fc5139_1_0, OFc5139_1_0, Fc5139_1_1, Fc5139_1_2, Fc5139_1_3, Fc5139_1_4, Fc5139_1_5, Fc5139_1_6, -⟩ | ⟨k2x5_18c4c5015c2c5044c2c5104c2c5139, rfl, hq5139_2_0, hq5139_2_1, Fc5139_2_0, OFc5139_2_0, Fc5139_2_1, Fc5139_2_2, Fc5139_2_3, Fc5139_2_4, Fc5139_2_5, Fc5139_2_6, -⟩
                · skip
                  refine own_st (fun t k => st5139.trans k) ?_
                  show own_Go _ _ _ _ T5139 (mkF m 163 #[.val (.int ip0), .val (.long jp1), .second, .val (.long jp2), .second, .val (.long jp3), .second, .val (.long jp4), .second, .val (.long jp5), .second, .val (.int (3 : Int32)), .val (.long j12), .second, .val (.long j14), .second, .val (.long j16), .second, .val (.long j18), .second, .val (.ref b5001), .val (.ref b5005), .val (.ref b5009), .val (.ref b5013), .unset, .unset, .unset, .unset, .unset] [])
                  refine own_st (fun t k => XS.aconstNull X5139.here hx rfl (hb hby at_163) k) ?_
                  refine own_st (fun t k => XS.astore X5139.here hx rfl (hb hby at_164) rfl rfl (l' := #[.val (.int ip0), .val (.long jp1), .second, .val (.long jp2), .second, .val (.long jp3), .second, .val (.long jp4), .second, .val (.long jp5), .second, .val (.int (3 : Int32)), .val (.long j12), .second, .val (.long j14), .second, .val (.long j16), .second, .val (.long j18), .second, .val (.ref b5001), .val (.ref b5005), .val (.ref b5009), .val (.ref b5013), .val .null, .unset, .unset, .unset, .unset]) rfl k) ?_
                  refine own_st (fun t k => XS.lconst X5139.here hx rfl (hb hby at_166) k) ?_
                  refine own_st (fun t k => XS.lstore X5139.here hx rfl (hb hby at_167) rfl (l' := #[.val (.int ip0), .val (.long jp1), .second, .val (.long jp2), .second, .val (.long jp3), .second, .val (.long jp4), .second, .val (.long jp5), .second, .val (.int (3 : Int32)), .val (.long j12), .second, .val (.long j14), .second, .val (.long j16), .second, .val (.long j18), .second, .val (.ref b5001), .val (.ref b5005), .val (.ref b5009), .val (.ref b5013), .val .null, .val (.long (0 : Int64)), .second, .unset, .unset]) rfl k) ?_
                  show own_Go _ _ _ _ T5139 (mkF m 169 #[.val (.int ip0), .val (.long jp1), .second, .val (.long jp2), .second, .val (.long jp3), .second, .val (.long jp4), .second, .val (.long jp5), .second, .val (.int (3 : Int32)), .val (.long j12), .second, .val (.long j14), .second, .val (.long j16), .second, .val (.long j18), .second, .val (.ref b5001), .val (.ref b5005), .val (.ref b5009), .val (.ref b5013), .val .null, .val (.long (0 : Int64)), .second, .unset, .unset] [])
                  refine own_st (fun t k => XS.lconst X5139.here hx rfl (hb hby at_169) k) ?_
                  refine own_st (fun t k => XS.lstore X5139.here hx rfl (hb hby at_170) rfl (l' := #[.val (.int ip0), .val (.long jp1), .second, .val (.long jp2), .second, .val (.long jp3), .second, .val (.long jp4), .second, .val (.long jp5), .second, .val (.int (3 : Int32)), .val (.long j12), .second, .val (.long j14), .second, .val (.long j16), .second, .val (.long j18), .second, .val (.ref b5001), .val (.ref b5005), .val (.ref b5009), .val (.ref b5013), .val .null, .val (.long (0 : Int64)), .second, .val (.long (0 : Int64)), .second]) rfl k) ?_
                  refine own_st (fun t k => XS.iload X5139.here hx rfl (hb hby at_172) rfl k) ?_
                  refine own_st (fun t k => XS.iconst X5139.here hx rfl (hb hby at_174) k) ?_
                  show own_Go _ _ _ _ T5139 (mkF m 175 #[.val (.int ip0), .val (.long jp1), .second, .val (.long jp2), .second, .val (.long jp3), .second, .val (.long jp4), .second, .val (.long jp5), .second, .val (.int (3 : Int32)), .val (.long j12), .second, .val (.long j14), .second, .val (.long j16), .second, .val (.long j18), .second, .val (.ref b5001), .val (.ref b5005), .val (.ref b5009), .val (.ref b5013), .val .null, .val (.long (0 : Int64)), .second, .val (.long (0 : Int64)), .second] [(.int (1 : Int32)), (.int (3 : Int32))])
                  refine own_st (fun t k => XS.icmpNo X5139.here hx rfl (hb hby at_175) rfl (flt (by decide : ¬ ((3 : Int32) < (1 : Int32)))).1 k) ?_
                  refine own_st (fun t k => XS.aload X5139.here hx rfl (hb hby at_178) rfl rfl k) ?_
                  refine own_st (fun t k => XS.astore X5139.here hx rfl (hb hby at_180) rfl rfl (l' := #[.val (.int ip0), .val (.long jp1), .second, .val (.long jp2), .second, .val (.long jp3), .second, .val (.long jp4), .second, .val (.long jp5), .second, .val (.int (3 : Int32)), .val (.long j12), .second, .val (.long j14), .second, .val (.long j16), .second, .val (.long j18), .second, .val (.ref b5001), .val (.ref b5005), .val (.ref b5009), .val (.ref b5013), .val (.ref b5001), .val (.long (0 : Int64)), .second, .val (.long (0 : Int64)), .second]) rfl k) ?_
                  refine own_st (fun t k => XS.lloadN X5139.here hx rfl (hb hby at_182) rfl k) ?_
                  show own_Go _ _ _ _ T5139 (mkF m 183 #[.val (.int ip0), .val (.long jp1), .second, .val (.long jp2), .second, .val (.long jp3), .second, .val (.long jp4), .second, .val (.long jp5), .second, .val (.int (3 : Int32)), .val (.long j12), .second, .val (.long j14), .second, .val (.long j16), .second, .val (.long j18), .second, .val (.ref b5001), .val (.ref b5005), .val (.ref b5009), .val (.ref b5013), .val (.ref b5001), .val (.long (0 : Int64)), .second, .val (.long (0 : Int64)), .second] [(.long jp1)])
                  refine own_st (fun t k => XS.lstore X5139.here hx rfl (hb hby at_183) rfl (l' := #[.val (.int ip0), .val (.long jp1), .second, .val (.long jp2), .second, .val (.long jp3), .second, .val (.long jp4), .second, .val (.long jp5), .second, .val (.int (3 : Int32)), .val (.long j12), .second, .val (.long j14), .second, .val (.long j16), .second, .val (.long j18), .second, .val (.ref b5001), .val (.ref b5005), .val (.ref b5009), .val (.ref b5013), .val (.ref b5001), .val (.long jp1), .second, .val (.long (0 : Int64)), .second]) rfl k) ?_
                  refine own_st (fun t k => XS.lload X5139.here hx rfl (hb hby at_185) rfl k) ?_
                  refine own_st (fun t k => XS.lstore X5139.here hx rfl (hb hby at_187) rfl (l' := #[.val (.int ip0), .val (.long jp1), .second, .val (.long jp2), .second, .val (.long jp3), .second, .val (.long jp4), .second, .val (.long jp5), .second, .val (.int (3 : Int32)), .val (.long j12), .second, .val (.long j14), .second, .val (.long j16), .second, .val (.long j18), .second, .val (.ref b5001), .val (.ref b5005), .val (.ref b5009), .val (.ref b5013), .val (.ref b5001), .val (.long jp1), .second, .val (.long jp4), .second]) rfl k) ?_
                  refine own_st (fun t k => XS.iload X5139.here hx rfl (hb hby at_189) rfl k) ?_
                  show own_Go _ _ _ _ T5139 (mkF m 191 #[.val (.int ip0), .val (.long jp1), .second, .val (.long jp2), .second, .val (.long jp3), .second, .val (.long jp4), .second, .val (.long jp5), .second, .val (.int (3 : Int32)), .val (.long j12), .second, .val (.long j14), .second, .val (.long j16), .second, .val (.long j18), .second, .val (.ref b5001), .val (.ref b5005), .val (.ref b5009), .val (.ref b5013), .val (.ref b5001), .val (.long jp1), .second, .val (.long jp4), .second] [(.int (3 : Int32))])
                  refine own_st (fun t k => XS.iconst X5139.here hx rfl (hb hby at_191) k) ?_
                  show own_Go _ _ _ _ T5139 (mkF m 192 #[.val (.int ip0), .val (.long jp1), .second, .val (.long jp2), .second, .val (.long jp3), .second, .val (.long jp4), .second, .val (.long jp5), .second, .val (.int (3 : Int32)), .val (.long j12), .second, .val (.long j14), .second, .val (.long j16), .second, .val (.long j18), .second, .val (.ref b5001), .val (.ref b5005), .val (.ref b5009), .val (.ref b5013), .val (.ref b5001), .val (.long jp1), .second, .val (.long jp4), .second] [(.int (2 : Int32)), (.int (3 : Int32))])
                  refine own_st (fun t k => XS.icmpNo X5139.here hx rfl (hb hby at_192) rfl (flt (by decide : ¬ ((3 : Int32) < (2 : Int32)))).1 k) ?_
                  refine own_st (fun t k => XS.lload X5139.here hx rfl (hb hby at_195) rfl k) ?_
                  refine own_st (fun t k => XS.lload X5139.here hx rfl (hb hby at_197) rfl k) ?_
                  show own_Go _ _ _ _ T5139 (mkF m 199 #[.val (.int ip0), .val (.long jp1), .second, .val (.long jp2), .second, .val (.long jp3), .second, .val (.long jp4), .second, .val (.long jp5), .second, .val (.int (3 : Int32)), .val (.long j12), .second, .val (.long j14), .second, .val (.long j16), .second, .val (.long j18), .second, .val (.ref b5001), .val (.ref b5005), .val (.ref b5009), .val (.ref b5013), .val (.ref b5001), .val (.long jp1), .second, .val (.long jp4), .second] [(.long j16), (.long j12)])
                  refine own_st (fun t k => XS.lload X5139.here hx rfl (hb hby at_199) rfl k) ?_
                  refine own_st (fun t k => XS.lload X5139.here hx rfl (hb hby at_201) rfl k) ?_
                  show own_Go _ _ _ _ T5139 (mkF m 203 #[.val (.int ip0), .val (.long jp1), .second, .val (.long jp2), .second, .val (.long jp3), .second, .val (.long jp4), .second, .val (.long jp5), .second, .val (.int (3 : Int32)), .val (.long j12), .second, .val (.long j14), .second, .val (.long j16), .second, .val (.long j18), .second, .val (.ref b5001), .val (.ref b5005), .val (.ref b5009), .val (.ref b5013), .val (.ref b5001), .val (.long jp1), .second, .val (.long jp4), .second] [(.long jp4), (.long jp1), (.long j16), (.long j12)])
                  obtain ⟨_, _, ⟨T5140, L5140, k5140, n5140⟩, -, X5140, ⟨Lc5140, hQ5140, l5140, y5140, z5140⟩, st5140⟩ := Jvm.LawKit.callS X5139 hx (y := own_y3) hown (mvT hZ (own_w hw 145 rfl)) (mvT hZ (own_w hw 146 rfl)) (mvT hZ (own_w hw 147 rfl)) (mvT hZ (own_w hw 148 rfl)) (by decide) (backOf (W := 0) (own_rm21 l Z a0 hw [] j12 j16 jp1 jp4 T5139.heap n0 Z5139 ) hZ (own_w hw 148 rfl) (own_w hw 147 rfl) (by decide) (by decide)) (g := (mkF m 203 #[.val (.int ip0), .val (.long jp1), .second, .val (.long jp2), .second, .val (.long jp3), .second, .val (.long jp4), .second, .val (.long jp5), .second, .val (.int (3 : Int32)), .val (.long j12), .second, .val (.long j14), .second, .val (.long j16), .second, .val (.long j18), .second, .val (.ref b5001), .val (.ref b5005), .val (.ref b5009), .val (.ref b5013), .val (.ref b5001), .val (.long jp1), .second, .val (.long jp4), .second] [(.long jp4), (.long jp1), (.long j16), (.long j12)])) rfl (by rw [hml]; rfl) (argsL := [(.long j12), (.long j16), (.long jp1), (.long jp4)]) (rest := []) (lenOf own_pd16 rfl) rfl (by show 2 * 0 + _ ≤ _; exact Nat.le_of_eq rfl) (hb hby at_203) (fun _ _ => ⟨rfl, rfl, (by decide : 8 + 0 ≤ _), (by decide : 84 + 0 ≤ _)⟩)
                  dsimp only [Pt.U, Pt.locs, Pt.cells, Pt.slots] at X5140 l5140 y5140 z5140 st5140 hQ5140
                  subst l5140 y5140 z5140
                  obtain ⟨N5140q, e5140, hL5140⟩ := hQ5140
                  have N5140 := Fr.app N5139 N5140q
                  rcases hL5140 with ⟨rfl, hq5140_0_0, -⟩ | ⟨rfl, hq5140_1_0, -⟩
                  · skip
                    refine own_st st5140 ?_
                    show own_Go _ _ _ _ T5140 (mkF m 206 #[.val (.int ip0), .val (.long jp1), .second, .val (.long jp2), .second, .val (.long jp3), .second, .val (.long jp4), .second, .val (.long jp5), .second, .val (.int (3 : Int32)), .val (.long j12), .second, .val (.long j14), .second, .val (.long j16), .second, .val (.long j18), .second, .val (.ref b5001), .val (.ref b5005), .val (.ref b5009), .val (.ref b5013), .val (.ref b5001), .val (.long jp1), .second, .val (.long jp4), .second] [(.int (1 : Int32))])
                    refine own_st (fun t k => XS.ifNo X5140.here hx rfl (hb hby at_206) rfl ((if0 _ _).trans (feq (by decide : ¬ ((1 : Int32) = (0 : Int32)))).1) k) ?_
                    show own_Go _ _ _ _ T5140 (mkF m 209 #[.val (.int ip0), .val (.long jp1), .second, .val (.long jp2), .second, .val (.long jp3), .second, .val (.long jp4), .second, .val (.long jp5), .second, .val (.int (3 : Int32)), .val (.long j12), .second, .val (.long j14), .second, .val (.long j16), .second, .val (.long j18), .second, .val (.ref b5001), .val (.ref b5005), .val (.ref b5009), .val (.ref b5013), .val (.ref b5001), .val (.long jp1), .second, .val (.long jp4), .second] [])
                    refine own_st (fun t k => XS.aload X5140.here hx rfl (hb hby at_209) rfl rfl k) ?_
                    refine own_st (fun t k => XS.astore X5140.here hx rfl (hb hby at_211) rfl rfl (l' := #[.val (.int ip0), .val (.long jp1), .second, .val (.long jp2), .second, .val (.long jp3), .second, .val (.long jp4), .second, .val (.long jp5), .second, .val (.int (3 : Int32)), .val (.long j12), .second, .val (.long j14), .second, .val (.long j16), .second, .val (.long j18), .second, .val (.ref b5001), .val (.ref b5005), .val (.ref b5009), .val (.ref b5013), .val (.ref b5005), .val (.long jp1), .second, .val (.long jp4), .second]) rfl k) ?_
                    refine own_st (fun t k => XS.lload X5140.here hx rfl (hb hby at_213) rfl k) ?_
                    refine own_st (fun t k => XS.lstore X5140.here hx rfl (hb hby at_215) rfl (l' := #[.val (.int ip0), .val (.long jp1), .second, .val (.long jp2), .second, .val (.long jp3), .second, .val (.long jp4), .second, .val (.long jp5), .second, .val (.int (3 : Int32)), .val (.long j12), .second, .val (.long j14), .second, .val (.long j16), .second, .val (.long j18), .second, .val (.ref b5001), .val (.ref b5005), .val (.ref b5009), .val (.ref b5013), .val (.ref b5005), .val (.long j12), .second, .val (.long jp4), .second]) rfl k) ?_
                    show own_Go _ _ _ _ T5140 (mkF m 217 #[.val (.int ip0), .val (.long jp1), .second, .val (.long jp2), .second, .val (.long jp3), .second, .val (.long jp4), .second, .val (.long jp5), .second, .val (.int (3 : Int32)), .val (.long j12), .second, .val (.long j14), .second, .val (.long j16), .second, .val (.long j18), .second, .val (.ref b5001), .val (.ref b5005), .val (.ref b5009), .val (.ref b5013), .val (.ref b5005), .val (.long j12), .second, .val (.long jp4), .second] [])
                    refine own_st (fun t k => XS.lload X5140.here hx rfl (hb hby at_217) rfl k) ?_
                    refine own_st (fun t k => XS.lstore X5140.here hx rfl (hb hby at_219) rfl (l' := #[.val (.int ip0), .val (.long jp1), .second, .val (.long jp2), .second, .val (.long jp3), .second, .val (.long jp4), .second, .val (.long jp5), .second, .val (.int (3 : Int32)), .val (.long j12), .second, .val (.long j14), .second, .val (.long j16), .second, .val (.long j18), .second, .val (.ref b5001), .val (.ref b5005), .val (.ref b5009), .val (.ref b5013), .val (.ref b5005), .val (.long j12), .second, .val (.long j16), .second]) rfl k) ?_
                    refine own_st (fun t k => XS.iload X5140.here hx rfl (hb hby at_221) rfl k) ?_
                    refine own_st (fun t k => XS.iconst X5140.here hx rfl (hb hby at_223) k) ?_
                    show own_Go _ _ _ _ T5140 (mkF m 224 #[.val (.int ip0), .val (.long jp1), .second, .val (.long jp2), .second, .val (.long jp3), .second, .val (.long jp4), .second, .val (.long jp5), .second, .val (.int (3 : Int32)), .val (.long j12), .second, .val (.long j14), .second, .val (.long j16), .second, .val (.long j18), .second, .val (.ref b5001), .val (.ref b5005), .val (.ref b5009), .val (.ref b5013), .val (.ref b5005), .val (.long j12), .second, .val (.long j16), .second] [(.int (3 : Int32)), (.int (3 : Int32))])
                    refine own_st (fun t k => XS.icmpNo X5140.here hx rfl (hb hby at_224) rfl (flt (by decide : ¬ ((3 : Int32) < (3 : Int32)))).1 k) ?_
                    refine own_st (fun t k => XS.lload X5140.here hx rfl (hb hby at_227) rfl k) ?_
                    refine own_st (fun t k => XS.lload X5140.here hx rfl (hb hby at_229) rfl k) ?_
                    refine own_st (fun t k => XS.lload X5140.here hx rfl (hb hby at_231) rfl k) ?_
                    show own_Go _ _ _ _ T5140 (mkF m 233 #[.val (.int ip0), .val (.long jp1), .second, .val (.long jp2), .second, .val (.long jp3), .second, .val (.long jp4), .second, .val (.long jp5), .second, .val (.int (3 : Int32)), .val (.long j12), .second, .val (.long j14), .second, .val (.long j16), .second, .val (.long j18), .second, .val (.ref b5001), .val (.ref b5005), .val (.ref b5009), .val (.ref b5013), .val (.ref b5005), .val (.long j12), .second, .val (.long j16), .second] [(.long j12), (.long j18), (.long j14)])
                    refine own_st (fun t k => XS.lload X5140.here hx rfl (hb hby at_233) rfl k) ?_
                    show own_Go _ _ _ _ T5140 (mkF m 235 #[.val (.int ip0), .val (.long jp1), .second, .val (.long jp2), .second, .val (.long jp3), .second, .val (.long jp4), .second, .val (.long jp5), .second, .val (.int (3 : Int32)), .val (.long j12), .second, .val (.long j14), .second, .val (.long j16), .second, .val (.long j18), .second, .val (.ref b5001), .val (.ref b5005), .val (.ref b5009), .val (.ref b5013), .val (.ref b5005), .val (.long j12), .second, .val (.long j16), .second] [(.long j16), (.long j12), (.long j18), (.long j14)])
                    obtain ⟨_, _, ⟨T5141, L5141, k5141, n5141⟩, -, X5141, ⟨Lc5141, hQ5141, l5141, y5141, z5141⟩, st5141⟩ := Jvm.LawKit.callS X5140 hx (y := own_y3) hown (mvT hZ (own_w hw 145 rfl)) (mvT hZ (own_w hw 146 rfl)) (mvT hZ (own_w hw 147 rfl)) (mvT hZ (own_w hw 148 rfl)) (by decide) (backOf (W := 0) (own_rm21 l Z a0 hw [] j14 j18 j12 j16 T5139.heap n0 Z5139 ) hZ (own_w hw 148 rfl) (own_w hw 147 rfl) (by decide) (by decide)) (g := (mkF m 235 #[.val (.int ip0), .val (.long jp1), .second, .val (.long jp2), .second, .val (.long jp3), .second, .val (.long jp4), .second, .val (.long jp5), .second, .val (.int (3 : Int32)), .val (.long j12), .second, .val (.long j14), .second, .val (.long j16), .second, .val (.long j18), .second, .val (.ref b5001), .val (.ref b5005), .val (.ref b5009), .val (.ref b5013), .val (.ref b5005), .val (.long j12), .second, .val (.long j16), .second] [(.long j16), (.long j12), (.long j18), (.long j14)])) rfl (by rw [hml]; rfl) (argsL := [(.long j14), (.long j18), (.long j12), (.long j16)]) (rest := []) (lenOf own_pd16 rfl) rfl (by show 2 * 0 + _ ≤ _; exact Nat.le_of_eq rfl) (hb hby at_235) (fun _ _ => ⟨rfl, e5140, (by decide : 8 + 0 ≤ _), (by decide : 84 + 0 ≤ _)⟩)
                    dsimp only [Pt.U, Pt.locs, Pt.cells, Pt.slots] at X5141 l5141 y5141 z5141 st5141 hQ5141
                    subst l5141 y5141 z5141
                    obtain ⟨N5141q, e5141, hL5141⟩ := hQ5141
                    have N5141 := Fr.app N5140 N5141q
                    rcases hL5141 with ⟨rfl, hq5141_0_0, -⟩ | ⟨rfl, hq5141_1_0, -⟩
                    · skip
                      refine own_st st5141 ?_
                      show own_Go _ _ _ _ T5141 (mkF m 238 #[.val (.int ip0), .val (.long jp1), .second, .val (.long jp2), .second, .val (.long jp3), .second, .val (.long jp4), .second, .val (.long jp5), .second, .val (.int (3 : Int32)), .val (.long j12), .second, .val (.long j14), .second, .val (.long j16), .second, .val (.long j18), .second, .val (.ref b5001), .val (.ref b5005), .val (.ref b5009), .val (.ref b5013), .val (.ref b5005), .val (.long j12), .second, .val (.long j16), .second] [(.int (1 : Int32))])
                      refine own_st (fun t k => XS.ifNo X5141.here hx rfl (hb hby at_238) rfl ((if0 _ _).trans (feq (by decide : ¬ ((1 : Int32) = (0 : Int32)))).1) k) ?_
                      refine own_st (fun t k => XS.aload X5141.here hx rfl (hb hby at_241) rfl rfl k) ?_
                      show own_Go _ _ _ _ T5141 (mkF m 243 #[.val (.int ip0), .val (.long jp1), .second, .val (.long jp2), .second, .val (.long jp3), .second, .val (.long jp4), .second, .val (.long jp5), .second, .val (.int (3 : Int32)), .val (.long j12), .second, .val (.long j14), .second, .val (.long j16), .second, .val (.long j18), .second, .val (.ref b5001), .val (.ref b5005), .val (.ref b5009), .val (.ref b5013), .val (.ref b5005), .val (.long j12), .second, .val (.long j16), .second] [(.ref b5009)])
                      refine own_st (fun t k => XS.astore X5141.here hx rfl (hb hby at_243) rfl rfl (l' := #[.val (.int ip0), .val (.long jp1), .second, .val (.long jp2), .second, .val (.long jp3), .second, .val (.long jp4), .second, .val (.long jp5), .second, .val (.int (3 : Int32)), .val (.long j12), .second, .val (.long j14), .second, .val (.long j16), .second, .val (.long j18), .second, .val (.ref b5001), .val (.ref b5005), .val (.ref b5009), .val (.ref b5013), .val (.ref b5009), .val (.long j12), .second, .val (.long j16), .second]) rfl k) ?_
                      refine own_st (fun t k => XS.aload X5141.here hx rfl (hb hby at_245) rfl rfl k) ?_
                      show own_Go _ _ _ _ T5141 (mkF m 247 #[.val (.int ip0), .val (.long jp1), .second, .val (.long jp2), .second, .val (.long jp3), .second, .val (.long jp4), .second, .val (.long jp5), .second, .val (.int (3 : Int32)), .val (.long j12), .second, .val (.long j14), .second, .val (.long j16), .second, .val (.long j18), .second, .val (.ref b5001), .val (.ref b5005), .val (.ref b5009), .val (.ref b5013), .val (.ref b5009), .val (.long j12), .second, .val (.long j16), .second] [(.ref b5013)])
                      have f5142 := (f5117.keep Kq5139)
                      have f5144 := (f5138.keep Kq5139)
                      obtain ⟨cq5143, kq5143, q5143a, q5143b, q5143c⟩ := isOf hZ e5141 f5144
                      obtain ⟨_, _, ⟨T5143, L5143, k5143, n5143⟩, -, X5143, ⟨Lc5143, hQ5143, l5143, y5143, z5143⟩, st5143⟩ := X5141.virtualBack hx (y := own_y1) (z := own_y1) hown (mvT hZ (own_w hw 56 rfl)) (mvT hZ (own_w hw 57 rfl)) (notFace_of_selects (args := #[]) (mvT hZ (own_w hw 59 rfl))) (mvT hZ (own_w hw 59 rfl)) (mvT hZ (own_w hw 58 rfl)) (by decide) (backOf (W := 0) (own_rm7_128 l Z a0 hw [] b5013 b2x4_14c5015 b2x5_18c4c5015 k2x5_18c4c5015c2c5044c2c5104c2c5139 b5001 b5005 b5009 T5139.heap n0 Z5139 Fc5139_0_6 Fc5139_0_5 Fc5139_0_2 Fc5139_0_1 Fc5139_0_0 OFc5139_0_0 f5142) hZ (own_w hw 60 rfl) (own_w hw 28 rfl) (by decide) (by decide)) q5143a q5143c (g := (mkF m 247 #[.val (.int ip0), .val (.long jp1), .second, .val (.long jp2), .second, .val (.long jp3), .second, .val (.long jp4), .second, .val (.long jp5), .second, .val (.int (3 : Int32)), .val (.long j12), .second, .val (.long j14), .second, .val (.long j16), .second, .val (.long j18), .second, .val (.ref b5001), .val (.ref b5005), .val (.ref b5009), .val (.ref b5013), .val (.ref b5009), .val (.long j12), .second, .val (.long j16), .second] [(.ref b5013)])) rfl (by rw [hml]; rfl) (Steps.refl _) (argsL := []) (rest := []) (lenOf own_pd3 rfl) rfl (by show 2 * 0 + _ ≤ _; exact Nat.le_of_eq rfl) (hb hby at_247) (fun _ _ => ⟨rfl, e5141, (by decide : 8 + 0 ≤ _), (by decide : 84 + 0 ≤ _)⟩)
                      dsimp only [Pt.U, Pt.locs, Pt.cells, Pt.slots] at X5143 l5143 y5143 z5143 st5143 hQ5143
                      subst l5143 y5143 z5143
                      obtain ⟨N5143q, Kq5143, hL5143⟩ := hQ5143
                      have N5143 := Fr.app N5141 N5143q
                      have K5143 : Keep h0 T5143.heap [] := K5139.trans Kq5143 all0
                      have Z5143 := Nat.le_trans Z5139 Kq5143.1
                      rcases hL5143 with ⟨rfl, -⟩
                      · skip
                        refine own_st (fun t k => st5143.trans k) ?_
                        refine own_st (fun t k => XS.aload X5143.here hx rfl (hb hby at_250) rfl rfl k) ?_
                        show own_Go _ _ _ _ T5143 (mkF m 252 #[.val (.int ip0), .val (.long jp1), .second, .val (.long jp2), .second, .val (.long jp3), .second, .val (.long jp4), .second, .val (.long jp5), .second, .val (.int (3 : Int32)), .val (.long j12), .second, .val (.long j14), .second, .val (.long j16), .second, .val (.long j18), .second, .val (.ref b5001), .val (.ref b5005), .val (.ref b5009), .val (.ref b5013), .val (.ref b5009), .val (.long j12), .second, .val (.long j16), .second] [(.ref b5009), (.ref b5009)])
                        refine own_st (fun t k => Jvm.RoadKit.acmp (g := (mkF m 252 #[.val (.int ip0), .val (.long jp1), .second, .val (.long jp2), .second, .val (.long jp3), .second, .val (.long jp4), .second, .val (.long jp5), .second, .val (.int (3 : Int32)), .val (.long j12), .second, .val (.long j14), .second, .val (.long j16), .second, .val (.long j18), .second, .val (.ref b5001), .val (.ref b5005), .val (.ref b5009), .val (.ref b5013), .val (.ref b5009), .val (.long j12), .second, .val (.long j16), .second] [(.ref b5009), (.ref b5009)])) X5143 hx rfl rfl rfl (pc0 := 252) (pc' := 255) (same := true) rfl (hb hby at_252) rfl (decide_eq_true (congrArg Value.ref (rfl : b5009 = b5009))) (by decide) (by decide) k) ?_
                        refine own_st (fun t k => XS.iconst X5143.here hx rfl (hb hby at_255) k) ?_
                        refine own_st (fun t k => XS.goto X5143.here hx rfl (pc0 := 256) (pc' := 260) rfl (hb hby at_256) (by decide) (by decide) k) ?_
                        show own_Go _ _ _ _ T5143 (mkF m 260 #[.val (.int ip0), .val (.long jp1), .second, .val (.long jp2), .second, .val (.long jp3), .second, .val (.long jp4), .second, .val (.long jp5), .second, .val (.int (3 : Int32)), .val (.long j12), .second, .val (.long j14), .second, .val (.long j16), .second, .val (.long j18), .second, .val (.ref b5001), .val (.ref b5005), .val (.ref b5009), .val (.ref b5013), .val (.ref b5009), .val (.long j12), .second, .val (.long j16), .second] [(.int (1 : Int32))])
                        exact own_retZ X5143 hx hlk (t := .boolean) hret (by simp) (hb hby at_260) (by decide) (by decide) rfl ⟨rfl, N5143⟩
                    · skip
                      exact absurd hq5139_0_0 hq5141_1_0
                  · skip
                    exact absurd hq5104_0_0 hq5140_1_0
                · skip
                  refine own_st (fun t k => st5139.trans k) ?_
                  show own_Go _ _ _ _ T5139 (mkF m 163 #[.val (.int ip0), .val (.long jp1), .second, .val (.long jp2), .second, .val (.long jp3), .second, .val (.long jp4), .second, .val (.long jp5), .second, .val (.int (3 : Int32)), .val (.long j12), .second, .val (.long j14), .second, .val (.long j16), .second, .val (.long j18), .second, .val (.ref b5001), .val (.ref b5005), .val (.ref b5009), .val (.ref b5013), .unset, .unset, .unset, .unset, .unset] [])
                  refine own_st (fun t k => XS.aconstNull X5139.here hx rfl (hb hby at_163) k) ?_
                  refine own_st (fun t k => XS.astore X5139.here hx rfl (hb hby at_164) rfl rfl (l' := #[.val (.int ip0), .val (.long jp1), .second, .val (.long jp2), .second, .val (.long jp3), .second, .val (.long jp4), .second, .val (.long jp5), .second, .val (.int (3 : Int32)), .val (.long j12), .second, .val (.long j14), .second, .val (.long j16), .second, .val (.long j18), .second, .val (.ref b5001), .val (.ref b5005), .val (.ref b5009), .val (.ref b5013), .val .null, .unset, .unset, .unset, .unset]) rfl k) ?_
                  refine own_st (fun t k => XS.lconst X5139.here hx rfl (hb hby at_166) k) ?_
                  refine own_st (fun t k => XS.lstore X5139.here hx rfl (hb hby at_167) rfl (l' := #[.val (.int ip0), .val (.long jp1), .second, .val (.long jp2), .second, .val (.long jp3), .second, .val (.long jp4), .second, .val (.long jp5), .second, .val (.int (3 : Int32)), .val (.long j12), .second, .val (.long j14), .second, .val (.long j16), .second, .val (.long j18), .second, .val (.ref b5001), .val (.ref b5005), .val (.ref b5009), .val (.ref b5013), .val .null, .val (.long (0 : Int64)), .second, .unset, .unset]) rfl k) ?_
                  show own_Go _ _ _ _ T5139 (mkF m 169 #[.val (.int ip0), .val (.long jp1), .second, .val (.long jp2), .second, .val (.long jp3), .second, .val (.long jp4), .second, .val (.long jp5), .second, .val (.int (3 : Int32)), .val (.long j12), .second, .val (.long j14), .second, .val (.long j16), .second, .val (.long j18), .second, .val (.ref b5001), .val (.ref b5005), .val (.ref b5009), .val (.ref b5013), .val .null, .val (.long (0 : Int64)), .second, .unset, .unset] [])
                  refine own_st (fun t k => XS.lconst X5139.here hx rfl (hb hby at_169) k) ?_
                  refine own_st (fun t k => XS.lstore X5139.here hx rfl (hb hby at_170) rfl (l' := #[.val (.int ip0), .val (.long jp1), .second, .val (.long jp2), .second, .val (.long jp3), .second, .val (.long jp4), .second, .val (.long jp5), .second, .val (.int (3 : Int32)), .val (.long j12), .second, .val (.long j14), .second, .val (.long j16), .second, .val (.long j18), .second, .val (.ref b5001), .val (.ref b5005), .val (.ref b5009), .val (.ref b5013), .val .null, .val (.long (0 : Int64)), .second, .val (.long (0 : Int64)), .second]) rfl k) ?_
                  refine own_st (fun t k => XS.iload X5139.here hx rfl (hb hby at_172) rfl k) ?_
                  refine own_st (fun t k => XS.iconst X5139.here hx rfl (hb hby at_174) k) ?_
                  show own_Go _ _ _ _ T5139 (mkF m 175 #[.val (.int ip0), .val (.long jp1), .second, .val (.long jp2), .second, .val (.long jp3), .second, .val (.long jp4), .second, .val (.long jp5), .second, .val (.int (3 : Int32)), .val (.long j12), .second, .val (.long j14), .second, .val (.long j16), .second, .val (.long j18), .second, .val (.ref b5001), .val (.ref b5005), .val (.ref b5009), .val (.ref b5013), .val .null, .val (.long (0 : Int64)), .second, .val (.long (0 : Int64)), .second] [(.int (1 : Int32)), (.int (3 : Int32))])
                  refine own_st (fun t k => XS.icmpNo X5139.here hx rfl (hb hby at_175) rfl (flt (by decide : ¬ ((3 : Int32) < (1 : Int32)))).1 k) ?_
                  refine own_st (fun t k => XS.aload X5139.here hx rfl (hb hby at_178) rfl rfl k) ?_
                  refine own_st (fun t k => XS.astore X5139.here hx rfl (hb hby at_180) rfl rfl (l' := #[.val (.int ip0), .val (.long jp1), .second, .val (.long jp2), .second, .val (.long jp3), .second, .val (.long jp4), .second, .val (.long jp5), .second, .val (.int (3 : Int32)), .val (.long j12), .second, .val (.long j14), .second, .val (.long j16), .second, .val (.long j18), .second, .val (.ref b5001), .val (.ref b5005), .val (.ref b5009), .val (.ref b5013), .val (.ref b5001), .val (.long (0 : Int64)), .second, .val (.long (0 : Int64)), .second]) rfl k) ?_
                  refine own_st (fun t k => XS.lloadN X5139.here hx rfl (hb hby at_182) rfl k) ?_
                  show own_Go _ _ _ _ T5139 (mkF m 183 #[.val (.int ip0), .val (.long jp1), .second, .val (.long jp2), .second, .val (.long jp3), .second, .val (.long jp4), .second, .val (.long jp5), .second, .val (.int (3 : Int32)), .val (.long j12), .second, .val (.long j14), .second, .val (.long j16), .second, .val (.long j18), .second, .val (.ref b5001), .val (.ref b5005), .val (.ref b5009), .val (.ref b5013), .val (.ref b5001), .val (.long (0 : Int64)), .second, .val (.long (0 : Int64)), .second] [(.long jp1)])
                  refine own_st (fun t k => XS.lstore X5139.here hx rfl (hb hby at_183) rfl (l' := #[.val (.int ip0), .val (.long jp1), .second, .val (.long jp2), .second, .val (.long jp3), .second, .val (.long jp4), .second, .val (.long jp5), .second, .val (.int (3 : Int32)), .val (.long j12), .second, .val (.long j14), .second, .val (.long j16), .second, .val (.long j18), .second, .val (.ref b5001), .val (.ref b5005), .val (.ref b5009), .val (.ref b5013), .val (.ref b5001), .val (.long jp1), .second, .val (.long (0 : Int64)), .second]) rfl k) ?_
                  refine own_st (fun t k => XS.lload X5139.here hx rfl (hb hby at_185) rfl k) ?_
                  refine own_st (fun t k => XS.lstore X5139.here hx rfl (hb hby at_187) rfl (l' := #[.val (.int ip0), .val (.long jp1), .second, .val (.long jp2), .second, .val (.long jp3), .second, .val (.long jp4), .second, .val (.long jp5), .second, .val (.int (3 : Int32)), .val (.long j12), .second, .val (.long j14), .second, .val (.long j16), .second, .val (.long j18), .second, .val (.ref b5001), .val (.ref b5005), .val (.ref b5009), .val (.ref b5013), .val (.ref b5001), .val (.long jp1), .second, .val (.long jp4), .second]) rfl k) ?_
                  refine own_st (fun t k => XS.iload X5139.here hx rfl (hb hby at_189) rfl k) ?_
                  show own_Go _ _ _ _ T5139 (mkF m 191 #[.val (.int ip0), .val (.long jp1), .second, .val (.long jp2), .second, .val (.long jp3), .second, .val (.long jp4), .second, .val (.long jp5), .second, .val (.int (3 : Int32)), .val (.long j12), .second, .val (.long j14), .second, .val (.long j16), .second, .val (.long j18), .second, .val (.ref b5001), .val (.ref b5005), .val (.ref b5009), .val (.ref b5013), .val (.ref b5001), .val (.long jp1), .second, .val (.long jp4), .second] [(.int (3 : Int32))])
                  refine own_st (fun t k => XS.iconst X5139.here hx rfl (hb hby at_191) k) ?_
                  show own_Go _ _ _ _ T5139 (mkF m 192 #[.val (.int ip0), .val (.long jp1), .second, .val (.long jp2), .second, .val (.long jp3), .second, .val (.long jp4), .second, .val (.long jp5), .second, .val (.int (3 : Int32)), .val (.long j12), .second, .val (.long j14), .second, .val (.long j16), .second, .val (.long j18), .second, .val (.ref b5001), .val (.ref b5005), .val (.ref b5009), .val (.ref b5013), .val (.ref b5001), .val (.long jp1), .second, .val (.long jp4), .second] [(.int (2 : Int32)), (.int (3 : Int32))])
                  refine own_st (fun t k => XS.icmpNo X5139.here hx rfl (hb hby at_192) rfl (flt (by decide : ¬ ((3 : Int32) < (2 : Int32)))).1 k) ?_
                  refine own_st (fun t k => XS.lload X5139.here hx rfl (hb hby at_195) rfl k) ?_
                  refine own_st (fun t k => XS.lload X5139.here hx rfl (hb hby at_197) rfl k) ?_
                  show own_Go _ _ _ _ T5139 (mkF m 199 #[.val (.int ip0), .val (.long jp1), .second, .val (.long jp2), .second, .val (.long jp3), .second, .val (.long jp4), .second, .val (.long jp5), .second, .val (.int (3 : Int32)), .val (.long j12), .second, .val (.long j14), .second, .val (.long j16), .second, .val (.long j18), .second, .val (.ref b5001), .val (.ref b5005), .val (.ref b5009), .val (.ref b5013), .val (.ref b5001), .val (.long jp1), .second, .val (.long jp4), .second] [(.long j16), (.long j12)])
                  refine own_st (fun t k => XS.lload X5139.here hx rfl (hb hby at_199) rfl k) ?_
                  refine own_st (fun t k => XS.lload X5139.here hx rfl (hb hby at_201) rfl k) ?_
                  show own_Go _ _ _ _ T5139 (mkF m 203 #[.val (.int ip0), .val (.long jp1), .second, .val (.long jp2), .second, .val (.long jp3), .second, .val (.long jp4), .second, .val (.long jp5), .second, .val (.int (3 : Int32)), .val (.long j12), .second, .val (.long j14), .second, .val (.long j16), .second, .val (.long j18), .second, .val (.ref b5001), .val (.ref b5005), .val (.ref b5009), .val (.ref b5013), .val (.ref b5001), .val (.long jp1), .second, .val (.long jp4), .second] [(.long jp4), (.long jp1), (.long j16), (.long j12)])
                  obtain ⟨_, _, ⟨T5145, L5145, k5145, n5145⟩, -, X5145, ⟨Lc5145, hQ5145, l5145, y5145, z5145⟩, st5145⟩ := Jvm.LawKit.callS X5139 hx (y := own_y3) hown (mvT hZ (own_w hw 145 rfl)) (mvT hZ (own_w hw 146 rfl)) (mvT hZ (own_w hw 147 rfl)) (mvT hZ (own_w hw 148 rfl)) (by decide) (backOf (W := 0) (own_rm21 l Z a0 hw [] j12 j16 jp1 jp4 T5139.heap n0 Z5139 ) hZ (own_w hw 148 rfl) (own_w hw 147 rfl) (by decide) (by decide)) (g := (mkF m 203 #[.val (.int ip0), .val (.long jp1), .second, .val (.long jp2), .second, .val (.long jp3), .second, .val (.long jp4), .second, .val (.long jp5), .second, .val (.int (3 : Int32)), .val (.long j12), .second, .val (.long j14), .second, .val (.long j16), .second, .val (.long j18), .second, .val (.ref b5001), .val (.ref b5005), .val (.ref b5009), .val (.ref b5013), .val (.ref b5001), .val (.long jp1), .second, .val (.long jp4), .second] [(.long jp4), (.long jp1), (.long j16), (.long j12)])) rfl (by rw [hml]; rfl) (argsL := [(.long j12), (.long j16), (.long jp1), (.long jp4)]) (rest := []) (lenOf own_pd16 rfl) rfl (by show 2 * 0 + _ ≤ _; exact Nat.le_of_eq rfl) (hb hby at_203) (fun _ _ => ⟨rfl, rfl, (by decide : 8 + 0 ≤ _), (by decide : 84 + 0 ≤ _)⟩)
                  dsimp only [Pt.U, Pt.locs, Pt.cells, Pt.slots] at X5145 l5145 y5145 z5145 st5145 hQ5145
                  subst l5145 y5145 z5145
                  obtain ⟨N5145q, e5145, hL5145⟩ := hQ5145
                  have N5145 := Fr.app N5139 N5145q
                  rcases hL5145 with ⟨rfl, hq5145_0_0, -⟩ | ⟨rfl, hq5145_1_0, -⟩
                  · skip
                    refine own_st st5145 ?_
                    show own_Go _ _ _ _ T5145 (mkF m 206 #[.val (.int ip0), .val (.long jp1), .second, .val (.long jp2), .second, .val (.long jp3), .second, .val (.long jp4), .second, .val (.long jp5), .second, .val (.int (3 : Int32)), .val (.long j12), .second, .val (.long j14), .second, .val (.long j16), .second, .val (.long j18), .second, .val (.ref b5001), .val (.ref b5005), .val (.ref b5009), .val (.ref b5013), .val (.ref b5001), .val (.long jp1), .second, .val (.long jp4), .second] [(.int (1 : Int32))])
                    refine own_st (fun t k => XS.ifNo X5145.here hx rfl (hb hby at_206) rfl ((if0 _ _).trans (feq (by decide : ¬ ((1 : Int32) = (0 : Int32)))).1) k) ?_
                    show own_Go _ _ _ _ T5145 (mkF m 209 #[.val (.int ip0), .val (.long jp1), .second, .val (.long jp2), .second, .val (.long jp3), .second, .val (.long jp4), .second, .val (.long jp5), .second, .val (.int (3 : Int32)), .val (.long j12), .second, .val (.long j14), .second, .val (.long j16), .second, .val (.long j18), .second, .val (.ref b5001), .val (.ref b5005), .val (.ref b5009), .val (.ref b5013), .val (.ref b5001), .val (.long jp1), .second, .val (.long jp4), .second] [])
                    refine own_st (fun t k => XS.aload X5145.here hx rfl (hb hby at_209) rfl rfl k) ?_
                    refine own_st (fun t k => XS.astore X5145.here hx rfl (hb hby at_211) rfl rfl (l' := #[.val (.int ip0), .val (.long jp1), .second, .val (.long jp2), .second, .val (.long jp3), .second, .val (.long jp4), .second, .val (.long jp5), .second, .val (.int (3 : Int32)), .val (.long j12), .second, .val (.long j14), .second, .val (.long j16), .second, .val (.long j18), .second, .val (.ref b5001), .val (.ref b5005), .val (.ref b5009), .val (.ref b5013), .val (.ref b5005), .val (.long jp1), .second, .val (.long jp4), .second]) rfl k) ?_
                    refine own_st (fun t k => XS.lload X5145.here hx rfl (hb hby at_213) rfl k) ?_
                    refine own_st (fun t k => XS.lstore X5145.here hx rfl (hb hby at_215) rfl (l' := #[.val (.int ip0), .val (.long jp1), .second, .val (.long jp2), .second, .val (.long jp3), .second, .val (.long jp4), .second, .val (.long jp5), .second, .val (.int (3 : Int32)), .val (.long j12), .second, .val (.long j14), .second, .val (.long j16), .second, .val (.long j18), .second, .val (.ref b5001), .val (.ref b5005), .val (.ref b5009), .val (.ref b5013), .val (.ref b5005), .val (.long j12), .second, .val (.long jp4), .second]) rfl k) ?_
                    show own_Go _ _ _ _ T5145 (mkF m 217 #[.val (.int ip0), .val (.long jp1), .second, .val (.long jp2), .second, .val (.long jp3), .second, .val (.long jp4), .second, .val (.long jp5), .second, .val (.int (3 : Int32)), .val (.long j12), .second, .val (.long j14), .second, .val (.long j16), .second, .val (.long j18), .second, .val (.ref b5001), .val (.ref b5005), .val (.ref b5009), .val (.ref b5013), .val (.ref b5005), .val (.long j12), .second, .val (.long jp4), .second] [])
                    refine own_st (fun t k => XS.lload X5145.here hx rfl (hb hby at_217) rfl k) ?_
                    refine own_st (fun t k => XS.lstore X5145.here hx rfl (hb hby at_219) rfl (l' := #[.val (.int ip0), .val (.long jp1), .second, .val (.long jp2), .second, .val (.long jp3), .second, .val (.long jp4), .second, .val (.long jp5), .second, .val (.int (3 : Int32)), .val (.long j12), .second, .val (.long j14), .second, .val (.long j16), .second, .val (.long j18), .second, .val (.ref b5001), .val (.ref b5005), .val (.ref b5009), .val (.ref b5013), .val (.ref b5005), .val (.long j12), .second, .val (.long j16), .second]) rfl k) ?_
                    refine own_st (fun t k => XS.iload X5145.here hx rfl (hb hby at_221) rfl k) ?_
                    refine own_st (fun t k => XS.iconst X5145.here hx rfl (hb hby at_223) k) ?_
                    show own_Go _ _ _ _ T5145 (mkF m 224 #[.val (.int ip0), .val (.long jp1), .second, .val (.long jp2), .second, .val (.long jp3), .second, .val (.long jp4), .second, .val (.long jp5), .second, .val (.int (3 : Int32)), .val (.long j12), .second, .val (.long j14), .second, .val (.long j16), .second, .val (.long j18), .second, .val (.ref b5001), .val (.ref b5005), .val (.ref b5009), .val (.ref b5013), .val (.ref b5005), .val (.long j12), .second, .val (.long j16), .second] [(.int (3 : Int32)), (.int (3 : Int32))])
                    refine own_st (fun t k => XS.icmpNo X5145.here hx rfl (hb hby at_224) rfl (flt (by decide : ¬ ((3 : Int32) < (3 : Int32)))).1 k) ?_
                    refine own_st (fun t k => XS.lload X5145.here hx rfl (hb hby at_227) rfl k) ?_
                    refine own_st (fun t k => XS.lload X5145.here hx rfl (hb hby at_229) rfl k) ?_
                    refine own_st (fun t k => XS.lload X5145.here hx rfl (hb hby at_231) rfl k) ?_
                    show own_Go _ _ _ _ T5145 (mkF m 233 #[.val (.int ip0), .val (.long jp1), .second, .val (.long jp2), .second, .val (.long jp3), .second, .val (.long jp4), .second, .val (.long jp5), .second, .val (.int (3 : Int32)), .val (.long j12), .second, .val (.long j14), .second, .val (.long j16), .second, .val (.long j18), .second, .val (.ref b5001), .val (.ref b5005), .val (.ref b5009), .val (.ref b5013), .val (.ref b5005), .val (.long j12), .second, .val (.long j16), .second] [(.long j12), (.long j18), (.long j14)])
                    refine own_st (fun t k => XS.lload X5145.here hx rfl (hb hby at_233) rfl k) ?_
                    show own_Go _ _ _ _ T5145 (mkF m 235 #[.val (.int ip0), .val (.long jp1), .second, .val (.long jp2), .second, .val (.long jp3), .second, .val (.long jp4), .second, .val (.long jp5), .second, .val (.int (3 : Int32)), .val (.long j12), .second, .val (.long j14), .second, .val (.long j16), .second, .val (.long j18), .second, .val (.ref b5001), .val (.ref b5005), .val (.ref b5009), .val (.ref b5013), .val (.ref b5005), .val (.long j12), .second, .val (.long j16), .second] [(.long j16), (.long j12), (.long j18), (.long j14)])
                    obtain ⟨_, _, ⟨T5146, L5146, k5146, n5146⟩, -, X5146, ⟨Lc5146, hQ5146, l5146, y5146, z5146⟩, st5146⟩ := Jvm.LawKit.callS X5145 hx (y := own_y3) hown (mvT hZ (own_w hw 145 rfl)) (mvT hZ (own_w hw 146 rfl)) (mvT hZ (own_w hw 147 rfl)) (mvT hZ (own_w hw 148 rfl)) (by decide) (backOf (W := 0) (own_rm21 l Z a0 hw [] j14 j18 j12 j16 T5139.heap n0 Z5139 ) hZ (own_w hw 148 rfl) (own_w hw 147 rfl) (by decide) (by decide)) (g := (mkF m 235 #[.val (.int ip0), .val (.long jp1), .second, .val (.long jp2), .second, .val (.long jp3), .second, .val (.long jp4), .second, .val (.long jp5), .second, .val (.int (3 : Int32)), .val (.long j12), .second, .val (.long j14), .second, .val (.long j16), .second, .val (.long j18), .second, .val (.ref b5001), .val (.ref b5005), .val (.ref b5009), .val (.ref b5013), .val (.ref b5005), .val (.long j12), .second, .val (.long j16), .second] [(.long j16), (.long j12), (.long j18), (.long j14)])) rfl (by rw [hml]; rfl) (argsL := [(.long j14), (.long j18), (.long j12), (.long j16)]) (rest := []) (lenOf own_pd16 rfl) rfl (by show 2 * 0 + _ ≤ _; exact Nat.le_of_eq rfl) (hb hby at_235) (fun _ _ => ⟨rfl, e5145, (by decide : 8 + 0 ≤ _), (by decide : 84 + 0 ≤ _)⟩)
                    dsimp only [Pt.U, Pt.locs, Pt.cells, Pt.slots] at X5146 l5146 y5146 z5146 st5146 hQ5146
                    subst l5146 y5146 z5146
                    obtain ⟨N5146q, e5146, hL5146⟩ := hQ5146
                    have N5146 := Fr.app N5145 N5146q
                    rcases hL5146 with ⟨rfl, hq5146_0_0, -⟩ | ⟨rfl, hq5146_1_0, -⟩
                    · skip
                      exact absurd hq5146_0_0 hq5139_1_0
                    · skip
                      refine own_st st5146 ?_
                      show own_Go _ _ _ _ T5146 (mkF m 238 #[.val (.int ip0), .val (.long jp1), .second, .val (.long jp2), .second, .val (.long jp3), .second, .val (.long jp4), .second, .val (.long jp5), .second, .val (.int (3 : Int32)), .val (.long j12), .second, .val (.long j14), .second, .val (.long j16), .second, .val (.long j18), .second, .val (.ref b5001), .val (.ref b5005), .val (.ref b5009), .val (.ref b5013), .val (.ref b5005), .val (.long j12), .second, .val (.long j16), .second] [(.int (0 : Int32))])
                      refine own_st (fun t k => XS.ifYes X5146.here hx rfl (pc0 := 238) (pc' := 245) rfl (hb hby at_238) rfl ((if0 _ _).trans (teq (by decide : (0 : Int32) = (0 : Int32))).1) (by decide) (by decide) k) ?_
                      refine own_st (fun t k => XS.aload X5146.here hx rfl (hb hby at_245) rfl rfl k) ?_
                      show own_Go _ _ _ _ T5146 (mkF m 247 #[.val (.int ip0), .val (.long jp1), .second, .val (.long jp2), .second, .val (.long jp3), .second, .val (.long jp4), .second, .val (.long jp5), .second, .val (.int (3 : Int32)), .val (.long j12), .second, .val (.long j14), .second, .val (.long j16), .second, .val (.long j18), .second, .val (.ref b5001), .val (.ref b5005), .val (.ref b5009), .val (.ref b5013), .val (.ref b5005), .val (.long j12), .second, .val (.long j16), .second] [(.ref b5013)])
                      have f5147 := (f5117.keep Kq5139)
                      have f5149 := (f5138.keep Kq5139)
                      obtain ⟨cq5148, kq5148, q5148a, q5148b, q5148c⟩ := isOf hZ e5146 f5149
                      obtain ⟨_, _, ⟨T5148, L5148, k5148, n5148⟩, -, X5148, ⟨Lc5148, hQ5148, l5148, y5148, z5148⟩, st5148⟩ := X5146.virtualBack hx (y := own_y1) (z := own_y1) hown (mvT hZ (own_w hw 56 rfl)) (mvT hZ (own_w hw 57 rfl)) (notFace_of_selects (args := #[]) (mvT hZ (own_w hw 59 rfl))) (mvT hZ (own_w hw 59 rfl)) (mvT hZ (own_w hw 58 rfl)) (by decide) (backOf (W := 0) (own_rm7_128 l Z a0 hw [] b5013 b2x4_14c5015 b2x5_18c4c5015 k2x5_18c4c5015c2c5044c2c5104c2c5139 b5001 b5009 b5005 T5139.heap n0 Z5139 Fc5139_1_6 Fc5139_1_5 Fc5139_1_2 Fc5139_1_1 Fc5139_1_0 OFc5139_1_0 f5147) hZ (own_w hw 60 rfl) (own_w hw 28 rfl) (by decide) (by decide)) q5148a q5148c (g := (mkF m 247 #[.val (.int ip0), .val (.long jp1), .second, .val (.long jp2), .second, .val (.long jp3), .second, .val (.long jp4), .second, .val (.long jp5), .second, .val (.int (3 : Int32)), .val (.long j12), .second, .val (.long j14), .second, .val (.long j16), .second, .val (.long j18), .second, .val (.ref b5001), .val (.ref b5005), .val (.ref b5009), .val (.ref b5013), .val (.ref b5005), .val (.long j12), .second, .val (.long j16), .second] [(.ref b5013)])) rfl (by rw [hml]; rfl) (Steps.refl _) (argsL := []) (rest := []) (lenOf own_pd3 rfl) rfl (by show 2 * 0 + _ ≤ _; exact Nat.le_of_eq rfl) (hb hby at_247) (fun _ _ => ⟨rfl, e5146, (by decide : 8 + 0 ≤ _), (by decide : 84 + 0 ≤ _)⟩)
                      dsimp only [Pt.U, Pt.locs, Pt.cells, Pt.slots] at X5148 l5148 y5148 z5148 st5148 hQ5148
                      subst l5148 y5148 z5148
                      obtain ⟨N5148q, Kq5148, hL5148⟩ := hQ5148
                      have N5148 := Fr.app N5146 N5148q
                      have K5148 : Keep h0 T5148.heap [] := K5139.trans Kq5148 all0
                      have Z5148 := Nat.le_trans Z5139 Kq5148.1
                      rcases hL5148 with ⟨rfl, -⟩
                      · skip
                        refine own_st (fun t k => st5148.trans k) ?_
                        refine own_st (fun t k => XS.aload X5148.here hx rfl (hb hby at_250) rfl rfl k) ?_
                        show own_Go _ _ _ _ T5148 (mkF m 252 #[.val (.int ip0), .val (.long jp1), .second, .val (.long jp2), .second, .val (.long jp3), .second, .val (.long jp4), .second, .val (.long jp5), .second, .val (.int (3 : Int32)), .val (.long j12), .second, .val (.long j14), .second, .val (.long j16), .second, .val (.long j18), .second, .val (.ref b5001), .val (.ref b5005), .val (.ref b5009), .val (.ref b5013), .val (.ref b5005), .val (.long j12), .second, .val (.long j16), .second] [(.ref b5005), (.ref b5005)])
                        refine own_st (fun t k => Jvm.RoadKit.acmp (g := (mkF m 252 #[.val (.int ip0), .val (.long jp1), .second, .val (.long jp2), .second, .val (.long jp3), .second, .val (.long jp4), .second, .val (.long jp5), .second, .val (.int (3 : Int32)), .val (.long j12), .second, .val (.long j14), .second, .val (.long j16), .second, .val (.long j18), .second, .val (.ref b5001), .val (.ref b5005), .val (.ref b5009), .val (.ref b5013), .val (.ref b5005), .val (.long j12), .second, .val (.long j16), .second] [(.ref b5005), (.ref b5005)])) X5148 hx rfl rfl rfl (pc0 := 252) (pc' := 255) (same := true) rfl (hb hby at_252) rfl (decide_eq_true (congrArg Value.ref (rfl : b5005 = b5005))) (by decide) (by decide) k) ?_
                        refine own_st (fun t k => XS.iconst X5148.here hx rfl (hb hby at_255) k) ?_
                        show own_Go _ _ _ _ T5148 (mkF m 256 #[.val (.int ip0), .val (.long jp1), .second, .val (.long jp2), .second, .val (.long jp3), .second, .val (.long jp4), .second, .val (.long jp5), .second, .val (.int (3 : Int32)), .val (.long j12), .second, .val (.long j14), .second, .val (.long j16), .second, .val (.long j18), .second, .val (.ref b5001), .val (.ref b5005), .val (.ref b5009), .val (.ref b5013), .val (.ref b5005), .val (.long j12), .second, .val (.long j16), .second] [(.int (1 : Int32))])
                        refine own_st (fun t k => XS.goto X5148.here hx rfl (pc0 := 256) (pc' := 260) rfl (hb hby at_256) (by decide) (by decide) k) ?_
                        show own_Go _ _ _ _ T5148 (mkF m 260 #[.val (.int ip0), .val (.long jp1), .second, .val (.long jp2), .second, .val (.long jp3), .second, .val (.long jp4), .second, .val (.long jp5), .second, .val (.int (3 : Int32)), .val (.long j12), .second, .val (.long j14), .second, .val (.long j16), .second, .val (.long j18), .second, .val (.ref b5001), .val (.ref b5005), .val (.ref b5009), .val (.ref b5013), .val (.ref b5005), .val (.long j12), .second, .val (.long j16), .second] [(.int (1 : Int32))])
                        exact own_retZ X5148 hx hlk (t := .boolean) hret (by simp) (hb hby at_260) (by decide) (by decide) rfl ⟨rfl, N5148⟩
                  · skip
                    exact absurd hq5104_0_0 hq5145_1_0
                · skip
                  refine own_st (fun t k => st5139.trans k) ?_
                  refine own_st (fun t k => XS.aconstNull X5139.here hx rfl (hb hby at_163) k) ?_
                  refine own_st (fun t k => XS.astore X5139.here hx rfl (hb hby at_164) rfl rfl (l' := #[.val (.int ip0), .val (.long jp1), .second, .val (.long jp2), .second, .val (.long jp3), .second, .val (.long jp4), .second, .val (.long jp5), .second, .val (.int (3 : Int32)), .val (.long j12), .second, .val (.long j14), .second, .val (.long j16), .second, .val (.long j18), .second, .val (.ref b5001), .val (.ref b5005), .val (.ref b5009), .val (.ref b5013), .val .null, .unset, .unset, .unset, .unset]) rfl k) ?_
                  show own_Go _ _ _ _ T5139 (mkF m 166 #[.val (.int ip0), .val (.long jp1), .second, .val (.long jp2), .second, .val (.long jp3), .second, .val (.long jp4), .second, .val (.long jp5), .second, .val (.int (3 : Int32)), .val (.long j12), .second, .val (.long j14), .second, .val (.long j16), .second, .val (.long j18), .second, .val (.ref b5001), .val (.ref b5005), .val (.ref b5009), .val (.ref b5013), .val .null, .unset, .unset, .unset, .unset] [])
                  refine own_st (fun t k => XS.lconst X5139.here hx rfl (hb hby at_166) k) ?_
                  refine own_st (fun t k => XS.lstore X5139.here hx rfl (hb hby at_167) rfl (l' := #[.val (.int ip0), .val (.long jp1), .second, .val (.long jp2), .second, .val (.long jp3), .second, .val (.long jp4), .second, .val (.long jp5), .second, .val (.int (3 : Int32)), .val (.long j12), .second, .val (.long j14), .second, .val (.long j16), .second, .val (.long j18), .second, .val (.ref b5001), .val (.ref b5005), .val (.ref b5009), .val (.ref b5013), .val .null, .val (.long (0 : Int64)), .second, .unset, .unset]) rfl k) ?_
                  refine own_st (fun t k => XS.lconst X5139.here hx rfl (hb hby at_169) k) ?_
                  refine own_st (fun t k => XS.lstore X5139.here hx rfl (hb hby at_170) rfl (l' := #[.val (.int ip0), .val (.long jp1), .second, .val (.long jp2), .second, .val (.long jp3), .second, .val (.long jp4), .second, .val (.long jp5), .second, .val (.int (3 : Int32)), .val (.long j12), .second, .val (.long j14), .second, .val (.long j16), .second, .val (.long j18), .second, .val (.ref b5001), .val (.ref b5005), .val (.ref b5009), .val (.ref b5013), .val .null, .val (.long (0 : Int64)), .second, .val (.long (0 : Int64)), .second]) rfl k) ?_
                  show own_Go _ _ _ _ T5139 (mkF m 172 #[.val (.int ip0), .val (.long jp1), .second, .val (.long jp2), .second, .val (.long jp3), .second, .val (.long jp4), .second, .val (.long jp5), .second, .val (.int (3 : Int32)), .val (.long j12), .second, .val (.long j14), .second, .val (.long j16), .second, .val (.long j18), .second, .val (.ref b5001), .val (.ref b5005), .val (.ref b5009), .val (.ref b5013), .val .null, .val (.long (0 : Int64)), .second, .val (.long (0 : Int64)), .second] [])
                  refine own_st (fun t k => XS.iload X5139.here hx rfl (hb hby at_172) rfl k) ?_
                  refine own_st (fun t k => XS.iconst X5139.here hx rfl (hb hby at_174) k) ?_
                  show own_Go _ _ _ _ T5139 (mkF m 175 #[.val (.int ip0), .val (.long jp1), .second, .val (.long jp2), .second, .val (.long jp3), .second, .val (.long jp4), .second, .val (.long jp5), .second, .val (.int (3 : Int32)), .val (.long j12), .second, .val (.long j14), .second, .val (.long j16), .second, .val (.long j18), .second, .val (.ref b5001), .val (.ref b5005), .val (.ref b5009), .val (.ref b5013), .val .null, .val (.long (0 : Int64)), .second, .val (.long (0 : Int64)), .second] [(.int (1 : Int32)), (.int (3 : Int32))])
                  refine own_st (fun t k => XS.icmpNo X5139.here hx rfl (hb hby at_175) rfl (flt (by decide : ¬ ((3 : Int32) < (1 : Int32)))).1 k) ?_
                  refine own_st (fun t k => XS.aload X5139.here hx rfl (hb hby at_178) rfl rfl k) ?_
                  show own_Go _ _ _ _ T5139 (mkF m 180 #[.val (.int ip0), .val (.long jp1), .second, .val (.long jp2), .second, .val (.long jp3), .second, .val (.long jp4), .second, .val (.long jp5), .second, .val (.int (3 : Int32)), .val (.long j12), .second, .val (.long j14), .second, .val (.long j16), .second, .val (.long j18), .second, .val (.ref b5001), .val (.ref b5005), .val (.ref b5009), .val (.ref b5013), .val .null, .val (.long (0 : Int64)), .second, .val (.long (0 : Int64)), .second] [(.ref b5001)])
                  refine own_st (fun t k => XS.astore X5139.here hx rfl (hb hby at_180) rfl rfl (l' := #[.val (.int ip0), .val (.long jp1), .second, .val (.long jp2), .second, .val (.long jp3), .second, .val (.long jp4), .second, .val (.long jp5), .second, .val (.int (3 : Int32)), .val (.long j12), .second, .val (.long j14), .second, .val (.long j16), .second, .val (.long j18), .second, .val (.ref b5001), .val (.ref b5005), .val (.ref b5009), .val (.ref b5013), .val (.ref b5001), .val (.long (0 : Int64)), .second, .val (.long (0 : Int64)), .second]) rfl k) ?_
                  refine own_st (fun t k => XS.lloadN X5139.here hx rfl (hb hby at_182) rfl k) ?_
                  refine own_st (fun t k => XS.lstore X5139.here hx rfl (hb hby at_183) rfl (l' := #[.val (.int ip0), .val (.long jp1), .second, .val (.long jp2), .second, .val (.long jp3), .second, .val (.long jp4), .second, .val (.long jp5), .second, .val (.int (3 : Int32)), .val (.long j12), .second, .val (.long j14), .second, .val (.long j16), .second, .val (.long j18), .second, .val (.ref b5001), .val (.ref b5005), .val (.ref b5009), .val (.ref b5013), .val (.ref b5001), .val (.long jp1), .second, .val (.long (0 : Int64)), .second]) rfl k) ?_
                  refine own_st (fun t k => XS.lload X5139.here hx rfl (hb hby at_185) rfl k) ?_
                  show own_Go _ _ _ _ T5139 (mkF m 187 #[.val (.int ip0), .val (.long jp1), .second, .val (.long jp2), .second, .val (.long jp3), .second, .val (.long jp4), .second, .val (.long jp5), .second, .val (.int (3 : Int32)), .val (.long j12), .second, .val (.long j14), .second, .val (.long j16), .second, .val (.long j18), .second, .val (.ref b5001), .val (.ref b5005), .val (.ref b5009), .val (.ref b5013), .val (.ref b5001), .val (.long jp1), .second, .val (.long (0 : Int64)), .second] [(.long jp4)])
                  refine own_st (fun t k => XS.lstore X5139.here hx rfl (hb hby at_187) rfl (l' := #[.val (.int ip0), .val (.long jp1), .second, .val (.long jp2), .second, .val (.long jp3), .second, .val (.long jp4), .second, .val (.long jp5), .second, .val (.int (3 : Int32)), .val (.long j12), .second, .val (.long j14), .second, .val (.long j16), .second, .val (.long j18), .second, .val (.ref b5001), .val (.ref b5005), .val (.ref b5009), .val (.ref b5013), .val (.ref b5001), .val (.long jp1), .second, .val (.long jp4), .second]) rfl k) ?_
                  refine own_st (fun t k => XS.iload X5139.here hx rfl (hb hby at_189) rfl k) ?_
                  refine own_st (fun t k => XS.iconst X5139.here hx rfl (hb hby at_191) k) ?_
                  show own_Go _ _ _ _ T5139 (mkF m 192 #[.val (.int ip0), .val (.long jp1), .second, .val (.long jp2), .second, .val (.long jp3), .second, .val (.long jp4), .second, .val (.long jp5), .second, .val (.int (3 : Int32)), .val (.long j12), .second, .val (.long j14), .second, .val (.long j16), .second, .val (.long j18), .second, .val (.ref b5001), .val (.ref b5005), .val (.ref b5009), .val (.ref b5013), .val (.ref b5001), .val (.long jp1), .second, .val (.long jp4), .second] [(.int (2 : Int32)), (.int (3 : Int32))])
                  refine own_st (fun t k => XS.icmpNo X5139.here hx rfl (hb hby at_192) rfl (flt (by decide : ¬ ((3 : Int32) < (2 : Int32)))).1 k) ?_
                  show own_Go _ _ _ _ T5139 (mkF m 195 #[.val (.int ip0), .val (.long jp1), .second, .val (.long jp2), .second, .val (.long jp3), .second, .val (.long jp4), .second, .val (.long jp5), .second, .val (.int (3 : Int32)), .val (.long j12), .second, .val (.long j14), .second, .val (.long j16), .second, .val (.long j18), .second, .val (.ref b5001), .val (.ref b5005), .val (.ref b5009), .val (.ref b5013), .val (.ref b5001), .val (.long jp1), .second, .val (.long jp4), .second] [])
                  refine own_st (fun t k => XS.lload X5139.here hx rfl (hb hby at_195) rfl k) ?_
                  refine own_st (fun t k => XS.lload X5139.here hx rfl (hb hby at_197) rfl k) ?_
                  refine own_st (fun t k => XS.lload X5139.here hx rfl (hb hby at_199) rfl k) ?_
                  refine own_st (fun t k => XS.lload X5139.here hx rfl (hb hby at_201) rfl k) ?_
                  show own_Go _ _ _ _ T5139 (mkF m 203 #[.val (.int ip0), .val (.long jp1), .second, .val (.long jp2), .second, .val (.long jp3), .second, .val (.long jp4), .second, .val (.long jp5), .second, .val (.int (3 : Int32)), .val (.long j12), .second, .val (.long j14), .second, .val (.long j16), .second, .val (.long j18), .second, .val (.ref b5001), .val (.ref b5005), .val (.ref b5009), .val (.ref b5013), .val (.ref b5001), .val (.long jp1), .second, .val (.long jp4), .second] [(.long jp4), (.long jp1), (.long j16), (.long j12)])
                  obtain ⟨_, _, ⟨T5150, L5150, k5150, n5150⟩, -, X5150, ⟨Lc5150, hQ5150, l5150, y5150, z5150⟩, st5150⟩ := Jvm.LawKit.callS X5139 hx (y := own_y3) hown (mvT hZ (own_w hw 145 rfl)) (mvT hZ (own_w hw 146 rfl)) (mvT hZ (own_w hw 147 rfl)) (mvT hZ (own_w hw 148 rfl)) (by decide) (backOf (W := 0) (own_rm21 l Z a0 hw [] j12 j16 jp1 jp4 T5139.heap n0 Z5139 ) hZ (own_w hw 148 rfl) (own_w hw 147 rfl) (by decide) (by decide)) (g := (mkF m 203 #[.val (.int ip0), .val (.long jp1), .second, .val (.long jp2), .second, .val (.long jp3), .second, .val (.long jp4), .second, .val (.long jp5), .second, .val (.int (3 : Int32)), .val (.long j12), .second, .val (.long j14), .second, .val (.long j16), .second, .val (.long j18), .second, .val (.ref b5001), .val (.ref b5005), .val (.ref b5009), .val (.ref b5013), .val (.ref b5001), .val (.long jp1), .second, .val (.long jp4), .second] [(.long jp4), (.long jp1), (.long j16), (.long j12)])) rfl (by rw [hml]; rfl) (argsL := [(.long j12), (.long j16), (.long jp1), (.long jp4)]) (rest := []) (lenOf own_pd16 rfl) rfl (by show 2 * 0 + _ ≤ _; exact Nat.le_of_eq rfl) (hb hby at_203) (fun _ _ => ⟨rfl, rfl, (by decide : 8 + 0 ≤ _), (by decide : 84 + 0 ≤ _)⟩)
                  dsimp only [Pt.U, Pt.locs, Pt.cells, Pt.slots] at X5150 l5150 y5150 z5150 st5150 hQ5150
                  subst l5150 y5150 z5150
                  obtain ⟨N5150q, e5150, hL5150⟩ := hQ5150
                  have N5150 := Fr.app N5139 N5150q
                  rcases hL5150 with ⟨rfl, hq5150_0_0, -⟩ | ⟨rfl, hq5150_1_0, -⟩
                  · skip
                    refine own_st st5150 ?_
                    show own_Go _ _ _ _ T5150 (mkF m 206 #[.val (.int ip0), .val (.long jp1), .second, .val (.long jp2), .second, .val (.long jp3), .second, .val (.long jp4), .second, .val (.long jp5), .second, .val (.int (3 : Int32)), .val (.long j12), .second, .val (.long j14), .second, .val (.long j16), .second, .val (.long j18), .second, .val (.ref b5001), .val (.ref b5005), .val (.ref b5009), .val (.ref b5013), .val (.ref b5001), .val (.long jp1), .second, .val (.long jp4), .second] [(.int (1 : Int32))])
                    refine own_st (fun t k => XS.ifNo X5150.here hx rfl (hb hby at_206) rfl ((if0 _ _).trans (feq (by decide : ¬ ((1 : Int32) = (0 : Int32)))).1) k) ?_
                    refine own_st (fun t k => XS.aload X5150.here hx rfl (hb hby at_209) rfl rfl k) ?_
                    refine own_st (fun t k => XS.astore X5150.here hx rfl (hb hby at_211) rfl rfl (l' := #[.val (.int ip0), .val (.long jp1), .second, .val (.long jp2), .second, .val (.long jp3), .second, .val (.long jp4), .second, .val (.long jp5), .second, .val (.int (3 : Int32)), .val (.long j12), .second, .val (.long j14), .second, .val (.long j16), .second, .val (.long j18), .second, .val (.ref b5001), .val (.ref b5005), .val (.ref b5009), .val (.ref b5013), .val (.ref b5005), .val (.long jp1), .second, .val (.long jp4), .second]) rfl k) ?_
                    show own_Go _ _ _ _ T5150 (mkF m 213 #[.val (.int ip0), .val (.long jp1), .second, .val (.long jp2), .second, .val (.long jp3), .second, .val (.long jp4), .second, .val (.long jp5), .second, .val (.int (3 : Int32)), .val (.long j12), .second, .val (.long j14), .second, .val (.long j16), .second, .val (.long j18), .second, .val (.ref b5001), .val (.ref b5005), .val (.ref b5009), .val (.ref b5013), .val (.ref b5005), .val (.long jp1), .second, .val (.long jp4), .second] [])
                    refine own_st (fun t k => XS.lload X5150.here hx rfl (hb hby at_213) rfl k) ?_
                    refine own_st (fun t k => XS.lstore X5150.here hx rfl (hb hby at_215) rfl (l' := #[.val (.int ip0), .val (.long jp1), .second, .val (.long jp2), .second, .val (.long jp3), .second, .val (.long jp4), .second, .val (.long jp5), .second, .val (.int (3 : Int32)), .val (.long j12), .second, .val (.long j14), .second, .val (.long j16), .second, .val (.long j18), .second, .val (.ref b5001), .val (.ref b5005), .val (.ref b5009), .val (.ref b5013), .val (.ref b5005), .val (.long j12), .second, .val (.long jp4), .second]) rfl k) ?_
                    refine own_st (fun t k => XS.lload X5150.here hx rfl (hb hby at_217) rfl k) ?_
                    refine own_st (fun t k => XS.lstore X5150.here hx rfl (hb hby at_219) rfl (l' := #[.val (.int ip0), .val (.long jp1), .second, .val (.long jp2), .second, .val (.long jp3), .second, .val (.long jp4), .second, .val (.long jp5), .second, .val (.int (3 : Int32)), .val (.long j12), .second, .val (.long j14), .second, .val (.long j16), .second, .val (.long j18), .second, .val (.ref b5001), .val (.ref b5005), .val (.ref b5009), .val (.ref b5013), .val (.ref b5005), .val (.long j12), .second, .val (.long j16), .second]) rfl k) ?_
                    show own_Go _ _ _ _ T5150 (mkF m 221 #[.val (.int ip0), .val (.long jp1), .second, .val (.long jp2), .second, .val (.long jp3), .second, .val (.long jp4), .second, .val (.long jp5), .second, .val (.int (3 : Int32)), .val (.long j12), .second, .val (.long j14), .second, .val (.long j16), .second, .val (.long j18), .second, .val (.ref b5001), .val (.ref b5005), .val (.ref b5009), .val (.ref b5013), .val (.ref b5005), .val (.long j12), .second, .val (.long j16), .second] [])
                    refine own_st (fun t k => XS.iload X5150.here hx rfl (hb hby at_221) rfl k) ?_
                    refine own_st (fun t k => XS.iconst X5150.here hx rfl (hb hby at_223) k) ?_
                    show own_Go _ _ _ _ T5150 (mkF m 224 #[.val (.int ip0), .val (.long jp1), .second, .val (.long jp2), .second, .val (.long jp3), .second, .val (.long jp4), .second, .val (.long jp5), .second, .val (.int (3 : Int32)), .val (.long j12), .second, .val (.long j14), .second, .val (.long j16), .second, .val (.long j18), .second, .val (.ref b5001), .val (.ref b5005), .val (.ref b5009), .val (.ref b5013), .val (.ref b5005), .val (.long j12), .second, .val (.long j16), .second] [(.int (3 : Int32)), (.int (3 : Int32))])
                    refine own_st (fun t k => XS.icmpNo X5150.here hx rfl (hb hby at_224) rfl (flt (by decide : ¬ ((3 : Int32) < (3 : Int32)))).1 k) ?_
                    refine own_st (fun t k => XS.lload X5150.here hx rfl (hb hby at_227) rfl k) ?_
                    show own_Go _ _ _ _ T5150 (mkF m 229 #[.val (.int ip0), .val (.long jp1), .second, .val (.long jp2), .second, .val (.long jp3), .second, .val (.long jp4), .second, .val (.long jp5), .second, .val (.int (3 : Int32)), .val (.long j12), .second, .val (.long j14), .second, .val (.long j16), .second, .val (.long j18), .second, .val (.ref b5001), .val (.ref b5005), .val (.ref b5009), .val (.ref b5013), .val (.ref b5005), .val (.long j12), .second, .val (.long j16), .second] [(.long j14)])
                    refine own_st (fun t k => XS.lload X5150.here hx rfl (hb hby at_229) rfl k) ?_
                    refine own_st (fun t k => XS.lload X5150.here hx rfl (hb hby at_231) rfl k) ?_
                    refine own_st (fun t k => XS.lload X5150.here hx rfl (hb hby at_233) rfl k) ?_
                    show own_Go _ _ _ _ T5150 (mkF m 235 #[.val (.int ip0), .val (.long jp1), .second, .val (.long jp2), .second, .val (.long jp3), .second, .val (.long jp4), .second, .val (.long jp5), .second, .val (.int (3 : Int32)), .val (.long j12), .second, .val (.long j14), .second, .val (.long j16), .second, .val (.long j18), .second, .val (.ref b5001), .val (.ref b5005), .val (.ref b5009), .val (.ref b5013), .val (.ref b5005), .val (.long j12), .second, .val (.long j16), .second] [(.long j16), (.long j12), (.long j18), (.long j14)])
                    obtain ⟨_, _, ⟨T5151, L5151, k5151, n5151⟩, -, X5151, ⟨Lc5151, hQ5151, l5151, y5151, z5151⟩, st5151⟩ := Jvm.LawKit.callS X5150 hx (y := own_y3) hown (mvT hZ (own_w hw 145 rfl)) (mvT hZ (own_w hw 146 rfl)) (mvT hZ (own_w hw 147 rfl)) (mvT hZ (own_w hw 148 rfl)) (by decide) (backOf (W := 0) (own_rm21 l Z a0 hw [] j14 j18 j12 j16 T5139.heap n0 Z5139 ) hZ (own_w hw 148 rfl) (own_w hw 147 rfl) (by decide) (by decide)) (g := (mkF m 235 #[.val (.int ip0), .val (.long jp1), .second, .val (.long jp2), .second, .val (.long jp3), .second, .val (.long jp4), .second, .val (.long jp5), .second, .val (.int (3 : Int32)), .val (.long j12), .second, .val (.long j14), .second, .val (.long j16), .second, .val (.long j18), .second, .val (.ref b5001), .val (.ref b5005), .val (.ref b5009), .val (.ref b5013), .val (.ref b5005), .val (.long j12), .second, .val (.long j16), .second] [(.long j16), (.long j12), (.long j18), (.long j14)])) rfl (by rw [hml]; rfl) (argsL := [(.long j14), (.long j18), (.long j12), (.long j16)]) (rest := []) (lenOf own_pd16 rfl) rfl (by show 2 * 0 + _ ≤ _; exact Nat.le_of_eq rfl) (hb hby at_235) (fun _ _ => ⟨rfl, e5150, (by decide : 8 + 0 ≤ _), (by decide : 84 + 0 ≤ _)⟩)
                    dsimp only [Pt.U, Pt.locs, Pt.cells, Pt.slots] at X5151 l5151 y5151 z5151 st5151 hQ5151
                    subst l5151 y5151 z5151
                    obtain ⟨N5151q, e5151, hL5151⟩ := hQ5151
                    have N5151 := Fr.app N5150 N5151q
                    rcases hL5151 with ⟨rfl, hq5151_0_0, -⟩ | ⟨rfl, hq5151_1_0, -⟩
                    · skip
                      exact absurd hq5151_0_0 hq5139_2_0
                    · skip
                      refine own_st st5151 ?_
                      show own_Go _ _ _ _ T5151 (mkF m 238 #[.val (.int ip0), .val (.long jp1), .second, .val (.long jp2), .second, .val (.long jp3), .second, .val (.long jp4), .second, .val (.long jp5), .second, .val (.int (3 : Int32)), .val (.long j12), .second, .val (.long j14), .second, .val (.long j16), .second, .val (.long j18), .second, .val (.ref b5001), .val (.ref b5005), .val (.ref b5009), .val (.ref b5013), .val (.ref b5005), .val (.long j12), .second, .val (.long j16), .second] [(.int (0 : Int32))])
                      refine own_st (fun t k => XS.ifYes X5151.here hx rfl (pc0 := 238) (pc' := 245) rfl (hb hby at_238) rfl ((if0 _ _).trans (teq (by decide : (0 : Int32) = (0 : Int32))).1) (by decide) (by decide) k) ?_
                      refine own_st (fun t k => XS.aload X5151.here hx rfl (hb hby at_245) rfl rfl k) ?_
                      show own_Go _ _ _ _ T5151 (mkF m 247 #[.val (.int ip0), .val (.long jp1), .second, .val (.long jp2), .second, .val (.long jp3), .second, .val (.long jp4), .second, .val (.long jp5), .second, .val (.int (3 : Int32)), .val (.long j12), .second, .val (.long j14), .second, .val (.long j16), .second, .val (.long j18), .second, .val (.ref b5001), .val (.ref b5005), .val (.ref b5009), .val (.ref b5013), .val (.ref b5005), .val (.long j12), .second, .val (.long j16), .second] [(.ref b5013)])
                      have f5152 := (f5117.keep Kq5139)
                      have f5154 := (f5138.keep Kq5139)
                      obtain ⟨cq5153, kq5153, q5153a, q5153b, q5153c⟩ := isOf hZ e5151 f5154
                      obtain ⟨_, _, ⟨T5153, L5153, k5153, n5153⟩, -, X5153, ⟨Lc5153, hQ5153, l5153, y5153, z5153⟩, st5153⟩ := X5151.virtualBack hx (y := own_y1) (z := own_y1) hown (mvT hZ (own_w hw 56 rfl)) (mvT hZ (own_w hw 57 rfl)) (notFace_of_selects (args := #[]) (mvT hZ (own_w hw 59 rfl))) (mvT hZ (own_w hw 59 rfl)) (mvT hZ (own_w hw 58 rfl)) (by decide) (backOf (W := 0) (own_rm7_128 l Z a0 hw [] b5013 b2x4_14c5015 b2x5_18c4c5015 k2x5_18c4c5015c2c5044c2c5104c2c5139 b5009 b5001 b5005 T5139.heap n0 Z5139 Fc5139_2_6 Fc5139_2_5 Fc5139_2_2 Fc5139_2_1 Fc5139_2_0 OFc5139_2_0 f5152) hZ (own_w hw 60 rfl) (own_w hw 28 rfl) (by decide) (by decide)) q5153a q5153c (g := (mkF m 247 #[.val (.int ip0), .val (.long jp1), .second, .val (.long jp2), .second, .val (.long jp3), .second, .val (.long jp4), .second, .val (.long jp5), .second, .val (.int (3 : Int32)), .val (.long j12), .second, .val (.long j14), .second, .val (.long j16), .second, .val (.long j18), .second, .val (.ref b5001), .val (.ref b5005), .val (.ref b5009), .val (.ref b5013), .val (.ref b5005), .val (.long j12), .second, .val (.long j16), .second] [(.ref b5013)])) rfl (by rw [hml]; rfl) (Steps.refl _) (argsL := []) (rest := []) (lenOf own_pd3 rfl) rfl (by show 2 * 0 + _ ≤ _; exact Nat.le_of_eq rfl) (hb hby at_247) (fun _ _ => ⟨rfl, e5151, (by decide : 8 + 0 ≤ _), (by decide : 84 + 0 ≤ _)⟩)
                      dsimp only [Pt.U, Pt.locs, Pt.cells, Pt.slots] at X5153 l5153 y5153 z5153 st5153 hQ5153
                      subst l5153 y5153 z5153
                      obtain ⟨N5153q, Kq5153, hL5153⟩ := hQ5153
                      have N5153 := Fr.app N5151 N5153q
                      have K5153 : Keep h0 T5153.heap [] := K5139.trans Kq5153 all0
                      have Z5153 := Nat.le_trans Z5139 Kq5153.1
                      rcases hL5153 with ⟨rfl, -⟩
                      · skip
                        refine own_st (fun t k => st5153.trans k) ?_
                        refine own_st (fun t k => XS.aload X5153.here hx rfl (hb hby at_250) rfl rfl k) ?_
                        show own_Go _ _ _ _ T5153 (mkF m 252 #[.val (.int ip0), .val (.long jp1), .second, .val (.long jp2), .second, .val (.long jp3), .second, .val (.long jp4), .second, .val (.long jp5), .second, .val (.int (3 : Int32)), .val (.long j12), .second, .val (.long j14), .second, .val (.long j16), .second, .val (.long j18), .second, .val (.ref b5001), .val (.ref b5005), .val (.ref b5009), .val (.ref b5013), .val (.ref b5005), .val (.long j12), .second, .val (.long j16), .second] [(.ref b5005), (.ref b5005)])
                        refine own_st (fun t k => Jvm.RoadKit.acmp (g := (mkF m 252 #[.val (.int ip0), .val (.long jp1), .second, .val (.long jp2), .second, .val (.long jp3), .second, .val (.long jp4), .second, .val (.long jp5), .second, .val (.int (3 : Int32)), .val (.long j12), .second, .val (.long j14), .second, .val (.long j16), .second, .val (.long j18), .second, .val (.ref b5001), .val (.ref b5005), .val (.ref b5009), .val (.ref b5013), .val (.ref b5005), .val (.long j12), .second, .val (.long j16), .second] [(.ref b5005), (.ref b5005)])) X5153 hx rfl rfl rfl (pc0 := 252) (pc' := 255) (same := true) rfl (hb hby at_252) rfl (decide_eq_true (congrArg Value.ref (rfl : b5005 = b5005))) (by decide) (by decide) k) ?_
                        refine own_st (fun t k => XS.iconst X5153.here hx rfl (hb hby at_255) k) ?_
                        refine own_st (fun t k => XS.goto X5153.here hx rfl (pc0 := 256) (pc' := 260) rfl (hb hby at_256) (by decide) (by decide) k) ?_
                        show own_Go _ _ _ _ T5153 (mkF m 260 #[.val (.int ip0), .val (.long jp1), .second, .val (.long jp2), .second, .val (.long jp3), .second, .val (.long jp4), .second, .val (.long jp5), .second, .val (.int (3 : Int32)), .val (.long j12), .second, .val (.long j14), .second, .val (.long j16), .second, .val (.long j18), .second, .val (.ref b5001), .val (.ref b5005), .val (.ref b5009), .val (.ref b5013), .val (.ref b5005), .val (.long j12), .second, .val (.long j16), .second] [(.int (1 : Int32))])
                        exact own_retZ X5153 hx hlk (t := .boolean) hret (by simp) (hb hby at_260) (by decide) (by decide) rfl ⟨rfl, N5153⟩
                  · skip
                    exact absurd hq5104_0_0 hq5150_1_0
              · skip
                refine own_st (fun t k => st5104.trans k) ?_
                show own_Go _ _ _ _ T5104 (mkF m 150 #[.val (.int ip0), .val (.long jp1), .second, .val (.long jp2), .second, .val (.long jp3), .second, .val (.long jp4), .second, .val (.long jp5), .second, .val (.int (3 : Int32)), .val (.long j12), .second, .val (.long j14), .second, .val (.long j16), .second, .val (.long j18), .second, .val (.ref b5001), .val (.ref b5005), .val (.ref b5009), .val (.ref b5013), .unset, .unset, .unset, .unset, .unset] [])
                refine own_st (fun t k => XS.iload X5104.here hx rfl (hb hby at_150) rfl k) ?_
                refine own_st (fun t k => XS.iconst X5104.here hx rfl (hb hby at_152) k) ?_
                show own_Go _ _ _ _ T5104 (mkF m 153 #[.val (.int ip0), .val (.long jp1), .second, .val (.long jp2), .second, .val (.long jp3), .second, .val (.long jp4), .second, .val (.long jp5), .second, .val (.int (3 : Int32)), .val (.long j12), .second, .val (.long j14), .second, .val (.long j16), .second, .val (.long j18), .second, .val (.ref b5001), .val (.ref b5005), .val (.ref b5009), .val (.ref b5013), .unset, .unset, .unset, .unset, .unset] [(.int (3 : Int32)), (.int (3 : Int32))])
                refine own_st (fun t k => XS.icmpNo X5104.here hx rfl (hb hby at_153) rfl (flt (by decide : ¬ ((3 : Int32) < (3 : Int32)))).1 k) ?_
                refine own_st (fun t k => XS.aload X5104.here hx rfl (hb hby at_156) rfl rfl k) ?_
                show own_Go _ _ _ _ T5104 (mkF m 158 #[.val (.int ip0), .val (.long jp1), .second, .val (.long jp2), .second, .val (.long jp3), .second, .val (.long jp4), .second, .val (.long jp5), .second, .val (.int (3 : Int32)), .val (.long j12), .second, .val (.long j14), .second, .val (.long j16), .second, .val (.long j18), .second, .val (.ref b5001), .val (.ref b5005), .val (.ref b5009), .val (.ref b5013), .unset, .unset, .unset, .unset, .unset] [(.ref b5013)])
                refine own_st (fun t k => XS.aload X5104.here hx rfl (hb hby at_158) rfl rfl k) ?_
                show own_Go _ _ _ _ T5104 (mkF m 160 #[.val (.int ip0), .val (.long jp1), .second, .val (.long jp2), .second, .val (.long jp3), .second, .val (.long jp4), .second, .val (.long jp5), .second, .val (.int (3 : Int32)), .val (.long j12), .second, .val (.long j14), .second, .val (.long j16), .second, .val (.long j18), .second, .val (.ref b5001), .val (.ref b5005), .val (.ref b5009), .val (.ref b5013), .unset, .unset, .unset, .unset, .unset] [(.ref b5009), (.ref b5013)])
                have ne5155 : b5009 ≠ b5013 := Nat.ne_of_lt (Nat.lt_of_lt_of_le (A5009.keep Kq5012).lt (Nat.le_of_eq g5013.symm))
                have ne5156 : b5009 ≠ b2x4_14c5015 := Nat.ne_of_lt (Nat.lt_of_lt_of_le ((A5009.keep Kq5012).ext E5013).lt sq_b2x4_14c5015)
                have ne5157 : b5009 ≠ b2x5_18c4c5015 := Nat.ne_of_lt (Nat.lt_of_lt_of_le ((A5009.keep Kq5012).ext E5013).lt sq_b2x5_18c4c5015)
                have f5158 := ((((Fc5012_0_1.ext E5013).keep Kq5015 (ninS ne5155 nin0)).keep Kq5084 (ninS ne5157 (ninS ne5156 (ninS ne5155 nin0)))).keep Kq5104 (ninS ne5157 (ninS ne5156 (ninS ne5155 nin0))))
                have f5159 := (((((A5009.keep Kq5012).ext E5013).keep Kq5015).keep Kq5084).keep Kq5104)
                have f5160 := ((((Fc5012_0_0.ext E5013).keep Kq5015 (ninS ne5155 nin0)).keep Kq5084 (ninS ne5157 (ninS ne5156 (ninS ne5155 nin0)))).keep Kq5104 (ninS ne5157 (ninS ne5156 (ninS ne5155 nin0))))
                have f5161 := (f5094.keep Kq5104 (ninS ne5093 (ninS ne5092 (ninS ne5075 nin0))))
                have f5162 := (f5095.keep Kq5104 (ninS ne5093 (ninS ne5092 (ninS ne5075 nin0))))
                have f5163 := (f5096.keep Kq5104)
                have f5164 := (f5089.keep Kq5104 (ninS ne5088 (ninS ne5087 (ninS ne5086 nin0))))
                have f5165 := (f5091.keep Kq5104 (ninS ne5088 (ninS ne5087 (ninS ne5086 nin0))))
                have f5166 := (f5090.keep Kq5104)
                have f5167 := (f5097.keep Kq5104)
                have f5168 := ((((Fc5012_0_3.ext E5013).keep Kq5015 (ninS ne5155 nin0)).keep Kq5084 (ninS ne5157 (ninS ne5156 (ninS ne5155 nin0)))).keep Kq5104 (ninS ne5157 (ninS ne5156 (ninS ne5155 nin0))))
                have ne5169 : b5013 ≠ b6x14_69c4c13c16c2c5084 := Nat.ne_of_lt (Nat.lt_of_lt_of_le f5083.lt sq_b6x14_69c4c13c16c2c5084)
                have ne5170 : b2x4_14c5015 ≠ b6x14_69c4c13c16c2c5084 := Nat.ne_of_lt (Nat.lt_of_lt_of_le Fc5015_0_2.lt sq_b6x14_69c4c13c16c2c5084)
                have ne5171 : b2x5_18c4c5015 ≠ b6x14_69c4c13c16c2c5084 := Nat.ne_of_lt (Nat.lt_of_lt_of_le Fc5015_0_7.lt sq_b6x14_69c4c13c16c2c5084)
                have f5172 := (Fc5084_0_8.keep Kq5104 (ninS (Ne.symm ne5171) (ninS (Ne.symm ne5170) (ninS (Ne.symm ne5169) nin0))))
                have ne5173 : b5013 ≠ b3x14_69c4c13c16c2c5084 := Nat.ne_of_lt (Nat.lt_of_lt_of_le f5083.lt sq_b3x14_69c4c13c16c2c5084)
                have ne5174 : b2x4_14c5015 ≠ b3x14_69c4c13c16c2c5084 := Nat.ne_of_lt (Nat.lt_of_lt_of_le Fc5015_0_2.lt sq_b3x14_69c4c13c16c2c5084)
                have ne5175 : b2x5_18c4c5015 ≠ b3x14_69c4c13c16c2c5084 := Nat.ne_of_lt (Nat.lt_of_lt_of_le Fc5015_0_7.lt sq_b3x14_69c4c13c16c2c5084)
                have f5176 := (Fc5084_0_9.keep Kq5104 (ninS (Ne.symm ne5175) (ninS (Ne.symm ne5174) (ninS (Ne.symm ne5173) nin0))))
                have ne5177 : w_NONE ≠ b5013 := Nat.ne_of_lt (Nat.lt_of_lt_of_le P1.lt sz_b5013)
                have ne5178 : w_NONE ≠ b2x4_14c5015 := Nat.ne_of_lt (Nat.lt_of_lt_of_le P1.lt sz_b2x4_14c5015)
                have ne5179 : w_NONE ≠ b2x5_18c4c5015 := Nat.ne_of_lt (Nat.lt_of_lt_of_le P1.lt sz_b2x5_18c4c5015)
                have f5180 := (f5099.keep Kq5104 (ninS ne5179 (ninS ne5178 (ninS ne5177 nin0))))
                have ne5181 : w_NONE_names ≠ b5013 := Nat.ne_of_lt (Nat.lt_of_lt_of_le P7.lt sz_b5013)
                have ne5182 : w_NONE_names ≠ b2x4_14c5015 := Nat.ne_of_lt (Nat.lt_of_lt_of_le P7.lt sz_b2x4_14c5015)
                have ne5183 : w_NONE_names ≠ b2x5_18c4c5015 := Nat.ne_of_lt (Nat.lt_of_lt_of_le P7.lt sz_b2x5_18c4c5015)
                have f5184 := (f5100.keep Kq5104 (ninS ne5183 (ninS ne5182 (ninS ne5181 nin0))))
                have f5185 := (f5101.keep Kq5104)
                have f5186 := (Fc5084_0_7.keep Kq5104)
                have f5187 := (f5102.keep Kq5104)
                have f5188 := (f5103.keep Kq5104)
                obtain ⟨cq5189, kq5189, q5189a, q5189b, q5189c⟩ := isOf hZ rfl f5188
                obtain ⟨_, _, ⟨T5189, L5189, k5189, n5189⟩, -, X5189, ⟨Lc5189, hQ5189, l5189, y5189, z5189⟩, st5189⟩ := X5104.virtualBack hx (y := own_y2) (z := own_y2) hown (mvT hZ (own_w hw 63 rfl)) (mvT hZ (own_w hw 64 rfl)) (notFace_of_selects (args := #[]) (mvT hZ (own_w hw 66 rfl))) (mvT hZ (own_w hw 66 rfl)) (mvT hZ (own_w hw 65 rfl)) (by decide) (backOf (W := 0) (own_rm8_119 l Z a0 hw [] b5013 b5009 b2x4_14c5015 b2x5_18c4c5015 k2x5_18c4c5015c2c5044c2c5104 b5005 b5001 j14 j18 jp1 jp4 j12 j16 w_NONE b6x14_69c4c13c16c2c5084 b3x14_69c4c13c16c2c5084 k3x14_69c4c13c16c2c5084 w_NONE_names k_w_NONE_names T5104.heap n0 Z5104 Fc5104_1_5 Fc5104_1_1 Fc5104_1_2 Fc5104_1_0 OFc5104_1_0 f5158 f5159 f5160 f5161 f5162 f5163 f5164 f5165 f5166 f5167 f5168 Fc5104_1_3 f5172 f5176 OFc5084_0_9 f5180 f5184 f5185 f5186 Fc5104_1_4 f5187 g_b2x4_14c5015 g_b2x5_18c4c5015 Fc5104_1_6 f5188 g_b5013) hZ (own_w hw 67 rfl) (own_w hw 28 rfl) (by decide) (by decide)) q5189a q5189c (g := (mkF m 160 #[.val (.int ip0), .val (.long jp1), .second, .val (.long jp2), .second, .val (.long jp3), .second, .val (.long jp4), .second, .val (.long jp5), .second, .val (.int (3 : Int32)), .val (.long j12), .second, .val (.long j14), .second, .val (.long j16), .second, .val (.long j18), .second, .val (.ref b5001), .val (.ref b5005), .val (.ref b5009), .val (.ref b5013), .unset, .unset, .unset, .unset, .unset] [(.ref b5009), (.ref b5013)])) rfl (by rw [hml]; rfl) (Steps.refl _) (argsL := [(.ref b5009)]) (rest := []) (lenOf own_pd12 rfl) rfl (by show 2 * 0 + _ ≤ _; exact Nat.le_of_eq rfl) (hb hby at_160) (fun _ _ => ⟨rfl, rfl, (by decide : 8 + 0 ≤ _), (by decide : 84 + 0 ≤ _)⟩)
                dsimp only [Pt.U, Pt.locs, Pt.cells, Pt.slots] at X5189 l5189 y5189 z5189 st5189 hQ5189
                subst l5189 y5189 z5189
                obtain ⟨N5189q, Kq5189, hL5189⟩ := hQ5189
                have N5189 := Fr.app N5104 N5189q
                have K5189 : Keep h0 T5189.heap [] := K5104.trans Kq5189 (allS (Or.inr sz_b2x5_18c4c5015) (allS (Or.inr sz_b2x4_14c5015) (allS (Or.inr sz_b5013) all0)))
                have Z5189 := Nat.le_trans Z5104 Kq5189.1
                rcases hL5189 with ⟨k2x5_18c4c5015c2c5044c2c5104c2c5189, rfl, hq5189_0_0, Fc5189_0_0, OFc5189_0_0, Fc5189_0_1, Fc5189_0_2, Fc5189_0_3, Fc5189_0_4, Fc5189_0_5, Fc5189_0_6, -⟩ | ⟨k2x5_18c4c5015c2c5044c2c5104c2c5189, rfl, hq5189_1_0, hq5189_1_1, Fc5189_1_0, OFc5189_1_0, Fc5189_1_1, Fc5189_1_2, Fc5189_1_3, Fc5189_1_4, Fc5189_1_5, Fc5189_1_6, -⟩ | ⟨k2x5_18c4c5015c2c5044c2c5104c2c5189, rfl, hq5189_2_0, hq5189_2_1, Fc5189_2_0, OFc5189_2_0, Fc5189_2_1, Fc5189_2_2, Fc5189_2_3, Fc5189_2_4, Fc5189_2_5, Fc5189_2_6, -⟩
                · skip
                  refine own_st (fun t k => st5189.trans k) ?_
                  refine own_st (fun t k => XS.aconstNull X5189.here hx rfl (hb hby at_163) k) ?_
                  refine own_st (fun t k => XS.astore X5189.here hx rfl (hb hby at_164) rfl rfl (l' := #[.val (.int ip0), .val (.long jp1), .second, .val (.long jp2), .second, .val (.long jp3), .second, .val (.long jp4), .second, .val (.long jp5), .second, .val (.int (3 : Int32)), .val (.long j12), .second, .val (.long j14), .second, .val (.long j16), .second, .val (.long j18), .second, .val (.ref b5001), .val (.ref b5005), .val (.ref b5009), .val (.ref b5013), .val .null, .unset, .unset, .unset, .unset]) rfl k) ?_
                  show own_Go _ _ _ _ T5189 (mkF m 166 #[.val (.int ip0), .val (.long jp1), .second, .val (.long jp2), .second, .val (.long jp3), .second, .val (.long jp4), .second, .val (.long jp5), .second, .val (.int (3 : Int32)), .val (.long j12), .second, .val (.long j14), .second, .val (.long j16), .second, .val (.long j18), .second, .val (.ref b5001), .val (.ref b5005), .val (.ref b5009), .val (.ref b5013), .val .null, .unset, .unset, .unset, .unset] [])
                  refine own_st (fun t k => XS.lconst X5189.here hx rfl (hb hby at_166) k) ?_
                  refine own_st (fun t k => XS.lstore X5189.here hx rfl (hb hby at_167) rfl (l' := #[.val (.int ip0), .val (.long jp1), .second, .val (.long jp2), .second, .val (.long jp3), .second, .val (.long jp4), .second, .val (.long jp5), .second, .val (.int (3 : Int32)), .val (.long j12), .second, .val (.long j14), .second, .val (.long j16), .second, .val (.long j18), .second, .val (.ref b5001), .val (.ref b5005), .val (.ref b5009), .val (.ref b5013), .val .null, .val (.long (0 : Int64)), .second, .unset, .unset]) rfl k) ?_
                  refine own_st (fun t k => XS.lconst X5189.here hx rfl (hb hby at_169) k) ?_
                  refine own_st (fun t k => XS.lstore X5189.here hx rfl (hb hby at_170) rfl (l' := #[.val (.int ip0), .val (.long jp1), .second, .val (.long jp2), .second, .val (.long jp3), .second, .val (.long jp4), .second, .val (.long jp5), .second, .val (.int (3 : Int32)), .val (.long j12), .second, .val (.long j14), .second, .val (.long j16), .second, .val (.long j18), .second, .val (.ref b5001), .val (.ref b5005), .val (.ref b5009), .val (.ref b5013), .val .null, .val (.long (0 : Int64)), .second, .val (.long (0 : Int64)), .second]) rfl k) ?_
                  show own_Go _ _ _ _ T5189 (mkF m 172 #[.val (.int ip0), .val (.long jp1), .second, .val (.long jp2), .second, .val (.long jp3), .second, .val (.long jp4), .second, .val (.long jp5), .second, .val (.int (3 : Int32)), .val (.long j12), .second, .val (.long j14), .second, .val (.long j16), .second, .val (.long j18), .second, .val (.ref b5001), .val (.ref b5005), .val (.ref b5009), .val (.ref b5013), .val .null, .val (.long (0 : Int64)), .second, .val (.long (0 : Int64)), .second] [])
                  refine own_st (fun t k => XS.iload X5189.here hx rfl (hb hby at_172) rfl k) ?_
                  refine own_st (fun t k => XS.iconst X5189.here hx rfl (hb hby at_174) k) ?_
                  show own_Go _ _ _ _ T5189 (mkF m 175 #[.val (.int ip0), .val (.long jp1), .second, .val (.long jp2), .second, .val (.long jp3), .second, .val (.long jp4), .second, .val (.long jp5), .second, .val (.int (3 : Int32)), .val (.long j12), .second, .val (.long j14), .second, .val (.long j16), .second, .val (.long j18), .second, .val (.ref b5001), .val (.ref b5005), .val (.ref b5009), .val (.ref b5013), .val .null, .val (.long (0 : Int64)), .second, .val (.long (0 : Int64)), .second] [(.int (1 : Int32)), (.int (3 : Int32))])
                  refine own_st (fun t k => XS.icmpNo X5189.here hx rfl (hb hby at_175) rfl (flt (by decide : ¬ ((3 : Int32) < (1 : Int32)))).1 k) ?_
                  refine own_st (fun t k => XS.aload X5189.here hx rfl (hb hby at_178) rfl rfl k) ?_
                  show own_Go _ _ _ _ T5189 (mkF m 180 #[.val (.int ip0), .val (.long jp1), .second, .val (.long jp2), .second, .val (.long jp3), .second, .val (.long jp4), .second, .val (.long jp5), .second, .val (.int (3 : Int32)), .val (.long j12), .second, .val (.long j14), .second, .val (.long j16), .second, .val (.long j18), .second, .val (.ref b5001), .val (.ref b5005), .val (.ref b5009), .val (.ref b5013), .val .null, .val (.long (0 : Int64)), .second, .val (.long (0 : Int64)), .second] [(.ref b5001)])
                  refine own_st (fun t k => XS.astore X5189.here hx rfl (hb hby at_180) rfl rfl (l' := #[.val (.int ip0), .val (.long jp1), .second, .val (.long jp2), .second, .val (.long jp3), .second, .val (.long jp4), .second, .val (.long jp5), .second, .val (.int (3 : Int32)), .val (.long j12), .second, .val (.long j14), .second, .val (.long j16), .second, .val (.long j18), .second, .val (.ref b5001), .val (.ref b5005), .val (.ref b5009), .val (.ref b5013), .val (.ref b5001), .val (.long (0 : Int64)), .second, .val (.long (0 : Int64)), .second]) rfl k) ?_
                  refine own_st (fun t k => XS.lloadN X5189.here hx rfl (hb hby at_182) rfl k) ?_
                  refine own_st (fun t k => XS.lstore X5189.here hx rfl (hb hby at_183) rfl (l' := #[.val (.int ip0), .val (.long jp1), .second, .val (.long jp2), .second, .val (.long jp3), .second, .val (.long jp4), .second, .val (.long jp5), .second, .val (.int (3 : Int32)), .val (.long j12), .second, .val (.long j14), .second, .val (.long j16), .second, .val (.long j18), .second, .val (.ref b5001), .val (.ref b5005), .val (.ref b5009), .val (.ref b5013), .val (.ref b5001), .val (.long jp1), .second, .val (.long (0 : Int64)), .second]) rfl k) ?_
                  refine own_st (fun t k => XS.lload X5189.here hx rfl (hb hby at_185) rfl k) ?_
                  show own_Go _ _ _ _ T5189 (mkF m 187 #[.val (.int ip0), .val (.long jp1), .second, .val (.long jp2), .second, .val (.long jp3), .second, .val (.long jp4), .second, .val (.long jp5), .second, .val (.int (3 : Int32)), .val (.long j12), .second, .val (.long j14), .second, .val (.long j16), .second, .val (.long j18), .second, .val (.ref b5001), .val (.ref b5005), .val (.ref b5009), .val (.ref b5013), .val (.ref b5001), .val (.long jp1), .second, .val (.long (0 : Int64)), .second] [(.long jp4)])
                  refine own_st (fun t k => XS.lstore X5189.here hx rfl (hb hby at_187) rfl (l' := #[.val (.int ip0), .val (.long jp1), .second, .val (.long jp2), .second, .val (.long jp3), .second, .val (.long jp4), .second, .val (.long jp5), .second, .val (.int (3 : Int32)), .val (.long j12), .second, .val (.long j14), .second, .val (.long j16), .second, .val (.long j18), .second, .val (.ref b5001), .val (.ref b5005), .val (.ref b5009), .val (.ref b5013), .val (.ref b5001), .val (.long jp1), .second, .val (.long jp4), .second]) rfl k) ?_
                  refine own_st (fun t k => XS.iload X5189.here hx rfl (hb hby at_189) rfl k) ?_
                  refine own_st (fun t k => XS.iconst X5189.here hx rfl (hb hby at_191) k) ?_
                  show own_Go _ _ _ _ T5189 (mkF m 192 #[.val (.int ip0), .val (.long jp1), .second, .val (.long jp2), .second, .val (.long jp3), .second, .val (.long jp4), .second, .val (.long jp5), .second, .val (.int (3 : Int32)), .val (.long j12), .second, .val (.long j14), .second, .val (.long j16), .second, .val (.long j18), .second, .val (.ref b5001), .val (.ref b5005), .val (.ref b5009), .val (.ref b5013), .val (.ref b5001), .val (.long jp1), .second, .val (.long jp4), .second] [(.int (2 : Int32)), (.int (3 : Int32))])
                  refine own_st (fun t k => XS.icmpNo X5189.here hx rfl (hb hby at_192) rfl (flt (by decide : ¬ ((3 : Int32) < (2 : Int32)))).1 k) ?_
                  show own_Go _ _ _ _ T5189 (mkF m 195 #[.val (.int ip0), .val (.long jp1), .second, .val (.long jp2), .second, .val (.long jp3), .second, .val (.long jp4), .second, .val (.long jp5), .second, .val (.int (3 : Int32)), .val (.long j12), .second, .val (.long j14), .second, .val (.long j16), .second, .val (.long j18), .second, .val (.ref b5001), .val (.ref b5005), .val (.ref b5009), .val (.ref b5013), .val (.ref b5001), .val (.long jp1), .second, .val (.long jp4), .second] [])
                  refine own_st (fun t k => XS.lload X5189.here hx rfl (hb hby at_195) rfl k) ?_
                  refine own_st (fun t k => XS.lload X5189.here hx rfl (hb hby at_197) rfl k) ?_
                  refine own_st (fun t k => XS.lload X5189.here hx rfl (hb hby at_199) rfl k) ?_
                  refine own_st (fun t k => XS.lload X5189.here hx rfl (hb hby at_201) rfl k) ?_
                  show own_Go _ _ _ _ T5189 (mkF m 203 #[.val (.int ip0), .val (.long jp1), .second, .val (.long jp2), .second, .val (.long jp3), .second, .val (.long jp4), .second, .val (.long jp5), .second, .val (.int (3 : Int32)), .val (.long j12), .second, .val (.long j14), .second, .val (.long j16), .second, .val (.long j18), .second, .val (.ref b5001), .val (.ref b5005), .val (.ref b5009), .val (.ref b5013), .val (.ref b5001), .val (.long jp1), .second, .val (.long jp4), .second] [(.long jp4), (.long jp1), (.long j16), (.long j12)])
                  obtain ⟨_, _, ⟨T5190, L5190, k5190, n5190⟩, -, X5190, ⟨Lc5190, hQ5190, l5190, y5190, z5190⟩, st5190⟩ := Jvm.LawKit.callS X5189 hx (y := own_y3) hown (mvT hZ (own_w hw 145 rfl)) (mvT hZ (own_w hw 146 rfl)) (mvT hZ (own_w hw 147 rfl)) (mvT hZ (own_w hw 148 rfl)) (by decide) (backOf (W := 0) (own_rm21 l Z a0 hw [] j12 j16 jp1 jp4 T5189.heap n0 Z5189 ) hZ (own_w hw 148 rfl) (own_w hw 147 rfl) (by decide) (by decide)) (g := (mkF m 203 #[.val (.int ip0), .val (.long jp1), .second, .val (.long jp2), .second, .val (.long jp3), .second, .val (.long jp4), .second, .val (.long jp5), .second, .val (.int (3 : Int32)), .val (.long j12), .second, .val (.long j14), .second, .val (.long j16), .second, .val (.long j18), .second, .val (.ref b5001), .val (.ref b5005), .val (.ref b5009), .val (.ref b5013), .val (.ref b5001), .val (.long jp1), .second, .val (.long jp4), .second] [(.long jp4), (.long jp1), (.long j16), (.long j12)])) rfl (by rw [hml]; rfl) (argsL := [(.long j12), (.long j16), (.long jp1), (.long jp4)]) (rest := []) (lenOf own_pd16 rfl) rfl (by show 2 * 0 + _ ≤ _; exact Nat.le_of_eq rfl) (hb hby at_203) (fun _ _ => ⟨rfl, rfl, (by decide : 8 + 0 ≤ _), (by decide : 84 + 0 ≤ _)⟩)
                  dsimp only [Pt.U, Pt.locs, Pt.cells, Pt.slots] at X5190 l5190 y5190 z5190 st5190 hQ5190
                  subst l5190 y5190 z5190
                  obtain ⟨N5190q, e5190, hL5190⟩ := hQ5190
                  have N5190 := Fr.app N5189 N5190q
                  rcases hL5190 with ⟨rfl, hq5190_0_0, -⟩ | ⟨rfl, hq5190_1_0, -⟩
                  · skip
                    exact absurd hq5190_0_0 hq5104_1_0
                  · skip
                    refine own_st st5190 ?_
                    show own_Go _ _ _ _ T5190 (mkF m 206 #[.val (.int ip0), .val (.long jp1), .second, .val (.long jp2), .second, .val (.long jp3), .second, .val (.long jp4), .second, .val (.long jp5), .second, .val (.int (3 : Int32)), .val (.long j12), .second, .val (.long j14), .second, .val (.long j16), .second, .val (.long j18), .second, .val (.ref b5001), .val (.ref b5005), .val (.ref b5009), .val (.ref b5013), .val (.ref b5001), .val (.long jp1), .second, .val (.long jp4), .second] [(.int (0 : Int32))])
                    refine own_st (fun t k => XS.ifYes X5190.here hx rfl (pc0 := 206) (pc' := 221) rfl (hb hby at_206) rfl ((if0 _ _).trans (teq (by decide : (0 : Int32) = (0 : Int32))).1) (by decide) (by decide) k) ?_
                    refine own_st (fun t k => XS.iload X5190.here hx rfl (hb hby at_221) rfl k) ?_
                    refine own_st (fun t k => XS.iconst X5190.here hx rfl (hb hby at_223) k) ?_
                    show own_Go _ _ _ _ T5190 (mkF m 224 #[.val (.int ip0), .val (.long jp1), .second, .val (.long jp2), .second, .val (.long jp3), .second, .val (.long jp4), .second, .val (.long jp5), .second, .val (.int (3 : Int32)), .val (.long j12), .second, .val (.long j14), .second, .val (.long j16), .second, .val (.long j18), .second, .val (.ref b5001), .val (.ref b5005), .val (.ref b5009), .val (.ref b5013), .val (.ref b5001), .val (.long jp1), .second, .val (.long jp4), .second] [(.int (3 : Int32)), (.int (3 : Int32))])
                    refine own_st (fun t k => XS.icmpNo X5190.here hx rfl (hb hby at_224) rfl (flt (by decide : ¬ ((3 : Int32) < (3 : Int32)))).1 k) ?_
                    refine own_st (fun t k => XS.lload X5190.here hx rfl (hb hby at_227) rfl k) ?_
                    refine own_st (fun t k => XS.lload X5190.here hx rfl (hb hby at_229) rfl k) ?_
                    refine own_st (fun t k => XS.lload X5190.here hx rfl (hb hby at_231) rfl k) ?_
                    show own_Go _ _ _ _ T5190 (mkF m 233 #[.val (.int ip0), .val (.long jp1), .second, .val (.long jp2), .second, .val (.long jp3), .second, .val (.long jp4), .second, .val (.long jp5), .second, .val (.int (3 : Int32)), .val (.long j12), .second, .val (.long j14), .second, .val (.long j16), .second, .val (.long j18), .second, .val (.ref b5001), .val (.ref b5005), .val (.ref b5009), .val (.ref b5013), .val (.ref b5001), .val (.long jp1), .second, .val (.long jp4), .second] [(.long jp1), (.long j18), (.long j14)])
                    refine own_st (fun t k => XS.lload X5190.here hx rfl (hb hby at_233) rfl k) ?_
                    show own_Go _ _ _ _ T5190 (mkF m 235 #[.val (.int ip0), .val (.long jp1), .second, .val (.long jp2), .second, .val (.long jp3), .second, .val (.long jp4), .second, .val (.long jp5), .second, .val (.int (3 : Int32)), .val (.long j12), .second, .val (.long j14), .second, .val (.long j16), .second, .val (.long j18), .second, .val (.ref b5001), .val (.ref b5005), .val (.ref b5009), .val (.ref b5013), .val (.ref b5001), .val (.long jp1), .second, .val (.long jp4), .second] [(.long jp4), (.long jp1), (.long j18), (.long j14)])
                    obtain ⟨_, _, ⟨T5191, L5191, k5191, n5191⟩, -, X5191, ⟨Lc5191, hQ5191, l5191, y5191, z5191⟩, st5191⟩ := Jvm.LawKit.callS X5190 hx (y := own_y3) hown (mvT hZ (own_w hw 145 rfl)) (mvT hZ (own_w hw 146 rfl)) (mvT hZ (own_w hw 147 rfl)) (mvT hZ (own_w hw 148 rfl)) (by decide) (backOf (W := 0) (own_rm21 l Z a0 hw [] j14 j18 jp1 jp4 T5189.heap n0 Z5189 ) hZ (own_w hw 148 rfl) (own_w hw 147 rfl) (by decide) (by decide)) (g := (mkF m 235 #[.val (.int ip0), .val (.long jp1), .second, .val (.long jp2), .second, .val (.long jp3), .second, .val (.long jp4), .second, .val (.long jp5), .second, .val (.int (3 : Int32)), .val (.long j12), .second, .val (.long j14), .second, .val (.long j16), .second, .val (.long j18), .second, .val (.ref b5001), .val (.ref b5005), .val (.ref b5009), .val (.ref b5013), .val (.ref b5001), .val (.long jp1), .second, .val (.long jp4), .second] [(.long jp4), (.long jp1), (.long j18), (.long j14)])) rfl (by rw [hml]; rfl) (argsL := [(.long j14), (.long j18), (.long jp1), (.long jp4)]) (rest := []) (lenOf own_pd16 rfl) rfl (by show 2 * 0 + _ ≤ _; exact Nat.le_of_eq rfl) (hb hby at_235) (fun _ _ => ⟨rfl, e5190, (by decide : 8 + 0 ≤ _), (by decide : 84 + 0 ≤ _)⟩)
                    dsimp only [Pt.U, Pt.locs, Pt.cells, Pt.slots] at X5191 l5191 y5191 z5191 st5191 hQ5191
                    subst l5191 y5191 z5191
                    obtain ⟨N5191q, e5191, hL5191⟩ := hQ5191
                    have N5191 := Fr.app N5190 N5191q
                    rcases hL5191 with ⟨rfl, hq5191_0_0, -⟩ | ⟨rfl, hq5191_1_0, -⟩
                    · skip
                      refine own_st st5191 ?_
                      show own_Go _ _ _ _ T5191 (mkF m 238 #[.val (.int ip0), .val (.long jp1), .second, .val (.long jp2), .second, .val (.long jp3), .second, .val (.long jp4), .second, .val (.long jp5), .second, .val (.int (3 : Int32)), .val (.long j12), .second, .val (.long j14), .second, .val (.long j16), .second, .val (.long j18), .second, .val (.ref b5001), .val (.ref b5005), .val (.ref b5009), .val (.ref b5013), .val (.ref b5001), .val (.long jp1), .second, .val (.long jp4), .second] [(.int (1 : Int32))])
                      refine own_st (fun t k => XS.ifNo X5191.here hx rfl (hb hby at_238) rfl ((if0 _ _).trans (feq (by decide : ¬ ((1 : Int32) = (0 : Int32)))).1) k) ?_
                      refine own_st (fun t k => XS.aload X5191.here hx rfl (hb hby at_241) rfl rfl k) ?_
                      show own_Go _ _ _ _ T5191 (mkF m 243 #[.val (.int ip0), .val (.long jp1), .second, .val (.long jp2), .second, .val (.long jp3), .second, .val (.long jp4), .second, .val (.long jp5), .second, .val (.int (3 : Int32)), .val (.long j12), .second, .val (.long j14), .second, .val (.long j16), .second, .val (.long j18), .second, .val (.ref b5001), .val (.ref b5005), .val (.ref b5009), .val (.ref b5013), .val (.ref b5001), .val (.long jp1), .second, .val (.long jp4), .second] [(.ref b5009)])
                      refine own_st (fun t k => XS.astore X5191.here hx rfl (hb hby at_243) rfl rfl (l' := #[.val (.int ip0), .val (.long jp1), .second, .val (.long jp2), .second, .val (.long jp3), .second, .val (.long jp4), .second, .val (.long jp5), .second, .val (.int (3 : Int32)), .val (.long j12), .second, .val (.long j14), .second, .val (.long j16), .second, .val (.long j18), .second, .val (.ref b5001), .val (.ref b5005), .val (.ref b5009), .val (.ref b5013), .val (.ref b5009), .val (.long jp1), .second, .val (.long jp4), .second]) rfl k) ?_
                      refine own_st (fun t k => XS.aload X5191.here hx rfl (hb hby at_245) rfl rfl k) ?_
                      show own_Go _ _ _ _ T5191 (mkF m 247 #[.val (.int ip0), .val (.long jp1), .second, .val (.long jp2), .second, .val (.long jp3), .second, .val (.long jp4), .second, .val (.long jp5), .second, .val (.int (3 : Int32)), .val (.long j12), .second, .val (.long j14), .second, .val (.long j16), .second, .val (.long j18), .second, .val (.ref b5001), .val (.ref b5005), .val (.ref b5009), .val (.ref b5013), .val (.ref b5009), .val (.long jp1), .second, .val (.long jp4), .second] [(.ref b5013)])
                      have f5192 := (f5167.keep Kq5189)
                      have f5194 := (f5188.keep Kq5189)
                      obtain ⟨cq5193, kq5193, q5193a, q5193b, q5193c⟩ := isOf hZ e5191 f5194
                      obtain ⟨_, _, ⟨T5193, L5193, k5193, n5193⟩, -, X5193, ⟨Lc5193, hQ5193, l5193, y5193, z5193⟩, st5193⟩ := X5191.virtualBack hx (y := own_y1) (z := own_y1) hown (mvT hZ (own_w hw 56 rfl)) (mvT hZ (own_w hw 57 rfl)) (notFace_of_selects (args := #[]) (mvT hZ (own_w hw 59 rfl))) (mvT hZ (own_w hw 59 rfl)) (mvT hZ (own_w hw 58 rfl)) (by decide) (backOf (W := 0) (own_rm7_128 l Z a0 hw [] b5013 b2x4_14c5015 b2x5_18c4c5015 k2x5_18c4c5015c2c5044c2c5104c2c5189 b5005 b5001 b5009 T5189.heap n0 Z5189 Fc5189_0_6 Fc5189_0_5 Fc5189_0_2 Fc5189_0_1 Fc5189_0_0 OFc5189_0_0 f5192) hZ (own_w hw 60 rfl) (own_w hw 28 rfl) (by decide) (by decide)) q5193a q5193c (g := (mkF m 247 #[.val (.int ip0), .val (.long jp1), .second, .val (.long jp2), .second, .val (.long jp3), .second, .val (.long jp4), .second, .val (.long jp5), .second, .val (.int (3 : Int32)), .val (.long j12), .second, .val (.long j14), .second, .val (.long j16), .second, .val (.long j18), .second, .val (.ref b5001), .val (.ref b5005), .val (.ref b5009), .val (.ref b5013), .val (.ref b5009), .val (.long jp1), .second, .val (.long jp4), .second] [(.ref b5013)])) rfl (by rw [hml]; rfl) (Steps.refl _) (argsL := []) (rest := []) (lenOf own_pd3 rfl) rfl (by show 2 * 0 + _ ≤ _; exact Nat.le_of_eq rfl) (hb hby at_247) (fun _ _ => ⟨rfl, e5191, (by decide : 8 + 0 ≤ _), (by decide : 84 + 0 ≤ _)⟩)
                      dsimp only [Pt.U, Pt.locs, Pt.cells, Pt.slots] at X5193 l5193 y5193 z5193 st5193 hQ5193
                      subst l5193 y5193 z5193
                      obtain ⟨N5193q, Kq5193, hL5193⟩ := hQ5193
                      have N5193 := Fr.app N5191 N5193q
                      have K5193 : Keep h0 T5193.heap [] := K5189.trans Kq5193 all0
                      have Z5193 := Nat.le_trans Z5189 Kq5193.1
                      rcases hL5193 with ⟨rfl, -⟩
                      · skip
                        refine own_st (fun t k => st5193.trans k) ?_
                        refine own_st (fun t k => XS.aload X5193.here hx rfl (hb hby at_250) rfl rfl k) ?_
                        show own_Go _ _ _ _ T5193 (mkF m 252 #[.val (.int ip0), .val (.long jp1), .second, .val (.long jp2), .second, .val (.long jp3), .second, .val (.long jp4), .second, .val (.long jp5), .second, .val (.int (3 : Int32)), .val (.long j12), .second, .val (.long j14), .second, .val (.long j16), .second, .val (.long j18), .second, .val (.ref b5001), .val (.ref b5005), .val (.ref b5009), .val (.ref b5013), .val (.ref b5009), .val (.long jp1), .second, .val (.long jp4), .second] [(.ref b5009), (.ref b5009)])
                        refine own_st (fun t k => Jvm.RoadKit.acmp (g := (mkF m 252 #[.val (.int ip0), .val (.long jp1), .second, .val (.long jp2), .second, .val (.long jp3), .second, .val (.long jp4), .second, .val (.long jp5), .second, .val (.int (3 : Int32)), .val (.long j12), .second, .val (.long j14), .second, .val (.long j16), .second, .val (.long j18), .second, .val (.ref b5001), .val (.ref b5005), .val (.ref b5009), .val (.ref b5013), .val (.ref b5009), .val (.long jp1), .second, .val (.long jp4), .second] [(.ref b5009), (.ref b5009)])) X5193 hx rfl rfl rfl (pc0 := 252) (pc' := 255) (same := true) rfl (hb hby at_252) rfl (decide_eq_true (congrArg Value.ref (rfl : b5009 = b5009))) (by decide) (by decide) k) ?_
                        refine own_st (fun t k => XS.iconst X5193.here hx rfl (hb hby at_255) k) ?_
                        refine own_st (fun t k => XS.goto X5193.here hx rfl (pc0 := 256) (pc' := 260) rfl (hb hby at_256) (by decide) (by decide) k) ?_
                        show own_Go _ _ _ _ T5193 (mkF m 260 #[.val (.int ip0), .val (.long jp1), .second, .val (.long jp2), .second, .val (.long jp3), .second, .val (.long jp4), .second, .val (.long jp5), .second, .val (.int (3 : Int32)), .val (.long j12), .second, .val (.long j14), .second, .val (.long j16), .second, .val (.long j18), .second, .val (.ref b5001), .val (.ref b5005), .val (.ref b5009), .val (.ref b5013), .val (.ref b5009), .val (.long jp1), .second, .val (.long jp4), .second] [(.int (1 : Int32))])
                        exact own_retZ X5193 hx hlk (t := .boolean) hret (by simp) (hb hby at_260) (by decide) (by decide) rfl ⟨rfl, N5193⟩
                    · skip
                      exact absurd hq5189_0_0 hq5191_1_0
                · skip
                  refine own_st (fun t k => st5189.trans k) ?_
                  show own_Go _ _ _ _ T5189 (mkF m 163 #[.val (.int ip0), .val (.long jp1), .second, .val (.long jp2), .second, .val (.long jp3), .second, .val (.long jp4), .second, .val (.long jp5), .second, .val (.int (3 : Int32)), .val (.long j12), .second, .val (.long j14), .second, .val (.long j16), .second, .val (.long j18), .second, .val (.ref b5001), .val (.ref b5005), .val (.ref b5009), .val (.ref b5013), .unset, .unset, .unset, .unset, .unset] [])
                  refine own_st (fun t k => XS.aconstNull X5189.here hx rfl (hb hby at_163) k) ?_
                  refine own_st (fun t k => XS.astore X5189.here hx rfl (hb hby at_164) rfl rfl (l' := #[.val (.int ip0), .val (.long jp1), .second, .val (.long jp2), .second, .val (.long jp3), .second, .val (.long jp4), .second, .val (.long jp5), .second, .val (.int (3 : Int32)), .val (.long j12), .second, .val (.long j14), .second, .val (.long j16), .second, .val (.long j18), .second, .val (.ref b5001), .val (.ref b5005), .val (.ref b5009), .val (.ref b5013), .val .null, .unset, .unset, .unset, .unset]) rfl k) ?_
                  refine own_st (fun t k => XS.lconst X5189.here hx rfl (hb hby at_166) k) ?_
                  refine own_st (fun t k => XS.lstore X5189.here hx rfl (hb hby at_167) rfl (l' := #[.val (.int ip0), .val (.long jp1), .second, .val (.long jp2), .second, .val (.long jp3), .second, .val (.long jp4), .second, .val (.long jp5), .second, .val (.int (3 : Int32)), .val (.long j12), .second, .val (.long j14), .second, .val (.long j16), .second, .val (.long j18), .second, .val (.ref b5001), .val (.ref b5005), .val (.ref b5009), .val (.ref b5013), .val .null, .val (.long (0 : Int64)), .second, .unset, .unset]) rfl k) ?_
                  show own_Go _ _ _ _ T5189 (mkF m 169 #[.val (.int ip0), .val (.long jp1), .second, .val (.long jp2), .second, .val (.long jp3), .second, .val (.long jp4), .second, .val (.long jp5), .second, .val (.int (3 : Int32)), .val (.long j12), .second, .val (.long j14), .second, .val (.long j16), .second, .val (.long j18), .second, .val (.ref b5001), .val (.ref b5005), .val (.ref b5009), .val (.ref b5013), .val .null, .val (.long (0 : Int64)), .second, .unset, .unset] [])
                  refine own_st (fun t k => XS.lconst X5189.here hx rfl (hb hby at_169) k) ?_
                  refine own_st (fun t k => XS.lstore X5189.here hx rfl (hb hby at_170) rfl (l' := #[.val (.int ip0), .val (.long jp1), .second, .val (.long jp2), .second, .val (.long jp3), .second, .val (.long jp4), .second, .val (.long jp5), .second, .val (.int (3 : Int32)), .val (.long j12), .second, .val (.long j14), .second, .val (.long j16), .second, .val (.long j18), .second, .val (.ref b5001), .val (.ref b5005), .val (.ref b5009), .val (.ref b5013), .val .null, .val (.long (0 : Int64)), .second, .val (.long (0 : Int64)), .second]) rfl k) ?_
                  refine own_st (fun t k => XS.iload X5189.here hx rfl (hb hby at_172) rfl k) ?_
                  refine own_st (fun t k => XS.iconst X5189.here hx rfl (hb hby at_174) k) ?_
                  show own_Go _ _ _ _ T5189 (mkF m 175 #[.val (.int ip0), .val (.long jp1), .second, .val (.long jp2), .second, .val (.long jp3), .second, .val (.long jp4), .second, .val (.long jp5), .second, .val (.int (3 : Int32)), .val (.long j12), .second, .val (.long j14), .second, .val (.long j16), .second, .val (.long j18), .second, .val (.ref b5001), .val (.ref b5005), .val (.ref b5009), .val (.ref b5013), .val .null, .val (.long (0 : Int64)), .second, .val (.long (0 : Int64)), .second] [(.int (1 : Int32)), (.int (3 : Int32))])
                  refine own_st (fun t k => XS.icmpNo X5189.here hx rfl (hb hby at_175) rfl (flt (by decide : ¬ ((3 : Int32) < (1 : Int32)))).1 k) ?_
                  refine own_st (fun t k => XS.aload X5189.here hx rfl (hb hby at_178) rfl rfl k) ?_
                  refine own_st (fun t k => XS.astore X5189.here hx rfl (hb hby at_180) rfl rfl (l' := #[.val (.int ip0), .val (.long jp1), .second, .val (.long jp2), .second, .val (.long jp3), .second, .val (.long jp4), .second, .val (.long jp5), .second, .val (.int (3 : Int32)), .val (.long j12), .second, .val (.long j14), .second, .val (.long j16), .second, .val (.long j18), .second, .val (.ref b5001), .val (.ref b5005), .val (.ref b5009), .val (.ref b5013), .val (.ref b5001), .val (.long (0 : Int64)), .second, .val (.long (0 : Int64)), .second]) rfl k) ?_
                  refine own_st (fun t k => XS.lloadN X5189.here hx rfl (hb hby at_182) rfl k) ?_
                  show own_Go _ _ _ _ T5189 (mkF m 183 #[.val (.int ip0), .val (.long jp1), .second, .val (.long jp2), .second, .val (.long jp3), .second, .val (.long jp4), .second, .val (.long jp5), .second, .val (.int (3 : Int32)), .val (.long j12), .second, .val (.long j14), .second, .val (.long j16), .second, .val (.long j18), .second, .val (.ref b5001), .val (.ref b5005), .val (.ref b5009), .val (.ref b5013), .val (.ref b5001), .val (.long (0 : Int64)), .second, .val (.long (0 : Int64)), .second] [(.long jp1)])
                  refine own_st (fun t k => XS.lstore X5189.here hx rfl (hb hby at_183) rfl (l' := #[.val (.int ip0), .val (.long jp1), .second, .val (.long jp2), .second, .val (.long jp3), .second, .val (.long jp4), .second, .val (.long jp5), .second, .val (.int (3 : Int32)), .val (.long j12), .second, .val (.long j14), .second, .val (.long j16), .second, .val (.long j18), .second, .val (.ref b5001), .val (.ref b5005), .val (.ref b5009), .val (.ref b5013), .val (.ref b5001), .val (.long jp1), .second, .val (.long (0 : Int64)), .second]) rfl k) ?_
                  refine own_st (fun t k => XS.lload X5189.here hx rfl (hb hby at_185) rfl k) ?_
                  refine own_st (fun t k => XS.lstore X5189.here hx rfl (hb hby at_187) rfl (l' := #[.val (.int ip0), .val (.long jp1), .second, .val (.long jp2), .second, .val (.long jp3), .second, .val (.long jp4), .second, .val (.long jp5), .second, .val (.int (3 : Int32)), .val (.long j12), .second, .val (.long j14), .second, .val (.long j16), .second, .val (.long j18), .second, .val (.ref b5001), .val (.ref b5005), .val (.ref b5009), .val (.ref b5013), .val (.ref b5001), .val (.long jp1), .second, .val (.long jp4), .second]) rfl k) ?_
                  refine own_st (fun t k => XS.iload X5189.here hx rfl (hb hby at_189) rfl k) ?_
                  show own_Go _ _ _ _ T5189 (mkF m 191 #[.val (.int ip0), .val (.long jp1), .second, .val (.long jp2), .second, .val (.long jp3), .second, .val (.long jp4), .second, .val (.long jp5), .second, .val (.int (3 : Int32)), .val (.long j12), .second, .val (.long j14), .second, .val (.long j16), .second, .val (.long j18), .second, .val (.ref b5001), .val (.ref b5005), .val (.ref b5009), .val (.ref b5013), .val (.ref b5001), .val (.long jp1), .second, .val (.long jp4), .second] [(.int (3 : Int32))])
                  refine own_st (fun t k => XS.iconst X5189.here hx rfl (hb hby at_191) k) ?_
                  show own_Go _ _ _ _ T5189 (mkF m 192 #[.val (.int ip0), .val (.long jp1), .second, .val (.long jp2), .second, .val (.long jp3), .second, .val (.long jp4), .second, .val (.long jp5), .second, .val (.int (3 : Int32)), .val (.long j12), .second, .val (.long j14), .second, .val (.long j16), .second, .val (.long j18), .second, .val (.ref b5001), .val (.ref b5005), .val (.ref b5009), .val (.ref b5013), .val (.ref b5001), .val (.long jp1), .second, .val (.long jp4), .second] [(.int (2 : Int32)), (.int (3 : Int32))])
                  refine own_st (fun t k => XS.icmpNo X5189.here hx rfl (hb hby at_192) rfl (flt (by decide : ¬ ((3 : Int32) < (2 : Int32)))).1 k) ?_
                  refine own_st (fun t k => XS.lload X5189.here hx rfl (hb hby at_195) rfl k) ?_
                  refine own_st (fun t k => XS.lload X5189.here hx rfl (hb hby at_197) rfl k) ?_
                  show own_Go _ _ _ _ T5189 (mkF m 199 #[.val (.int ip0), .val (.long jp1), .second, .val (.long jp2), .second, .val (.long jp3), .second, .val (.long jp4), .second, .val (.long jp5), .second, .val (.int (3 : Int32)), .val (.long j12), .second, .val (.long j14), .second, .val (.long j16), .second, .val (.long j18), .second, .val (.ref b5001), .val (.ref b5005), .val (.ref b5009), .val (.ref b5013), .val (.ref b5001), .val (.long jp1), .second, .val (.long jp4), .second] [(.long j16), (.long j12)])
                  refine own_st (fun t k => XS.lload X5189.here hx rfl (hb hby at_199) rfl k) ?_
                  refine own_st (fun t k => XS.lload X5189.here hx rfl (hb hby at_201) rfl k) ?_
                  show own_Go _ _ _ _ T5189 (mkF m 203 #[.val (.int ip0), .val (.long jp1), .second, .val (.long jp2), .second, .val (.long jp3), .second, .val (.long jp4), .second, .val (.long jp5), .second, .val (.int (3 : Int32)), .val (.long j12), .second, .val (.long j14), .second, .val (.long j16), .second, .val (.long j18), .second, .val (.ref b5001), .val (.ref b5005), .val (.ref b5009), .val (.ref b5013), .val (.ref b5001), .val (.long jp1), .second, .val (.long jp4), .second] [(.long jp4), (.long jp1), (.long j16), (.long j12)])
                  obtain ⟨_, _, ⟨T5195, L5195, k5195, n5195⟩, -, X5195, ⟨Lc5195, hQ5195, l5195, y5195, z5195⟩, st5195⟩ := Jvm.LawKit.callS X5189 hx (y := own_y3) hown (mvT hZ (own_w hw 145 rfl)) (mvT hZ (own_w hw 146 rfl)) (mvT hZ (own_w hw 147 rfl)) (mvT hZ (own_w hw 148 rfl)) (by decide) (backOf (W := 0) (own_rm21 l Z a0 hw [] j12 j16 jp1 jp4 T5189.heap n0 Z5189 ) hZ (own_w hw 148 rfl) (own_w hw 147 rfl) (by decide) (by decide)) (g := (mkF m 203 #[.val (.int ip0), .val (.long jp1), .second, .val (.long jp2), .second, .val (.long jp3), .second, .val (.long jp4), .second, .val (.long jp5), .second, .val (.int (3 : Int32)), .val (.long j12), .second, .val (.long j14), .second, .val (.long j16), .second, .val (.long j18), .second, .val (.ref b5001), .val (.ref b5005), .val (.ref b5009), .val (.ref b5013), .val (.ref b5001), .val (.long jp1), .second, .val (.long jp4), .second] [(.long jp4), (.long jp1), (.long j16), (.long j12)])) rfl (by rw [hml]; rfl) (argsL := [(.long j12), (.long j16), (.long jp1), (.long jp4)]) (rest := []) (lenOf own_pd16 rfl) rfl (by show 2 * 0 + _ ≤ _; exact Nat.le_of_eq rfl) (hb hby at_203) (fun _ _ => ⟨rfl, rfl, (by decide : 8 + 0 ≤ _), (by decide : 84 + 0 ≤ _)⟩)
                  dsimp only [Pt.U, Pt.locs, Pt.cells, Pt.slots] at X5195 l5195 y5195 z5195 st5195 hQ5195
                  subst l5195 y5195 z5195
                  obtain ⟨N5195q, e5195, hL5195⟩ := hQ5195
                  have N5195 := Fr.app N5189 N5195q
                  rcases hL5195 with ⟨rfl, hq5195_0_0, -⟩ | ⟨rfl, hq5195_1_0, -⟩
                  · skip
                    exact absurd hq5195_0_0 hq5104_1_0
                  · skip
                    refine own_st st5195 ?_
                    show own_Go _ _ _ _ T5195 (mkF m 206 #[.val (.int ip0), .val (.long jp1), .second, .val (.long jp2), .second, .val (.long jp3), .second, .val (.long jp4), .second, .val (.long jp5), .second, .val (.int (3 : Int32)), .val (.long j12), .second, .val (.long j14), .second, .val (.long j16), .second, .val (.long j18), .second, .val (.ref b5001), .val (.ref b5005), .val (.ref b5009), .val (.ref b5013), .val (.ref b5001), .val (.long jp1), .second, .val (.long jp4), .second] [(.int (0 : Int32))])
                    refine own_st (fun t k => XS.ifYes X5195.here hx rfl (pc0 := 206) (pc' := 221) rfl (hb hby at_206) rfl ((if0 _ _).trans (teq (by decide : (0 : Int32) = (0 : Int32))).1) (by decide) (by decide) k) ?_
                    show own_Go _ _ _ _ T5195 (mkF m 221 #[.val (.int ip0), .val (.long jp1), .second, .val (.long jp2), .second, .val (.long jp3), .second, .val (.long jp4), .second, .val (.long jp5), .second, .val (.int (3 : Int32)), .val (.long j12), .second, .val (.long j14), .second, .val (.long j16), .second, .val (.long j18), .second, .val (.ref b5001), .val (.ref b5005), .val (.ref b5009), .val (.ref b5013), .val (.ref b5001), .val (.long jp1), .second, .val (.long jp4), .second] [])
                    refine own_st (fun t k => XS.iload X5195.here hx rfl (hb hby at_221) rfl k) ?_
                    refine own_st (fun t k => XS.iconst X5195.here hx rfl (hb hby at_223) k) ?_
                    show own_Go _ _ _ _ T5195 (mkF m 224 #[.val (.int ip0), .val (.long jp1), .second, .val (.long jp2), .second, .val (.long jp3), .second, .val (.long jp4), .second, .val (.long jp5), .second, .val (.int (3 : Int32)), .val (.long j12), .second, .val (.long j14), .second, .val (.long j16), .second, .val (.long j18), .second, .val (.ref b5001), .val (.ref b5005), .val (.ref b5009), .val (.ref b5013), .val (.ref b5001), .val (.long jp1), .second, .val (.long jp4), .second] [(.int (3 : Int32)), (.int (3 : Int32))])
                    refine own_st (fun t k => XS.icmpNo X5195.here hx rfl (hb hby at_224) rfl (flt (by decide : ¬ ((3 : Int32) < (3 : Int32)))).1 k) ?_
                    refine own_st (fun t k => XS.lload X5195.here hx rfl (hb hby at_227) rfl k) ?_
                    show own_Go _ _ _ _ T5195 (mkF m 229 #[.val (.int ip0), .val (.long jp1), .second, .val (.long jp2), .second, .val (.long jp3), .second, .val (.long jp4), .second, .val (.long jp5), .second, .val (.int (3 : Int32)), .val (.long j12), .second, .val (.long j14), .second, .val (.long j16), .second, .val (.long j18), .second, .val (.ref b5001), .val (.ref b5005), .val (.ref b5009), .val (.ref b5013), .val (.ref b5001), .val (.long jp1), .second, .val (.long jp4), .second] [(.long j14)])
                    refine own_st (fun t k => XS.lload X5195.here hx rfl (hb hby at_229) rfl k) ?_
                    refine own_st (fun t k => XS.lload X5195.here hx rfl (hb hby at_231) rfl k) ?_
                    refine own_st (fun t k => XS.lload X5195.here hx rfl (hb hby at_233) rfl k) ?_
                    show own_Go _ _ _ _ T5195 (mkF m 235 #[.val (.int ip0), .val (.long jp1), .second, .val (.long jp2), .second, .val (.long jp3), .second, .val (.long jp4), .second, .val (.long jp5), .second, .val (.int (3 : Int32)), .val (.long j12), .second, .val (.long j14), .second, .val (.long j16), .second, .val (.long j18), .second, .val (.ref b5001), .val (.ref b5005), .val (.ref b5009), .val (.ref b5013), .val (.ref b5001), .val (.long jp1), .second, .val (.long jp4), .second] [(.long jp4), (.long jp1), (.long j18), (.long j14)])
                    obtain ⟨_, _, ⟨T5196, L5196, k5196, n5196⟩, -, X5196, ⟨Lc5196, hQ5196, l5196, y5196, z5196⟩, st5196⟩ := Jvm.LawKit.callS X5195 hx (y := own_y3) hown (mvT hZ (own_w hw 145 rfl)) (mvT hZ (own_w hw 146 rfl)) (mvT hZ (own_w hw 147 rfl)) (mvT hZ (own_w hw 148 rfl)) (by decide) (backOf (W := 0) (own_rm21 l Z a0 hw [] j14 j18 jp1 jp4 T5189.heap n0 Z5189 ) hZ (own_w hw 148 rfl) (own_w hw 147 rfl) (by decide) (by decide)) (g := (mkF m 235 #[.val (.int ip0), .val (.long jp1), .second, .val (.long jp2), .second, .val (.long jp3), .second, .val (.long jp4), .second, .val (.long jp5), .second, .val (.int (3 : Int32)), .val (.long j12), .second, .val (.long j14), .second, .val (.long j16), .second, .val (.long j18), .second, .val (.ref b5001), .val (.ref b5005), .val (.ref b5009), .val (.ref b5013), .val (.ref b5001), .val (.long jp1), .second, .val (.long jp4), .second] [(.long jp4), (.long jp1), (.long j18), (.long j14)])) rfl (by rw [hml]; rfl) (argsL := [(.long j14), (.long j18), (.long jp1), (.long jp4)]) (rest := []) (lenOf own_pd16 rfl) rfl (by show 2 * 0 + _ ≤ _; exact Nat.le_of_eq rfl) (hb hby at_235) (fun _ _ => ⟨rfl, e5195, (by decide : 8 + 0 ≤ _), (by decide : 84 + 0 ≤ _)⟩)
                    dsimp only [Pt.U, Pt.locs, Pt.cells, Pt.slots] at X5196 l5196 y5196 z5196 st5196 hQ5196
                    subst l5196 y5196 z5196
                    obtain ⟨N5196q, e5196, hL5196⟩ := hQ5196
                    have N5196 := Fr.app N5195 N5196q
                    rcases hL5196 with ⟨rfl, hq5196_0_0, -⟩ | ⟨rfl, hq5196_1_0, -⟩
                    · skip
                      exact absurd hq5196_0_0 hq5189_1_0
                    · skip
                      refine own_st st5196 ?_
                      show own_Go _ _ _ _ T5196 (mkF m 238 #[.val (.int ip0), .val (.long jp1), .second, .val (.long jp2), .second, .val (.long jp3), .second, .val (.long jp4), .second, .val (.long jp5), .second, .val (.int (3 : Int32)), .val (.long j12), .second, .val (.long j14), .second, .val (.long j16), .second, .val (.long j18), .second, .val (.ref b5001), .val (.ref b5005), .val (.ref b5009), .val (.ref b5013), .val (.ref b5001), .val (.long jp1), .second, .val (.long jp4), .second] [(.int (0 : Int32))])
                      refine own_st (fun t k => XS.ifYes X5196.here hx rfl (pc0 := 238) (pc' := 245) rfl (hb hby at_238) rfl ((if0 _ _).trans (teq (by decide : (0 : Int32) = (0 : Int32))).1) (by decide) (by decide) k) ?_
                      refine own_st (fun t k => XS.aload X5196.here hx rfl (hb hby at_245) rfl rfl k) ?_
                      show own_Go _ _ _ _ T5196 (mkF m 247 #[.val (.int ip0), .val (.long jp1), .second, .val (.long jp2), .second, .val (.long jp3), .second, .val (.long jp4), .second, .val (.long jp5), .second, .val (.int (3 : Int32)), .val (.long j12), .second, .val (.long j14), .second, .val (.long j16), .second, .val (.long j18), .second, .val (.ref b5001), .val (.ref b5005), .val (.ref b5009), .val (.ref b5013), .val (.ref b5001), .val (.long jp1), .second, .val (.long jp4), .second] [(.ref b5013)])
                      have f5197 := (f5167.keep Kq5189)
                      have f5199 := (f5188.keep Kq5189)
                      obtain ⟨cq5198, kq5198, q5198a, q5198b, q5198c⟩ := isOf hZ e5196 f5199
                      obtain ⟨_, _, ⟨T5198, L5198, k5198, n5198⟩, -, X5198, ⟨Lc5198, hQ5198, l5198, y5198, z5198⟩, st5198⟩ := X5196.virtualBack hx (y := own_y1) (z := own_y1) hown (mvT hZ (own_w hw 56 rfl)) (mvT hZ (own_w hw 57 rfl)) (notFace_of_selects (args := #[]) (mvT hZ (own_w hw 59 rfl))) (mvT hZ (own_w hw 59 rfl)) (mvT hZ (own_w hw 58 rfl)) (by decide) (backOf (W := 0) (own_rm7_128 l Z a0 hw [] b5013 b2x4_14c5015 b2x5_18c4c5015 k2x5_18c4c5015c2c5044c2c5104c2c5189 b5005 b5009 b5001 T5189.heap n0 Z5189 Fc5189_1_6 Fc5189_1_5 Fc5189_1_2 Fc5189_1_1 Fc5189_1_0 OFc5189_1_0 f5197) hZ (own_w hw 60 rfl) (own_w hw 28 rfl) (by decide) (by decide)) q5198a q5198c (g := (mkF m 247 #[.val (.int ip0), .val (.long jp1), .second, .val (.long jp2), .second, .val (.long jp3), .second, .val (.long jp4), .second, .val (.long jp5), .second, .val (.int (3 : Int32)), .val (.long j12), .second, .val (.long j14), .second, .val (.long j16), .second, .val (.long j18), .second, .val (.ref b5001), .val (.ref b5005), .val (.ref b5009), .val (.ref b5013), .val (.ref b5001), .val (.long jp1), .second, .val (.long jp4), .second] [(.ref b5013)])) rfl (by rw [hml]; rfl) (Steps.refl _) (argsL := []) (rest := []) (lenOf own_pd3 rfl) rfl (by show 2 * 0 + _ ≤ _; exact Nat.le_of_eq rfl) (hb hby at_247) (fun _ _ => ⟨rfl, e5196, (by decide : 8 + 0 ≤ _), (by decide : 84 + 0 ≤ _)⟩)
                      dsimp only [Pt.U, Pt.locs, Pt.cells, Pt.slots] at X5198 l5198 y5198 z5198 st5198 hQ5198
                      subst l5198 y5198 z5198
                      obtain ⟨N5198q, Kq5198, hL5198⟩ := hQ5198
                      have N5198 := Fr.app N5196 N5198q
                      have K5198 : Keep h0 T5198.heap [] := K5189.trans Kq5198 all0
                      have Z5198 := Nat.le_trans Z5189 Kq5198.1
                      rcases hL5198 with ⟨rfl, -⟩
                      · skip
                        refine own_st (fun t k => st5198.trans k) ?_
                        refine own_st (fun t k => XS.aload X5198.here hx rfl (hb hby at_250) rfl rfl k) ?_
                        show own_Go _ _ _ _ T5198 (mkF m 252 #[.val (.int ip0), .val (.long jp1), .second, .val (.long jp2), .second, .val (.long jp3), .second, .val (.long jp4), .second, .val (.long jp5), .second, .val (.int (3 : Int32)), .val (.long j12), .second, .val (.long j14), .second, .val (.long j16), .second, .val (.long j18), .second, .val (.ref b5001), .val (.ref b5005), .val (.ref b5009), .val (.ref b5013), .val (.ref b5001), .val (.long jp1), .second, .val (.long jp4), .second] [(.ref b5001), (.ref b5001)])
                        refine own_st (fun t k => Jvm.RoadKit.acmp (g := (mkF m 252 #[.val (.int ip0), .val (.long jp1), .second, .val (.long jp2), .second, .val (.long jp3), .second, .val (.long jp4), .second, .val (.long jp5), .second, .val (.int (3 : Int32)), .val (.long j12), .second, .val (.long j14), .second, .val (.long j16), .second, .val (.long j18), .second, .val (.ref b5001), .val (.ref b5005), .val (.ref b5009), .val (.ref b5013), .val (.ref b5001), .val (.long jp1), .second, .val (.long jp4), .second] [(.ref b5001), (.ref b5001)])) X5198 hx rfl rfl rfl (pc0 := 252) (pc' := 255) (same := true) rfl (hb hby at_252) rfl (decide_eq_true (congrArg Value.ref (rfl : b5001 = b5001))) (by decide) (by decide) k) ?_
                        refine own_st (fun t k => XS.iconst X5198.here hx rfl (hb hby at_255) k) ?_
                        refine own_st (fun t k => XS.goto X5198.here hx rfl (pc0 := 256) (pc' := 260) rfl (hb hby at_256) (by decide) (by decide) k) ?_
                        show own_Go _ _ _ _ T5198 (mkF m 260 #[.val (.int ip0), .val (.long jp1), .second, .val (.long jp2), .second, .val (.long jp3), .second, .val (.long jp4), .second, .val (.long jp5), .second, .val (.int (3 : Int32)), .val (.long j12), .second, .val (.long j14), .second, .val (.long j16), .second, .val (.long j18), .second, .val (.ref b5001), .val (.ref b5005), .val (.ref b5009), .val (.ref b5013), .val (.ref b5001), .val (.long jp1), .second, .val (.long jp4), .second] [(.int (1 : Int32))])
                        exact own_retZ X5198 hx hlk (t := .boolean) hret (by simp) (hb hby at_260) (by decide) (by decide) rfl ⟨rfl, N5198⟩
                · skip
                  refine own_st (fun t k => st5189.trans k) ?_
                  show own_Go _ _ _ _ T5189 (mkF m 163 #[.val (.int ip0), .val (.long jp1), .second, .val (.long jp2), .second, .val (.long jp3), .second, .val (.long jp4), .second, .val (.long jp5), .second, .val (.int (3 : Int32)), .val (.long j12), .second, .val (.long j14), .second, .val (.long j16), .second, .val (.long j18), .second, .val (.ref b5001), .val (.ref b5005), .val (.ref b5009), .val (.ref b5013), .unset, .unset, .unset, .unset, .unset] [])
                  refine own_st (fun t k => XS.aconstNull X5189.here hx rfl (hb hby at_163) k) ?_
                  refine own_st (fun t k => XS.astore X5189.here hx rfl (hb hby at_164) rfl rfl (l' := #[.val (.int ip0), .val (.long jp1), .second, .val (.long jp2), .second, .val (.long jp3), .second, .val (.long jp4), .second, .val (.long jp5), .second, .val (.int (3 : Int32)), .val (.long j12), .second, .val (.long j14), .second, .val (.long j16), .second, .val (.long j18), .second, .val (.ref b5001), .val (.ref b5005), .val (.ref b5009), .val (.ref b5013), .val .null, .unset, .unset, .unset, .unset]) rfl k) ?_
                  refine own_st (fun t k => XS.lconst X5189.here hx rfl (hb hby at_166) k) ?_
                  refine own_st (fun t k => XS.lstore X5189.here hx rfl (hb hby at_167) rfl (l' := #[.val (.int ip0), .val (.long jp1), .second, .val (.long jp2), .second, .val (.long jp3), .second, .val (.long jp4), .second, .val (.long jp5), .second, .val (.int (3 : Int32)), .val (.long j12), .second, .val (.long j14), .second, .val (.long j16), .second, .val (.long j18), .second, .val (.ref b5001), .val (.ref b5005), .val (.ref b5009), .val (.ref b5013), .val .null, .val (.long (0 : Int64)), .second, .unset, .unset]) rfl k) ?_
                  show own_Go _ _ _ _ T5189 (mkF m 169 #[.val (.int ip0), .val (.long jp1), .second, .val (.long jp2), .second, .val (.long jp3), .second, .val (.long jp4), .second, .val (.long jp5), .second, .val (.int (3 : Int32)), .val (.long j12), .second, .val (.long j14), .second, .val (.long j16), .second, .val (.long j18), .second, .val (.ref b5001), .val (.ref b5005), .val (.ref b5009), .val (.ref b5013), .val .null, .val (.long (0 : Int64)), .second, .unset, .unset] [])
                  refine own_st (fun t k => XS.lconst X5189.here hx rfl (hb hby at_169) k) ?_
                  refine own_st (fun t k => XS.lstore X5189.here hx rfl (hb hby at_170) rfl (l' := #[.val (.int ip0), .val (.long jp1), .second, .val (.long jp2), .second, .val (.long jp3), .second, .val (.long jp4), .second, .val (.long jp5), .second, .val (.int (3 : Int32)), .val (.long j12), .second, .val (.long j14), .second, .val (.long j16), .second, .val (.long j18), .second, .val (.ref b5001), .val (.ref b5005), .val (.ref b5009), .val (.ref b5013), .val .null, .val (.long (0 : Int64)), .second, .val (.long (0 : Int64)), .second]) rfl k) ?_
                  refine own_st (fun t k => XS.iload X5189.here hx rfl (hb hby at_172) rfl k) ?_
                  refine own_st (fun t k => XS.iconst X5189.here hx rfl (hb hby at_174) k) ?_
                  show own_Go _ _ _ _ T5189 (mkF m 175 #[.val (.int ip0), .val (.long jp1), .second, .val (.long jp2), .second, .val (.long jp3), .second, .val (.long jp4), .second, .val (.long jp5), .second, .val (.int (3 : Int32)), .val (.long j12), .second, .val (.long j14), .second, .val (.long j16), .second, .val (.long j18), .second, .val (.ref b5001), .val (.ref b5005), .val (.ref b5009), .val (.ref b5013), .val .null, .val (.long (0 : Int64)), .second, .val (.long (0 : Int64)), .second] [(.int (1 : Int32)), (.int (3 : Int32))])
                  refine own_st (fun t k => XS.icmpNo X5189.here hx rfl (hb hby at_175) rfl (flt (by decide : ¬ ((3 : Int32) < (1 : Int32)))).1 k) ?_
                  refine own_st (fun t k => XS.aload X5189.here hx rfl (hb hby at_178) rfl rfl k) ?_
                  refine own_st (fun t k => XS.astore X5189.here hx rfl (hb hby at_180) rfl rfl (l' := #[.val (.int ip0), .val (.long jp1), .second, .val (.long jp2), .second, .val (.long jp3), .second, .val (.long jp4), .second, .val (.long jp5), .second, .val (.int (3 : Int32)), .val (.long j12), .second, .val (.long j14), .second, .val (.long j16), .second, .val (.long j18), .second, .val (.ref b5001), .val (.ref b5005), .val (.ref b5009), .val (.ref b5013), .val (.ref b5001), .val (.long (0 : Int64)), .second, .val (.long (0 : Int64)), .second]) rfl k) ?_
                  refine own_st (fun t k => XS.lloadN X5189.here hx rfl (hb hby at_182) rfl k) ?_
                  show own_Go _ _ _ _ T5189 (mkF m 183 #[.val (.int ip0), .val (.long jp1), .second, .val (.long jp2), .second, .val (.long jp3), .second, .val (.long jp4), .second, .val (.long jp5), .second, .val (.int (3 : Int32)), .val (.long j12), .second, .val (.long j14), .second, .val (.long j16), .second, .val (.long j18), .second, .val (.ref b5001), .val (.ref b5005), .val (.ref b5009), .val (.ref b5013), .val (.ref b5001), .val (.long (0 : Int64)), .second, .val (.long (0 : Int64)), .second] [(.long jp1)])
                  refine own_st (fun t k => XS.lstore X5189.here hx rfl (hb hby at_183) rfl (l' := #[.val (.int ip0), .val (.long jp1), .second, .val (.long jp2), .second, .val (.long jp3), .second, .val (.long jp4), .second, .val (.long jp5), .second, .val (.int (3 : Int32)), .val (.long j12), .second, .val (.long j14), .second, .val (.long j16), .second, .val (.long j18), .second, .val (.ref b5001), .val (.ref b5005), .val (.ref b5009), .val (.ref b5013), .val (.ref b5001), .val (.long jp1), .second, .val (.long (0 : Int64)), .second]) rfl k) ?_
                  refine own_st (fun t k => XS.lload X5189.here hx rfl (hb hby at_185) rfl k) ?_
                  refine own_st (fun t k => XS.lstore X5189.here hx rfl (hb hby at_187) rfl (l' := #[.val (.int ip0), .val (.long jp1), .second, .val (.long jp2), .second, .val (.long jp3), .second, .val (.long jp4), .second, .val (.long jp5), .second, .val (.int (3 : Int32)), .val (.long j12), .second, .val (.long j14), .second, .val (.long j16), .second, .val (.long j18), .second, .val (.ref b5001), .val (.ref b5005), .val (.ref b5009), .val (.ref b5013), .val (.ref b5001), .val (.long jp1), .second, .val (.long jp4), .second]) rfl k) ?_
                  refine own_st (fun t k => XS.iload X5189.here hx rfl (hb hby at_189) rfl k) ?_
                  show own_Go _ _ _ _ T5189 (mkF m 191 #[.val (.int ip0), .val (.long jp1), .second, .val (.long jp2), .second, .val (.long jp3), .second, .val (.long jp4), .second, .val (.long jp5), .second, .val (.int (3 : Int32)), .val (.long j12), .second, .val (.long j14), .second, .val (.long j16), .second, .val (.long j18), .second, .val (.ref b5001), .val (.ref b5005), .val (.ref b5009), .val (.ref b5013), .val (.ref b5001), .val (.long jp1), .second, .val (.long jp4), .second] [(.int (3 : Int32))])
                  refine own_st (fun t k => XS.iconst X5189.here hx rfl (hb hby at_191) k) ?_
                  show own_Go _ _ _ _ T5189 (mkF m 192 #[.val (.int ip0), .val (.long jp1), .second, .val (.long jp2), .second, .val (.long jp3), .second, .val (.long jp4), .second, .val (.long jp5), .second, .val (.int (3 : Int32)), .val (.long j12), .second, .val (.long j14), .second, .val (.long j16), .second, .val (.long j18), .second, .val (.ref b5001), .val (.ref b5005), .val (.ref b5009), .val (.ref b5013), .val (.ref b5001), .val (.long jp1), .second, .val (.long jp4), .second] [(.int (2 : Int32)), (.int (3 : Int32))])
                  refine own_st (fun t k => XS.icmpNo X5189.here hx rfl (hb hby at_192) rfl (flt (by decide : ¬ ((3 : Int32) < (2 : Int32)))).1 k) ?_
                  refine own_st (fun t k => XS.lload X5189.here hx rfl (hb hby at_195) rfl k) ?_
                  refine own_st (fun t k => XS.lload X5189.here hx rfl (hb hby at_197) rfl k) ?_
                  show own_Go _ _ _ _ T5189 (mkF m 199 #[.val (.int ip0), .val (.long jp1), .second, .val (.long jp2), .second, .val (.long jp3), .second, .val (.long jp4), .second, .val (.long jp5), .second, .val (.int (3 : Int32)), .val (.long j12), .second, .val (.long j14), .second, .val (.long j16), .second, .val (.long j18), .second, .val (.ref b5001), .val (.ref b5005), .val (.ref b5009), .val (.ref b5013), .val (.ref b5001), .val (.long jp1), .second, .val (.long jp4), .second] [(.long j16), (.long j12)])
                  refine own_st (fun t k => XS.lload X5189.here hx rfl (hb hby at_199) rfl k) ?_
                  refine own_st (fun t k => XS.lload X5189.here hx rfl (hb hby at_201) rfl k) ?_
                  show own_Go _ _ _ _ T5189 (mkF m 203 #[.val (.int ip0), .val (.long jp1), .second, .val (.long jp2), .second, .val (.long jp3), .second, .val (.long jp4), .second, .val (.long jp5), .second, .val (.int (3 : Int32)), .val (.long j12), .second, .val (.long j14), .second, .val (.long j16), .second, .val (.long j18), .second, .val (.ref b5001), .val (.ref b5005), .val (.ref b5009), .val (.ref b5013), .val (.ref b5001), .val (.long jp1), .second, .val (.long jp4), .second] [(.long jp4), (.long jp1), (.long j16), (.long j12)])
                  obtain ⟨_, _, ⟨T5200, L5200, k5200, n5200⟩, -, X5200, ⟨Lc5200, hQ5200, l5200, y5200, z5200⟩, st5200⟩ := Jvm.LawKit.callS X5189 hx (y := own_y3) hown (mvT hZ (own_w hw 145 rfl)) (mvT hZ (own_w hw 146 rfl)) (mvT hZ (own_w hw 147 rfl)) (mvT hZ (own_w hw 148 rfl)) (by decide) (backOf (W := 0) (own_rm21 l Z a0 hw [] j12 j16 jp1 jp4 T5189.heap n0 Z5189 ) hZ (own_w hw 148 rfl) (own_w hw 147 rfl) (by decide) (by decide)) (g := (mkF m 203 #[.val (.int ip0), .val (.long jp1), .second, .val (.long jp2), .second, .val (.long jp3), .second, .val (.long jp4), .second, .val (.long jp5), .second, .val (.int (3 : Int32)), .val (.long j12), .second, .val (.long j14), .second, .val (.long j16), .second, .val (.long j18), .second, .val (.ref b5001), .val (.ref b5005), .val (.ref b5009), .val (.ref b5013), .val (.ref b5001), .val (.long jp1), .second, .val (.long jp4), .second] [(.long jp4), (.long jp1), (.long j16), (.long j12)])) rfl (by rw [hml]; rfl) (argsL := [(.long j12), (.long j16), (.long jp1), (.long jp4)]) (rest := []) (lenOf own_pd16 rfl) rfl (by show 2 * 0 + _ ≤ _; exact Nat.le_of_eq rfl) (hb hby at_203) (fun _ _ => ⟨rfl, rfl, (by decide : 8 + 0 ≤ _), (by decide : 84 + 0 ≤ _)⟩)
                  dsimp only [Pt.U, Pt.locs, Pt.cells, Pt.slots] at X5200 l5200 y5200 z5200 st5200 hQ5200
                  subst l5200 y5200 z5200
                  obtain ⟨N5200q, e5200, hL5200⟩ := hQ5200
                  have N5200 := Fr.app N5189 N5200q
                  rcases hL5200 with ⟨rfl, hq5200_0_0, -⟩ | ⟨rfl, hq5200_1_0, -⟩
                  · skip
                    exact absurd hq5200_0_0 hq5104_1_0
                  · skip
                    refine own_st st5200 ?_
                    show own_Go _ _ _ _ T5200 (mkF m 206 #[.val (.int ip0), .val (.long jp1), .second, .val (.long jp2), .second, .val (.long jp3), .second, .val (.long jp4), .second, .val (.long jp5), .second, .val (.int (3 : Int32)), .val (.long j12), .second, .val (.long j14), .second, .val (.long j16), .second, .val (.long j18), .second, .val (.ref b5001), .val (.ref b5005), .val (.ref b5009), .val (.ref b5013), .val (.ref b5001), .val (.long jp1), .second, .val (.long jp4), .second] [(.int (0 : Int32))])
                    refine own_st (fun t k => XS.ifYes X5200.here hx rfl (pc0 := 206) (pc' := 221) rfl (hb hby at_206) rfl ((if0 _ _).trans (teq (by decide : (0 : Int32) = (0 : Int32))).1) (by decide) (by decide) k) ?_
                    show own_Go _ _ _ _ T5200 (mkF m 221 #[.val (.int ip0), .val (.long jp1), .second, .val (.long jp2), .second, .val (.long jp3), .second, .val (.long jp4), .second, .val (.long jp5), .second, .val (.int (3 : Int32)), .val (.long j12), .second, .val (.long j14), .second, .val (.long j16), .second, .val (.long j18), .second, .val (.ref b5001), .val (.ref b5005), .val (.ref b5009), .val (.ref b5013), .val (.ref b5001), .val (.long jp1), .second, .val (.long jp4), .second] [])
                    refine own_st (fun t k => XS.iload X5200.here hx rfl (hb hby at_221) rfl k) ?_
                    refine own_st (fun t k => XS.iconst X5200.here hx rfl (hb hby at_223) k) ?_
                    show own_Go _ _ _ _ T5200 (mkF m 224 #[.val (.int ip0), .val (.long jp1), .second, .val (.long jp2), .second, .val (.long jp3), .second, .val (.long jp4), .second, .val (.long jp5), .second, .val (.int (3 : Int32)), .val (.long j12), .second, .val (.long j14), .second, .val (.long j16), .second, .val (.long j18), .second, .val (.ref b5001), .val (.ref b5005), .val (.ref b5009), .val (.ref b5013), .val (.ref b5001), .val (.long jp1), .second, .val (.long jp4), .second] [(.int (3 : Int32)), (.int (3 : Int32))])
                    refine own_st (fun t k => XS.icmpNo X5200.here hx rfl (hb hby at_224) rfl (flt (by decide : ¬ ((3 : Int32) < (3 : Int32)))).1 k) ?_
                    refine own_st (fun t k => XS.lload X5200.here hx rfl (hb hby at_227) rfl k) ?_
                    show own_Go _ _ _ _ T5200 (mkF m 229 #[.val (.int ip0), .val (.long jp1), .second, .val (.long jp2), .second, .val (.long jp3), .second, .val (.long jp4), .second, .val (.long jp5), .second, .val (.int (3 : Int32)), .val (.long j12), .second, .val (.long j14), .second, .val (.long j16), .second, .val (.long j18), .second, .val (.ref b5001), .val (.ref b5005), .val (.ref b5009), .val (.ref b5013), .val (.ref b5001), .val (.long jp1), .second, .val (.long jp4), .second] [(.long j14)])
                    refine own_st (fun t k => XS.lload X5200.here hx rfl (hb hby at_229) rfl k) ?_
                    refine own_st (fun t k => XS.lload X5200.here hx rfl (hb hby at_231) rfl k) ?_
                    refine own_st (fun t k => XS.lload X5200.here hx rfl (hb hby at_233) rfl k) ?_
                    show own_Go _ _ _ _ T5200 (mkF m 235 #[.val (.int ip0), .val (.long jp1), .second, .val (.long jp2), .second, .val (.long jp3), .second, .val (.long jp4), .second, .val (.long jp5), .second, .val (.int (3 : Int32)), .val (.long j12), .second, .val (.long j14), .second, .val (.long j16), .second, .val (.long j18), .second, .val (.ref b5001), .val (.ref b5005), .val (.ref b5009), .val (.ref b5013), .val (.ref b5001), .val (.long jp1), .second, .val (.long jp4), .second] [(.long jp4), (.long jp1), (.long j18), (.long j14)])
                    obtain ⟨_, _, ⟨T5201, L5201, k5201, n5201⟩, -, X5201, ⟨Lc5201, hQ5201, l5201, y5201, z5201⟩, st5201⟩ := Jvm.LawKit.callS X5200 hx (y := own_y3) hown (mvT hZ (own_w hw 145 rfl)) (mvT hZ (own_w hw 146 rfl)) (mvT hZ (own_w hw 147 rfl)) (mvT hZ (own_w hw 148 rfl)) (by decide) (backOf (W := 0) (own_rm21 l Z a0 hw [] j14 j18 jp1 jp4 T5189.heap n0 Z5189 ) hZ (own_w hw 148 rfl) (own_w hw 147 rfl) (by decide) (by decide)) (g := (mkF m 235 #[.val (.int ip0), .val (.long jp1), .second, .val (.long jp2), .second, .val (.long jp3), .second, .val (.long jp4), .second, .val (.long jp5), .second, .val (.int (3 : Int32)), .val (.long j12), .second, .val (.long j14), .second, .val (.long j16), .second, .val (.long j18), .second, .val (.ref b5001), .val (.ref b5005), .val (.ref b5009), .val (.ref b5013), .val (.ref b5001), .val (.long jp1), .second, .val (.long jp4), .second] [(.long jp4), (.long jp1), (.long j18), (.long j14)])) rfl (by rw [hml]; rfl) (argsL := [(.long j14), (.long j18), (.long jp1), (.long jp4)]) (rest := []) (lenOf own_pd16 rfl) rfl (by show 2 * 0 + _ ≤ _; exact Nat.le_of_eq rfl) (hb hby at_235) (fun _ _ => ⟨rfl, e5200, (by decide : 8 + 0 ≤ _), (by decide : 84 + 0 ≤ _)⟩)
                    dsimp only [Pt.U, Pt.locs, Pt.cells, Pt.slots] at X5201 l5201 y5201 z5201 st5201 hQ5201
                    subst l5201 y5201 z5201
                    obtain ⟨N5201q, e5201, hL5201⟩ := hQ5201
                    have N5201 := Fr.app N5200 N5201q
                    rcases hL5201 with ⟨rfl, hq5201_0_0, -⟩ | ⟨rfl, hq5201_1_0, -⟩
                    · skip
                      exact absurd hq5201_0_0 hq5189_2_0
                    · skip
                      refine own_st st5201 ?_
                      show own_Go _ _ _ _ T5201 (mkF m 238 #[.val (.int ip0), .val (.long jp1), .second, .val (.long jp2), .second, .val (.long jp3), .second, .val (.long jp4), .second, .val (.long jp5), .second, .val (.int (3 : Int32)), .val (.long j12), .second, .val (.long j14), .second, .val (.long j16), .second, .val (.long j18), .second, .val (.ref b5001), .val (.ref b5005), .val (.ref b5009), .val (.ref b5013), .val (.ref b5001), .val (.long jp1), .second, .val (.long jp4), .second] [(.int (0 : Int32))])
                      refine own_st (fun t k => XS.ifYes X5201.here hx rfl (pc0 := 238) (pc' := 245) rfl (hb hby at_238) rfl ((if0 _ _).trans (teq (by decide : (0 : Int32) = (0 : Int32))).1) (by decide) (by decide) k) ?_
                      refine own_st (fun t k => XS.aload X5201.here hx rfl (hb hby at_245) rfl rfl k) ?_
                      show own_Go _ _ _ _ T5201 (mkF m 247 #[.val (.int ip0), .val (.long jp1), .second, .val (.long jp2), .second, .val (.long jp3), .second, .val (.long jp4), .second, .val (.long jp5), .second, .val (.int (3 : Int32)), .val (.long j12), .second, .val (.long j14), .second, .val (.long j16), .second, .val (.long j18), .second, .val (.ref b5001), .val (.ref b5005), .val (.ref b5009), .val (.ref b5013), .val (.ref b5001), .val (.long jp1), .second, .val (.long jp4), .second] [(.ref b5013)])
                      have f5202 := (f5167.keep Kq5189)
                      have f5204 := (f5188.keep Kq5189)
                      obtain ⟨cq5203, kq5203, q5203a, q5203b, q5203c⟩ := isOf hZ e5201 f5204
                      obtain ⟨_, _, ⟨T5203, L5203, k5203, n5203⟩, -, X5203, ⟨Lc5203, hQ5203, l5203, y5203, z5203⟩, st5203⟩ := X5201.virtualBack hx (y := own_y1) (z := own_y1) hown (mvT hZ (own_w hw 56 rfl)) (mvT hZ (own_w hw 57 rfl)) (notFace_of_selects (args := #[]) (mvT hZ (own_w hw 59 rfl))) (mvT hZ (own_w hw 59 rfl)) (mvT hZ (own_w hw 58 rfl)) (by decide) (backOf (W := 0) (own_rm7_128 l Z a0 hw [] b5013 b2x4_14c5015 b2x5_18c4c5015 k2x5_18c4c5015c2c5044c2c5104c2c5189 b5009 b5005 b5001 T5189.heap n0 Z5189 Fc5189_2_6 Fc5189_2_5 Fc5189_2_2 Fc5189_2_1 Fc5189_2_0 OFc5189_2_0 f5202) hZ (own_w hw 60 rfl) (own_w hw 28 rfl) (by decide) (by decide)) q5203a q5203c (g := (mkF m 247 #[.val (.int ip0), .val (.long jp1), .second, .val (.long jp2), .second, .val (.long jp3), .second, .val (.long jp4), .second, .val (.long jp5), .second, .val (.int (3 : Int32)), .val (.long j12), .second, .val (.long j14), .second, .val (.long j16), .second, .val (.long j18), .second, .val (.ref b5001), .val (.ref b5005), .val (.ref b5009), .val (.ref b5013), .val (.ref b5001), .val (.long jp1), .second, .val (.long jp4), .second] [(.ref b5013)])) rfl (by rw [hml]; rfl) (Steps.refl _) (argsL := []) (rest := []) (lenOf own_pd3 rfl) rfl (by show 2 * 0 + _ ≤ _; exact Nat.le_of_eq rfl) (hb hby at_247) (fun _ _ => ⟨rfl, e5201, (by decide : 8 + 0 ≤ _), (by decide : 84 + 0 ≤ _)⟩)
                      dsimp only [Pt.U, Pt.locs, Pt.cells, Pt.slots] at X5203 l5203 y5203 z5203 st5203 hQ5203
                      subst l5203 y5203 z5203
                      obtain ⟨N5203q, Kq5203, hL5203⟩ := hQ5203
                      have N5203 := Fr.app N5201 N5203q
                      have K5203 : Keep h0 T5203.heap [] := K5189.trans Kq5203 all0
                      have Z5203 := Nat.le_trans Z5189 Kq5203.1
                      rcases hL5203 with ⟨rfl, -⟩
                      · skip
                        refine own_st (fun t k => st5203.trans k) ?_
                        refine own_st (fun t k => XS.aload X5203.here hx rfl (hb hby at_250) rfl rfl k) ?_
                        show own_Go _ _ _ _ T5203 (mkF m 252 #[.val (.int ip0), .val (.long jp1), .second, .val (.long jp2), .second, .val (.long jp3), .second, .val (.long jp4), .second, .val (.long jp5), .second, .val (.int (3 : Int32)), .val (.long j12), .second, .val (.long j14), .second, .val (.long j16), .second, .val (.long j18), .second, .val (.ref b5001), .val (.ref b5005), .val (.ref b5009), .val (.ref b5013), .val (.ref b5001), .val (.long jp1), .second, .val (.long jp4), .second] [(.ref b5001), (.ref b5001)])
                        refine own_st (fun t k => Jvm.RoadKit.acmp (g := (mkF m 252 #[.val (.int ip0), .val (.long jp1), .second, .val (.long jp2), .second, .val (.long jp3), .second, .val (.long jp4), .second, .val (.long jp5), .second, .val (.int (3 : Int32)), .val (.long j12), .second, .val (.long j14), .second, .val (.long j16), .second, .val (.long j18), .second, .val (.ref b5001), .val (.ref b5005), .val (.ref b5009), .val (.ref b5013), .val (.ref b5001), .val (.long jp1), .second, .val (.long jp4), .second] [(.ref b5001), (.ref b5001)])) X5203 hx rfl rfl rfl (pc0 := 252) (pc' := 255) (same := true) rfl (hb hby at_252) rfl (decide_eq_true (congrArg Value.ref (rfl : b5001 = b5001))) (by decide) (by decide) k) ?_
                        refine own_st (fun t k => XS.iconst X5203.here hx rfl (hb hby at_255) k) ?_
                        refine own_st (fun t k => XS.goto X5203.here hx rfl (pc0 := 256) (pc' := 260) rfl (hb hby at_256) (by decide) (by decide) k) ?_
                        show own_Go _ _ _ _ T5203 (mkF m 260 #[.val (.int ip0), .val (.long jp1), .second, .val (.long jp2), .second, .val (.long jp3), .second, .val (.long jp4), .second, .val (.long jp5), .second, .val (.int (3 : Int32)), .val (.long j12), .second, .val (.long j14), .second, .val (.long j16), .second, .val (.long j18), .second, .val (.ref b5001), .val (.ref b5005), .val (.ref b5009), .val (.ref b5013), .val (.ref b5001), .val (.long jp1), .second, .val (.long jp4), .second] [(.int (1 : Int32))])
                        exact own_retZ X5203 hx hlk (t := .boolean) hret (by simp) (hb hby at_260) (by decide) (by decide) rfl ⟨rfl, N5203⟩
theorem own_ef0 (m : MethodId) (x0 : Int32) (x1 : Int64) (x2 : Int64) (x3 : Int64) (x4 : Int64) (x5 : Int64) : entryFrame m #[(.int x0), (.long x1), (.long x2), (.long x3), (.long x4), (.long x5)] maxLocals = mkF m 0 #[.val (.int x0), .val (.long x1), .second, .val (.long x2), .second, .val (.long x3), .second, .val (.long x4), .second, .val (.long x5), .second, .unset, .unset, .unset, .unset, .unset, .unset, .unset, .unset, .unset, .unset, .unset, .unset, .unset, .unset, .unset, .unset, .unset, .unset] [] := by first | (simp [entryFrame, mkF, argsToLocals, Value.category, maxLocals]; done) | rfl
set_option maxRecDepth 65536 in
set_option maxHeartbeats 40000000 in
theorem own_rm0 (l : Launch) (Z : State) (a0 : Array Value) (hw : ∀ d ∈ tables_1, d.before a0 Z = true) (ws : List Jvm.Cond) (ip0 : Int32) (jp1 : Int64) (jp2 : Int64) (jp3 : Int64) (jp4 : Int64) (jp5 : Int64) (w_NONE : Addr) (w_EMPTY : Addr) (w_EMPTY_parts : Addr) (w_NONE_names : Addr) (k_w_EMPTY_parts : ClassId) (k_w_NONE_names : ClassId) (h0 : Heap) (n0 : Nat) (Z0 : n0 ≤ h0.size) (S_NONE : Sta Z h0 own_s3 "NONE" "Lcom/example/lonborg/lonborg/Resources;" (.ref w_NONE)) (E_w_NONE : Exa Z h0 w_NONE own_s3) (S_EMPTY : Sta Z h0 own_s2 "EMPTY" own_s6 (.ref w_EMPTY)) (E_w_EMPTY : Exa Z h0 w_EMPTY own_s2) (F_parts_w_EMPTY : Fld Z h0 w_EMPTY own_s2 "parts" own_s9 (.ref w_EMPTY_parts)) (F_names_w_NONE : Fld Z h0 w_NONE own_s3 "names" "[Ljava/lang/String;" (.ref w_NONE_names)) (V_w_EMPTY_parts : Arv Z h0 w_EMPTY_parts k_w_EMPTY_parts (.object own_s3) (0 : Int32) [] .null) (V_w_NONE_names : Arv Z h0 w_NONE_names k_w_NONE_names (.object "java/lang/String") (0 : Int32) [] .null) :
    MetFree l x (head1 (Jvm.Cond.code x code maxLocals ret :: ws) room_1) (fun a U => a = #[(.int ip0), (.long jp1), (.long jp2), (.long jp3), (.long jp4), (.long jp5)] ∧ Z.Warmed39 U.vm ∧ U.heap = h0) (fun _ _ _ _ _ => True) (fun _ U o U' => ∃ v L, o = .returned v ∧ own_Q0 n0 v U'.heap L ∧ FrameEnd U o U' L room_1.cells room_1.slots) := by
  refine MetFree.of_bodySF (plainFor_of_name own_pn6) hisR ?_
  intro p e s m args below meth c s₁ Bd hml0 hP hK
  obtain ⟨rfl, hZ, hh⟩ := hP
  have hx := Bd.exec
  have hlk := Bd.notSynchronized
  have hret := Bd.returns
  have hby := Bd.bytes
  have hml : c.maxLocals = 29 := hml0
  have hown : s.vm.findClass own_s12 = some m.cls := findClass_of_methodNamed Bd.named
  have hnm := (name_of_methodNamed Bd.named Bd.method).1
  have X0 : Stand p l e room_1 s m #[(.int ip0), (.long jp1), (.long jp2), (.long jp3), (.long jp4), (.long jp5)] below meth c s₁ [] 0 0 := Stand.of_body Bd
  have e0 : s₁.heap = h0 := by rw [← hh, Bd.state]; rfl
  have N0 := Fr.nil n0
  refine own_open (Q := own_Q0 n0) (own_ef0 m ip0 jp1 jp2 jp3 jp4 jp5) ?_
  refine own_st (fun t k => XS.iloadN X0.here hx rfl (hb hby at_0) rfl k) ?_
  refine own_st (fun t k => XS.iconst X0.here hx rfl (hb hby at_1) k) ?_
  refine own_st (fun t k => XS.iand X0.here hx rfl (hb hby at_2) rfl k) ?_
  show own_Go _ _ _ _ s₁ (mkF m 3 #[.val (.int ip0), .val (.long jp1), .second, .val (.long jp2), .second, .val (.long jp3), .second, .val (.long jp4), .second, .val (.long jp5), .second, .unset, .unset, .unset, .unset, .unset, .unset, .unset, .unset, .unset, .unset, .unset, .unset, .unset, .unset, .unset, .unset, .unset, .unset] [(.int (ip0 &&& (3 : Int32)))])
  refine own_st (fun t k => XS.istore X0.here hx rfl (hb hby at_3) rfl (l' := #[.val (.int ip0), .val (.long jp1), .second, .val (.long jp2), .second, .val (.long jp3), .second, .val (.long jp4), .second, .val (.long jp5), .second, .val (.int (ip0 &&& (3 : Int32))), .unset, .unset, .unset, .unset, .unset, .unset, .unset, .unset, .unset, .unset, .unset, .unset, .unset, .unset, .unset, .unset, .unset]) rfl k) ?_
  refine own_st (fun t k => XS.iloadN X0.here hx rfl (hb hby at_5) rfl k) ?_
  refine own_st (fun t k => XS.iconst X0.here hx rfl (hb hby at_6) k) ?_
  show own_Go _ _ _ _ s₁ (mkF m 7 #[.val (.int ip0), .val (.long jp1), .second, .val (.long jp2), .second, .val (.long jp3), .second, .val (.long jp4), .second, .val (.long jp5), .second, .val (.int (ip0 &&& (3 : Int32))), .unset, .unset, .unset, .unset, .unset, .unset, .unset, .unset, .unset, .unset, .unset, .unset, .unset, .unset, .unset, .unset, .unset] [(.int (2 : Int32)), (.int ip0)])
  refine own_st (fun t k => XS.iushr X0.here hx rfl (hb hby at_7) rfl k) ?_
  show own_Go _ _ _ _ s₁ (mkF m 8 #[.val (.int ip0), .val (.long jp1), .second, .val (.long jp2), .second, .val (.long jp3), .second, .val (.long jp4), .second, .val (.long jp5), .second, .val (.int (ip0 &&& (3 : Int32))), .unset, .unset, .unset, .unset, .unset, .unset, .unset, .unset, .unset, .unset, .unset, .unset, .unset, .unset, .unset, .unset, .unset] [(.int ((ip0.toUInt32 >>> ((2 : Int32) &&& 31).toUInt32).toInt32))])
  refine own_st (fun t k => XS.iconst X0.here hx rfl (hb hby at_8) k) ?_
  refine own_st (fun t k => XS.iand X0.here hx rfl (hb hby at_9) rfl k) ?_
  show own_Go _ _ _ _ s₁ (mkF m 10 #[.val (.int ip0), .val (.long jp1), .second, .val (.long jp2), .second, .val (.long jp3), .second, .val (.long jp4), .second, .val (.long jp5), .second, .val (.int (ip0 &&& (3 : Int32))), .unset, .unset, .unset, .unset, .unset, .unset, .unset, .unset, .unset, .unset, .unset, .unset, .unset, .unset, .unset, .unset, .unset] [(.int (((ip0.toUInt32 >>> ((2 : Int32) &&& 31).toUInt32).toInt32) &&& (1 : Int32)))])
  by_cases hc1 : (((ip0.toUInt32 >>> ((2 : Int32) &&& 31).toUInt32).toInt32) &&& (1 : Int32)) = (0 : Int32)
  · skip
    refine own_st (fun t k => XS.ifYes X0.here hx rfl (pc0 := 10) (pc' := 17) rfl (hb hby at_10) rfl ((if0 _ _).trans (teq hc1).1) (by decide) (by decide) k) ?_
    refine own_st (fun t k => XS.lloadN X0.here hx rfl (hb hby at_17) rfl k) ?_
    show own_Go _ _ _ _ s₁ (mkF m 18 #[.val (.int ip0), .val (.long jp1), .second, .val (.long jp2), .second, .val (.long jp3), .second, .val (.long jp4), .second, .val (.long jp5), .second, .val (.int (ip0 &&& (3 : Int32))), .unset, .unset, .unset, .unset, .unset, .unset, .unset, .unset, .unset, .unset, .unset, .unset, .unset, .unset, .unset, .unset, .unset] [(.long jp2)])
    refine own_st (fun t k => XS.lstore X0.here hx rfl (hb hby at_18) rfl (l' := #[.val (.int ip0), .val (.long jp1), .second, .val (.long jp2), .second, .val (.long jp3), .second, .val (.long jp4), .second, .val (.long jp5), .second, .val (.int (ip0 &&& (3 : Int32))), .val (.long jp2), .second, .unset, .unset, .unset, .unset, .unset, .unset, .unset, .unset, .unset, .unset, .unset, .unset, .unset, .unset, .unset]) rfl k) ?_
    refine own_st (fun t k => XS.iloadN X0.here hx rfl (hb hby at_20) rfl k) ?_
    refine own_st (fun t k => XS.iconst X0.here hx rfl (hb hby at_21) k) ?_
    show own_Go _ _ _ _ s₁ (mkF m 22 #[.val (.int ip0), .val (.long jp1), .second, .val (.long jp2), .second, .val (.long jp3), .second, .val (.long jp4), .second, .val (.long jp5), .second, .val (.int (ip0 &&& (3 : Int32))), .val (.long jp2), .second, .unset, .unset, .unset, .unset, .unset, .unset, .unset, .unset, .unset, .unset, .unset, .unset, .unset, .unset, .unset] [(.int (3 : Int32)), (.int ip0)])
    refine own_st (fun t k => XS.iushr X0.here hx rfl (hb hby at_22) rfl k) ?_
    show own_Go _ _ _ _ s₁ (mkF m 23 #[.val (.int ip0), .val (.long jp1), .second, .val (.long jp2), .second, .val (.long jp3), .second, .val (.long jp4), .second, .val (.long jp5), .second, .val (.int (ip0 &&& (3 : Int32))), .val (.long jp2), .second, .unset, .unset, .unset, .unset, .unset, .unset, .unset, .unset, .unset, .unset, .unset, .unset, .unset, .unset, .unset] [(.int ((ip0.toUInt32 >>> ((3 : Int32) &&& 31).toUInt32).toInt32))])
    refine own_st (fun t k => XS.iconst X0.here hx rfl (hb hby at_23) k) ?_
    refine own_st (fun t k => XS.iand X0.here hx rfl (hb hby at_24) rfl k) ?_
    show own_Go _ _ _ _ s₁ (mkF m 25 #[.val (.int ip0), .val (.long jp1), .second, .val (.long jp2), .second, .val (.long jp3), .second, .val (.long jp4), .second, .val (.long jp5), .second, .val (.int (ip0 &&& (3 : Int32))), .val (.long jp2), .second, .unset, .unset, .unset, .unset, .unset, .unset, .unset, .unset, .unset, .unset, .unset, .unset, .unset, .unset, .unset] [(.int (((ip0.toUInt32 >>> ((3 : Int32) &&& 31).toUInt32).toInt32) &&& (1 : Int32)))])
    by_cases hc2 : (((ip0.toUInt32 >>> ((3 : Int32) &&& 31).toUInt32).toInt32) &&& (1 : Int32)) = (0 : Int32)
    · skip
      refine own_st (fun t k => XS.ifYes X0.here hx rfl (pc0 := 25) (pc' := 33) rfl (hb hby at_25) rfl ((if0 _ _).trans (teq hc2).1) (by decide) (by decide) k) ?_
      refine own_st (fun t k => XS.lload X0.here hx rfl (hb hby at_33) rfl k) ?_
      show own_Go _ _ _ _ s₁ (mkF m 35 #[.val (.int ip0), .val (.long jp1), .second, .val (.long jp2), .second, .val (.long jp3), .second, .val (.long jp4), .second, .val (.long jp5), .second, .val (.int (ip0 &&& (3 : Int32))), .val (.long jp2), .second, .unset, .unset, .unset, .unset, .unset, .unset, .unset, .unset, .unset, .unset, .unset, .unset, .unset, .unset, .unset] [(.long jp3)])
      refine own_st (fun t k => XS.lstore X0.here hx rfl (hb hby at_35) rfl (l' := #[.val (.int ip0), .val (.long jp1), .second, .val (.long jp2), .second, .val (.long jp3), .second, .val (.long jp4), .second, .val (.long jp5), .second, .val (.int (ip0 &&& (3 : Int32))), .val (.long jp2), .second, .val (.long jp3), .second, .unset, .unset, .unset, .unset, .unset, .unset, .unset, .unset, .unset, .unset, .unset, .unset, .unset]) rfl k) ?_
      refine own_st (fun t k => XS.lload X0.here hx rfl (hb hby at_37) rfl k) ?_
      refine own_st (fun t k => XS.lconst X0.here hx rfl (hb hby at_39) k) ?_
      refine own_st (fun t k => XS.lload X0.here hx rfl (hb hby at_40) rfl k) ?_
      show own_Go _ _ _ _ s₁ (mkF m 42 #[.val (.int ip0), .val (.long jp1), .second, .val (.long jp2), .second, .val (.long jp3), .second, .val (.long jp4), .second, .val (.long jp5), .second, .val (.int (ip0 &&& (3 : Int32))), .val (.long jp2), .second, .val (.long jp3), .second, .unset, .unset, .unset, .unset, .unset, .unset, .unset, .unset, .unset, .unset, .unset, .unset, .unset] [(.long jp5), (.long (1 : Int64)), (.long jp4)])
      refine own_st (X0.ldc2Long hx hown (mvT hZ (own_w hw 0 rfl)) (g := (mkF m 42 #[.val (.int ip0), .val (.long jp1), .second, .val (.long jp2), .second, .val (.long jp3), .second, .val (.long jp4), .second, .val (.long jp5), .second, .val (.int (ip0 &&& (3 : Int32))), .val (.long jp2), .second, .val (.long jp3), .second, .unset, .unset, .unset, .unset, .unset, .unset, .unset, .unset, .unset, .unset, .unset, .unset, .unset] [(.long jp5), (.long (1 : Int64)), (.long jp4)])) rfl (hb hby at_42)) ?_
      refine own_st (fun t k => XS.land X0.here hx rfl (hb hby at_45) rfl k) ?_
      refine own_st (fun t k => XS.ladd X0.here hx rfl (hb hby at_46) rfl k) ?_
      refine own_st (fun t k => XS.lxor X0.here hx rfl (hb hby at_47) rfl k) ?_
      show own_Go _ _ _ _ s₁ (mkF m 48 #[.val (.int ip0), .val (.long jp1), .second, .val (.long jp2), .second, .val (.long jp3), .second, .val (.long jp4), .second, .val (.long jp5), .second, .val (.int (ip0 &&& (3 : Int32))), .val (.long jp2), .second, .val (.long jp3), .second, .unset, .unset, .unset, .unset, .unset, .unset, .unset, .unset, .unset, .unset, .unset, .unset, .unset] [(.long (jp4 ^^^ ((1 : Int64) + (jp5 &&& (127 : Int64)))))])
      refine own_st (fun t k => XS.lstore X0.here hx rfl (hb hby at_48) rfl (l' := #[.val (.int ip0), .val (.long jp1), .second, .val (.long jp2), .second, .val (.long jp3), .second, .val (.long jp4), .second, .val (.long jp5), .second, .val (.int (ip0 &&& (3 : Int32))), .val (.long jp2), .second, .val (.long jp3), .second, .val (.long (jp4 ^^^ ((1 : Int64) + (jp5 &&& (127 : Int64))))), .second, .unset, .unset, .unset, .unset, .unset, .unset, .unset, .unset, .unset, .unset, .unset]) rfl k) ?_
      refine own_st (fun t k => XS.lload X0.here hx rfl (hb hby at_50) rfl k) ?_
      show own_Go _ _ _ _ s₁ (mkF m 52 #[.val (.int ip0), .val (.long jp1), .second, .val (.long jp2), .second, .val (.long jp3), .second, .val (.long jp4), .second, .val (.long jp5), .second, .val (.int (ip0 &&& (3 : Int32))), .val (.long jp2), .second, .val (.long jp3), .second, .val (.long (jp4 ^^^ ((1 : Int64) + (jp5 &&& (127 : Int64))))), .second, .unset, .unset, .unset, .unset, .unset, .unset, .unset, .unset, .unset, .unset, .unset] [(.long jp4)])
      refine own_st (X0.ldc2Long hx hown (mvT hZ (own_w hw 1 rfl)) (g := (mkF m 52 #[.val (.int ip0), .val (.long jp1), .second, .val (.long jp2), .second, .val (.long jp3), .second, .val (.long jp4), .second, .val (.long jp5), .second, .val (.int (ip0 &&& (3 : Int32))), .val (.long jp2), .second, .val (.long jp3), .second, .val (.long (jp4 ^^^ ((1 : Int64) + (jp5 &&& (127 : Int64))))), .second, .unset, .unset, .unset, .unset, .unset, .unset, .unset, .unset, .unset, .unset, .unset] [(.long jp4)])) rfl (hb hby at_52)) ?_
      refine own_st (fun t k => XS.lload X0.here hx rfl (hb hby at_55) rfl k) ?_
      show own_Go _ _ _ _ s₁ (mkF m 57 #[.val (.int ip0), .val (.long jp1), .second, .val (.long jp2), .second, .val (.long jp3), .second, .val (.long jp4), .second, .val (.long jp5), .second, .val (.int (ip0 &&& (3 : Int32))), .val (.long jp2), .second, .val (.long jp3), .second, .val (.long (jp4 ^^^ ((1 : Int64) + (jp5 &&& (127 : Int64))))), .second, .unset, .unset, .unset, .unset, .unset, .unset, .unset, .unset, .unset, .unset, .unset] [(.long jp5), (.long (256 : Int64)), (.long jp4)])
      refine own_st (fun t k => XS.bipush X0.here hx rfl (hb hby at_57) k) ?_
      show own_Go _ _ _ _ s₁ (mkF m 59 #[.val (.int ip0), .val (.long jp1), .second, .val (.long jp2), .second, .val (.long jp3), .second, .val (.long jp4), .second, .val (.long jp5), .second, .val (.int (ip0 &&& (3 : Int32))), .val (.long jp2), .second, .val (.long jp3), .second, .val (.long (jp4 ^^^ ((1 : Int64) + (jp5 &&& (127 : Int64))))), .second, .unset, .unset, .unset, .unset, .unset, .unset, .unset, .unset, .unset, .unset, .unset] [(.int (8 : Int32)), (.long jp5), (.long (256 : Int64)), (.long jp4)])
      refine own_st (fun t k => XS.lushr X0.here hx rfl (hb hby at_59) rfl k) ?_
      show own_Go _ _ _ _ s₁ (mkF m 60 #[.val (.int ip0), .val (.long jp1), .second, .val (.long jp2), .second, .val (.long jp3), .second, .val (.long jp4), .second, .val (.long jp5), .second, .val (.int (ip0 &&& (3 : Int32))), .val (.long jp2), .second, .val (.long jp3), .second, .val (.long (jp4 ^^^ ((1 : Int64) + (jp5 &&& (127 : Int64))))), .second, .unset, .unset, .unset, .unset, .unset, .unset, .unset, .unset, .unset, .unset, .unset] [(.long ((jp5.toUInt64 >>> ((8 : Int32) &&& 0x3f).toInt64.toUInt64).toInt64)), (.long (256 : Int64)), (.long jp4)])
      refine own_st (X0.ldc2Long hx hown (mvT hZ (own_w hw 2 rfl)) (g := (mkF m 60 #[.val (.int ip0), .val (.long jp1), .second, .val (.long jp2), .second, .val (.long jp3), .second, .val (.long jp4), .second, .val (.long jp5), .second, .val (.int (ip0 &&& (3 : Int32))), .val (.long jp2), .second, .val (.long jp3), .second, .val (.long (jp4 ^^^ ((1 : Int64) + (jp5 &&& (127 : Int64))))), .second, .unset, .unset, .unset, .unset, .unset, .unset, .unset, .unset, .unset, .unset, .unset] [(.long ((jp5.toUInt64 >>> ((8 : Int32) &&& 0x3f).toInt64.toUInt64).toInt64)), (.long (256 : Int64)), (.long jp4)])) rfl (hb hby at_60)) ?_
      refine own_st (fun t k => XS.land X0.here hx rfl (hb hby at_63) rfl k) ?_
      show own_Go _ _ _ _ s₁ (mkF m 64 #[.val (.int ip0), .val (.long jp1), .second, .val (.long jp2), .second, .val (.long jp3), .second, .val (.long jp4), .second, .val (.long jp5), .second, .val (.int (ip0 &&& (3 : Int32))), .val (.long jp2), .second, .val (.long jp3), .second, .val (.long (jp4 ^^^ ((1 : Int64) + (jp5 &&& (127 : Int64))))), .second, .unset, .unset, .unset, .unset, .unset, .unset, .unset, .unset, .unset, .unset, .unset] [(.long (((jp5.toUInt64 >>> ((8 : Int32) &&& 0x3f).toInt64.toUInt64).toInt64) &&& (255 : Int64))), (.long (256 : Int64)), (.long jp4)])
      refine own_st (fun t k => XS.lor X0.here hx rfl (hb hby at_64) rfl k) ?_
      refine own_st (fun t k => XS.lxor X0.here hx rfl (hb hby at_65) rfl k) ?_
      refine own_st (fun t k => XS.lstore X0.here hx rfl (hb hby at_66) rfl (l' := #[.val (.int ip0), .val (.long jp1), .second, .val (.long jp2), .second, .val (.long jp3), .second, .val (.long jp4), .second, .val (.long jp5), .second, .val (.int (ip0 &&& (3 : Int32))), .val (.long jp2), .second, .val (.long jp3), .second, .val (.long (jp4 ^^^ ((1 : Int64) + (jp5 &&& (127 : Int64))))), .second, .val (.long (jp4 ^^^ ((256 : Int64) ||| (((jp5.toUInt64 >>> ((8 : Int32) &&& 0x3f).toInt64.toUInt64).toInt64) &&& (255 : Int64))))), .second, .unset, .unset, .unset, .unset, .unset, .unset, .unset, .unset, .unset]) rfl k) ?_
      show own_Go _ _ _ _ s₁ (mkF m 68 #[.val (.int ip0), .val (.long jp1), .second, .val (.long jp2), .second, .val (.long jp3), .second, .val (.long jp4), .second, .val (.long jp5), .second, .val (.int (ip0 &&& (3 : Int32))), .val (.long jp2), .second, .val (.long jp3), .second, .val (.long (jp4 ^^^ ((1 : Int64) + (jp5 &&& (127 : Int64))))), .second, .val (.long (jp4 ^^^ ((256 : Int64) ||| (((jp5.toUInt64 >>> ((8 : Int32) &&& 0x3f).toInt64.toUInt64).toInt64) &&& (255 : Int64))))), .second, .unset, .unset, .unset, .unset, .unset, .unset, .unset, .unset, .unset] [])
      exact own_cut68 ip0 jp1 jp2 jp3 jp4 jp5 (ip0 &&& (3 : Int32)) jp2 jp3 (jp4 ^^^ ((1 : Int64) + (jp5 &&& (127 : Int64)))) (jp4 ^^^ ((256 : Int64) ||| (((jp5.toUInt64 >>> ((8 : Int32) &&& 0x3f).toInt64.toUInt64).toInt64) &&& (255 : Int64)))) w_NONE w_EMPTY w_EMPTY_parts w_NONE_names k_w_EMPTY_parts k_w_NONE_names X0 hx hZ hw hby hml hown hlk hret N0 Z0 e0 S_NONE E_w_NONE S_EMPTY E_w_EMPTY F_parts_w_EMPTY F_names_w_NONE V_w_EMPTY_parts V_w_NONE_names (own_and3 _)
    · skip
      refine own_st (fun t k => XS.ifNo X0.here hx rfl (hb hby at_25) rfl ((if0 _ _).trans (feq hc2).1) k) ?_
      show own_Go _ _ _ _ s₁ (mkF m 28 #[.val (.int ip0), .val (.long jp1), .second, .val (.long jp2), .second, .val (.long jp3), .second, .val (.long jp4), .second, .val (.long jp5), .second, .val (.int (ip0 &&& (3 : Int32))), .val (.long jp2), .second, .unset, .unset, .unset, .unset, .unset, .unset, .unset, .unset, .unset, .unset, .unset, .unset, .unset, .unset, .unset] [])
      refine own_st (fun t k => XS.lload X0.here hx rfl (hb hby at_28) rfl k) ?_
      refine own_st (fun t k => XS.goto X0.here hx rfl (pc0 := 30) (pc' := 35) rfl (hb hby at_30) (by decide) (by decide) k) ?_
      refine own_st (fun t k => XS.lstore X0.here hx rfl (hb hby at_35) rfl (l' := #[.val (.int ip0), .val (.long jp1), .second, .val (.long jp2), .second, .val (.long jp3), .second, .val (.long jp4), .second, .val (.long jp5), .second, .val (.int (ip0 &&& (3 : Int32))), .val (.long jp2), .second, .val (.long jp2), .second, .unset, .unset, .unset, .unset, .unset, .unset, .unset, .unset, .unset, .unset, .unset, .unset, .unset]) rfl k) ?_
      refine own_st (fun t k => XS.lload X0.here hx rfl (hb hby at_37) rfl k) ?_
      show own_Go _ _ _ _ s₁ (mkF m 39 #[.val (.int ip0), .val (.long jp1), .second, .val (.long jp2), .second, .val (.long jp3), .second, .val (.long jp4), .second, .val (.long jp5), .second, .val (.int (ip0 &&& (3 : Int32))), .val (.long jp2), .second, .val (.long jp2), .second, .unset, .unset, .unset, .unset, .unset, .unset, .unset, .unset, .unset, .unset, .unset, .unset, .unset] [(.long jp4)])
      refine own_st (fun t k => XS.lconst X0.here hx rfl (hb hby at_39) k) ?_
      refine own_st (fun t k => XS.lload X0.here hx rfl (hb hby at_40) rfl k) ?_
      show own_Go _ _ _ _ s₁ (mkF m 42 #[.val (.int ip0), .val (.long jp1), .second, .val (.long jp2), .second, .val (.long jp3), .second, .val (.long jp4), .second, .val (.long jp5), .second, .val (.int (ip0 &&& (3 : Int32))), .val (.long jp2), .second, .val (.long jp2), .second, .unset, .unset, .unset, .unset, .unset, .unset, .unset, .unset, .unset, .unset, .unset, .unset, .unset] [(.long jp5), (.long (1 : Int64)), (.long jp4)])
      refine own_st (X0.ldc2Long hx hown (mvT hZ (own_w hw 0 rfl)) (g := (mkF m 42 #[.val (.int ip0), .val (.long jp1), .second, .val (.long jp2), .second, .val (.long jp3), .second, .val (.long jp4), .second, .val (.long jp5), .second, .val (.int (ip0 &&& (3 : Int32))), .val (.long jp2), .second, .val (.long jp2), .second, .unset, .unset, .unset, .unset, .unset, .unset, .unset, .unset, .unset, .unset, .unset, .unset, .unset] [(.long jp5), (.long (1 : Int64)), (.long jp4)])) rfl (hb hby at_42)) ?_
      refine own_st (fun t k => XS.land X0.here hx rfl (hb hby at_45) rfl k) ?_
      show own_Go _ _ _ _ s₁ (mkF m 46 #[.val (.int ip0), .val (.long jp1), .second, .val (.long jp2), .second, .val (.long jp3), .second, .val (.long jp4), .second, .val (.long jp5), .second, .val (.int (ip0 &&& (3 : Int32))), .val (.long jp2), .second, .val (.long jp2), .second, .unset, .unset, .unset, .unset, .unset, .unset, .unset, .unset, .unset, .unset, .unset, .unset, .unset] [(.long (jp5 &&& (127 : Int64))), (.long (1 : Int64)), (.long jp4)])
      refine own_st (fun t k => XS.ladd X0.here hx rfl (hb hby at_46) rfl k) ?_
      refine own_st (fun t k => XS.lxor X0.here hx rfl (hb hby at_47) rfl k) ?_
      refine own_st (fun t k => XS.lstore X0.here hx rfl (hb hby at_48) rfl (l' := #[.val (.int ip0), .val (.long jp1), .second, .val (.long jp2), .second, .val (.long jp3), .second, .val (.long jp4), .second, .val (.long jp5), .second, .val (.int (ip0 &&& (3 : Int32))), .val (.long jp2), .second, .val (.long jp2), .second, .val (.long (jp4 ^^^ ((1 : Int64) + (jp5 &&& (127 : Int64))))), .second, .unset, .unset, .unset, .unset, .unset, .unset, .unset, .unset, .unset, .unset, .unset]) rfl k) ?_
      refine own_st (fun t k => XS.lload X0.here hx rfl (hb hby at_50) rfl k) ?_
      show own_Go _ _ _ _ s₁ (mkF m 52 #[.val (.int ip0), .val (.long jp1), .second, .val (.long jp2), .second, .val (.long jp3), .second, .val (.long jp4), .second, .val (.long jp5), .second, .val (.int (ip0 &&& (3 : Int32))), .val (.long jp2), .second, .val (.long jp2), .second, .val (.long (jp4 ^^^ ((1 : Int64) + (jp5 &&& (127 : Int64))))), .second, .unset, .unset, .unset, .unset, .unset, .unset, .unset, .unset, .unset, .unset, .unset] [(.long jp4)])
      refine own_st (X0.ldc2Long hx hown (mvT hZ (own_w hw 1 rfl)) (g := (mkF m 52 #[.val (.int ip0), .val (.long jp1), .second, .val (.long jp2), .second, .val (.long jp3), .second, .val (.long jp4), .second, .val (.long jp5), .second, .val (.int (ip0 &&& (3 : Int32))), .val (.long jp2), .second, .val (.long jp2), .second, .val (.long (jp4 ^^^ ((1 : Int64) + (jp5 &&& (127 : Int64))))), .second, .unset, .unset, .unset, .unset, .unset, .unset, .unset, .unset, .unset, .unset, .unset] [(.long jp4)])) rfl (hb hby at_52)) ?_
      refine own_st (fun t k => XS.lload X0.here hx rfl (hb hby at_55) rfl k) ?_
      refine own_st (fun t k => XS.bipush X0.here hx rfl (hb hby at_57) k) ?_
      show own_Go _ _ _ _ s₁ (mkF m 59 #[.val (.int ip0), .val (.long jp1), .second, .val (.long jp2), .second, .val (.long jp3), .second, .val (.long jp4), .second, .val (.long jp5), .second, .val (.int (ip0 &&& (3 : Int32))), .val (.long jp2), .second, .val (.long jp2), .second, .val (.long (jp4 ^^^ ((1 : Int64) + (jp5 &&& (127 : Int64))))), .second, .unset, .unset, .unset, .unset, .unset, .unset, .unset, .unset, .unset, .unset, .unset] [(.int (8 : Int32)), (.long jp5), (.long (256 : Int64)), (.long jp4)])
      refine own_st (fun t k => XS.lushr X0.here hx rfl (hb hby at_59) rfl k) ?_
      show own_Go _ _ _ _ s₁ (mkF m 60 #[.val (.int ip0), .val (.long jp1), .second, .val (.long jp2), .second, .val (.long jp3), .second, .val (.long jp4), .second, .val (.long jp5), .second, .val (.int (ip0 &&& (3 : Int32))), .val (.long jp2), .second, .val (.long jp2), .second, .val (.long (jp4 ^^^ ((1 : Int64) + (jp5 &&& (127 : Int64))))), .second, .unset, .unset, .unset, .unset, .unset, .unset, .unset, .unset, .unset, .unset, .unset] [(.long ((jp5.toUInt64 >>> ((8 : Int32) &&& 0x3f).toInt64.toUInt64).toInt64)), (.long (256 : Int64)), (.long jp4)])
      refine own_st (X0.ldc2Long hx hown (mvT hZ (own_w hw 2 rfl)) (g := (mkF m 60 #[.val (.int ip0), .val (.long jp1), .second, .val (.long jp2), .second, .val (.long jp3), .second, .val (.long jp4), .second, .val (.long jp5), .second, .val (.int (ip0 &&& (3 : Int32))), .val (.long jp2), .second, .val (.long jp2), .second, .val (.long (jp4 ^^^ ((1 : Int64) + (jp5 &&& (127 : Int64))))), .second, .unset, .unset, .unset, .unset, .unset, .unset, .unset, .unset, .unset, .unset, .unset] [(.long ((jp5.toUInt64 >>> ((8 : Int32) &&& 0x3f).toInt64.toUInt64).toInt64)), (.long (256 : Int64)), (.long jp4)])) rfl (hb hby at_60)) ?_
      refine own_st (fun t k => XS.land X0.here hx rfl (hb hby at_63) rfl k) ?_
      refine own_st (fun t k => XS.lor X0.here hx rfl (hb hby at_64) rfl k) ?_
      refine own_st (fun t k => XS.lxor X0.here hx rfl (hb hby at_65) rfl k) ?_
      show own_Go _ _ _ _ s₁ (mkF m 66 #[.val (.int ip0), .val (.long jp1), .second, .val (.long jp2), .second, .val (.long jp3), .second, .val (.long jp4), .second, .val (.long jp5), .second, .val (.int (ip0 &&& (3 : Int32))), .val (.long jp2), .second, .val (.long jp2), .second, .val (.long (jp4 ^^^ ((1 : Int64) + (jp5 &&& (127 : Int64))))), .second, .unset, .unset, .unset, .unset, .unset, .unset, .unset, .unset, .unset, .unset, .unset] [(.long (jp4 ^^^ ((256 : Int64) ||| (((jp5.toUInt64 >>> ((8 : Int32) &&& 0x3f).toInt64.toUInt64).toInt64) &&& (255 : Int64)))))])
      refine own_st (fun t k => XS.lstore X0.here hx rfl (hb hby at_66) rfl (l' := #[.val (.int ip0), .val (.long jp1), .second, .val (.long jp2), .second, .val (.long jp3), .second, .val (.long jp4), .second, .val (.long jp5), .second, .val (.int (ip0 &&& (3 : Int32))), .val (.long jp2), .second, .val (.long jp2), .second, .val (.long (jp4 ^^^ ((1 : Int64) + (jp5 &&& (127 : Int64))))), .second, .val (.long (jp4 ^^^ ((256 : Int64) ||| (((jp5.toUInt64 >>> ((8 : Int32) &&& 0x3f).toInt64.toUInt64).toInt64) &&& (255 : Int64))))), .second, .unset, .unset, .unset, .unset, .unset, .unset, .unset, .unset, .unset]) rfl k) ?_
      show own_Go _ _ _ _ s₁ (mkF m 68 #[.val (.int ip0), .val (.long jp1), .second, .val (.long jp2), .second, .val (.long jp3), .second, .val (.long jp4), .second, .val (.long jp5), .second, .val (.int (ip0 &&& (3 : Int32))), .val (.long jp2), .second, .val (.long jp2), .second, .val (.long (jp4 ^^^ ((1 : Int64) + (jp5 &&& (127 : Int64))))), .second, .val (.long (jp4 ^^^ ((256 : Int64) ||| (((jp5.toUInt64 >>> ((8 : Int32) &&& 0x3f).toInt64.toUInt64).toInt64) &&& (255 : Int64))))), .second, .unset, .unset, .unset, .unset, .unset, .unset, .unset, .unset, .unset] [])
      exact own_cut68 ip0 jp1 jp2 jp3 jp4 jp5 (ip0 &&& (3 : Int32)) jp2 jp2 (jp4 ^^^ ((1 : Int64) + (jp5 &&& (127 : Int64)))) (jp4 ^^^ ((256 : Int64) ||| (((jp5.toUInt64 >>> ((8 : Int32) &&& 0x3f).toInt64.toUInt64).toInt64) &&& (255 : Int64)))) w_NONE w_EMPTY w_EMPTY_parts w_NONE_names k_w_EMPTY_parts k_w_NONE_names X0 hx hZ hw hby hml hown hlk hret N0 Z0 e0 S_NONE E_w_NONE S_EMPTY E_w_EMPTY F_parts_w_EMPTY F_names_w_NONE V_w_EMPTY_parts V_w_NONE_names (own_and3 _)
  · skip
    refine own_st (fun t k => XS.ifNo X0.here hx rfl (hb hby at_10) rfl ((if0 _ _).trans (feq hc1).1) k) ?_
    refine own_st (fun t k => XS.lloadN X0.here hx rfl (hb hby at_13) rfl k) ?_
    refine own_st (fun t k => XS.goto X0.here hx rfl (pc0 := 14) (pc' := 18) rfl (hb hby at_14) (by decide) (by decide) k) ?_
    show own_Go _ _ _ _ s₁ (mkF m 18 #[.val (.int ip0), .val (.long jp1), .second, .val (.long jp2), .second, .val (.long jp3), .second, .val (.long jp4), .second, .val (.long jp5), .second, .val (.int (ip0 &&& (3 : Int32))), .unset, .unset, .unset, .unset, .unset, .unset, .unset, .unset, .unset, .unset, .unset, .unset, .unset, .unset, .unset, .unset, .unset] [(.long jp1)])
    refine own_st (fun t k => XS.lstore X0.here hx rfl (hb hby at_18) rfl (l' := #[.val (.int ip0), .val (.long jp1), .second, .val (.long jp2), .second, .val (.long jp3), .second, .val (.long jp4), .second, .val (.long jp5), .second, .val (.int (ip0 &&& (3 : Int32))), .val (.long jp1), .second, .unset, .unset, .unset, .unset, .unset, .unset, .unset, .unset, .unset, .unset, .unset, .unset, .unset, .unset, .unset]) rfl k) ?_
    refine own_st (fun t k => XS.iloadN X0.here hx rfl (hb hby at_20) rfl k) ?_
    refine own_st (fun t k => XS.iconst X0.here hx rfl (hb hby at_21) k) ?_
    show own_Go _ _ _ _ s₁ (mkF m 22 #[.val (.int ip0), .val (.long jp1), .second, .val (.long jp2), .second, .val (.long jp3), .second, .val (.long jp4), .second, .val (.long jp5), .second, .val (.int (ip0 &&& (3 : Int32))), .val (.long jp1), .second, .unset, .unset, .unset, .unset, .unset, .unset, .unset, .unset, .unset, .unset, .unset, .unset, .unset, .unset, .unset] [(.int (3 : Int32)), (.int ip0)])
    refine own_st (fun t k => XS.iushr X0.here hx rfl (hb hby at_22) rfl k) ?_
    show own_Go _ _ _ _ s₁ (mkF m 23 #[.val (.int ip0), .val (.long jp1), .second, .val (.long jp2), .second, .val (.long jp3), .second, .val (.long jp4), .second, .val (.long jp5), .second, .val (.int (ip0 &&& (3 : Int32))), .val (.long jp1), .second, .unset, .unset, .unset, .unset, .unset, .unset, .unset, .unset, .unset, .unset, .unset, .unset, .unset, .unset, .unset] [(.int ((ip0.toUInt32 >>> ((3 : Int32) &&& 31).toUInt32).toInt32))])
    refine own_st (fun t k => XS.iconst X0.here hx rfl (hb hby at_23) k) ?_
    refine own_st (fun t k => XS.iand X0.here hx rfl (hb hby at_24) rfl k) ?_
    show own_Go _ _ _ _ s₁ (mkF m 25 #[.val (.int ip0), .val (.long jp1), .second, .val (.long jp2), .second, .val (.long jp3), .second, .val (.long jp4), .second, .val (.long jp5), .second, .val (.int (ip0 &&& (3 : Int32))), .val (.long jp1), .second, .unset, .unset, .unset, .unset, .unset, .unset, .unset, .unset, .unset, .unset, .unset, .unset, .unset, .unset, .unset] [(.int (((ip0.toUInt32 >>> ((3 : Int32) &&& 31).toUInt32).toInt32) &&& (1 : Int32)))])
    by_cases hc3 : (((ip0.toUInt32 >>> ((3 : Int32) &&& 31).toUInt32).toInt32) &&& (1 : Int32)) = (0 : Int32)
    · skip
      refine own_st (fun t k => XS.ifYes X0.here hx rfl (pc0 := 25) (pc' := 33) rfl (hb hby at_25) rfl ((if0 _ _).trans (teq hc3).1) (by decide) (by decide) k) ?_
      refine own_st (fun t k => XS.lload X0.here hx rfl (hb hby at_33) rfl k) ?_
      show own_Go _ _ _ _ s₁ (mkF m 35 #[.val (.int ip0), .val (.long jp1), .second, .val (.long jp2), .second, .val (.long jp3), .second, .val (.long jp4), .second, .val (.long jp5), .second, .val (.int (ip0 &&& (3 : Int32))), .val (.long jp1), .second, .unset, .unset, .unset, .unset, .unset, .unset, .unset, .unset, .unset, .unset, .unset, .unset, .unset, .unset, .unset] [(.long jp3)])
      refine own_st (fun t k => XS.lstore X0.here hx rfl (hb hby at_35) rfl (l' := #[.val (.int ip0), .val (.long jp1), .second, .val (.long jp2), .second, .val (.long jp3), .second, .val (.long jp4), .second, .val (.long jp5), .second, .val (.int (ip0 &&& (3 : Int32))), .val (.long jp1), .second, .val (.long jp3), .second, .unset, .unset, .unset, .unset, .unset, .unset, .unset, .unset, .unset, .unset, .unset, .unset, .unset]) rfl k) ?_
      refine own_st (fun t k => XS.lload X0.here hx rfl (hb hby at_37) rfl k) ?_
      refine own_st (fun t k => XS.lconst X0.here hx rfl (hb hby at_39) k) ?_
      refine own_st (fun t k => XS.lload X0.here hx rfl (hb hby at_40) rfl k) ?_
      show own_Go _ _ _ _ s₁ (mkF m 42 #[.val (.int ip0), .val (.long jp1), .second, .val (.long jp2), .second, .val (.long jp3), .second, .val (.long jp4), .second, .val (.long jp5), .second, .val (.int (ip0 &&& (3 : Int32))), .val (.long jp1), .second, .val (.long jp3), .second, .unset, .unset, .unset, .unset, .unset, .unset, .unset, .unset, .unset, .unset, .unset, .unset, .unset] [(.long jp5), (.long (1 : Int64)), (.long jp4)])
      refine own_st (X0.ldc2Long hx hown (mvT hZ (own_w hw 0 rfl)) (g := (mkF m 42 #[.val (.int ip0), .val (.long jp1), .second, .val (.long jp2), .second, .val (.long jp3), .second, .val (.long jp4), .second, .val (.long jp5), .second, .val (.int (ip0 &&& (3 : Int32))), .val (.long jp1), .second, .val (.long jp3), .second, .unset, .unset, .unset, .unset, .unset, .unset, .unset, .unset, .unset, .unset, .unset, .unset, .unset] [(.long jp5), (.long (1 : Int64)), (.long jp4)])) rfl (hb hby at_42)) ?_
      refine own_st (fun t k => XS.land X0.here hx rfl (hb hby at_45) rfl k) ?_
      refine own_st (fun t k => XS.ladd X0.here hx rfl (hb hby at_46) rfl k) ?_
      refine own_st (fun t k => XS.lxor X0.here hx rfl (hb hby at_47) rfl k) ?_
      show own_Go _ _ _ _ s₁ (mkF m 48 #[.val (.int ip0), .val (.long jp1), .second, .val (.long jp2), .second, .val (.long jp3), .second, .val (.long jp4), .second, .val (.long jp5), .second, .val (.int (ip0 &&& (3 : Int32))), .val (.long jp1), .second, .val (.long jp3), .second, .unset, .unset, .unset, .unset, .unset, .unset, .unset, .unset, .unset, .unset, .unset, .unset, .unset] [(.long (jp4 ^^^ ((1 : Int64) + (jp5 &&& (127 : Int64)))))])
      refine own_st (fun t k => XS.lstore X0.here hx rfl (hb hby at_48) rfl (l' := #[.val (.int ip0), .val (.long jp1), .second, .val (.long jp2), .second, .val (.long jp3), .second, .val (.long jp4), .second, .val (.long jp5), .second, .val (.int (ip0 &&& (3 : Int32))), .val (.long jp1), .second, .val (.long jp3), .second, .val (.long (jp4 ^^^ ((1 : Int64) + (jp5 &&& (127 : Int64))))), .second, .unset, .unset, .unset, .unset, .unset, .unset, .unset, .unset, .unset, .unset, .unset]) rfl k) ?_
      refine own_st (fun t k => XS.lload X0.here hx rfl (hb hby at_50) rfl k) ?_
      show own_Go _ _ _ _ s₁ (mkF m 52 #[.val (.int ip0), .val (.long jp1), .second, .val (.long jp2), .second, .val (.long jp3), .second, .val (.long jp4), .second, .val (.long jp5), .second, .val (.int (ip0 &&& (3 : Int32))), .val (.long jp1), .second, .val (.long jp3), .second, .val (.long (jp4 ^^^ ((1 : Int64) + (jp5 &&& (127 : Int64))))), .second, .unset, .unset, .unset, .unset, .unset, .unset, .unset, .unset, .unset, .unset, .unset] [(.long jp4)])
      refine own_st (X0.ldc2Long hx hown (mvT hZ (own_w hw 1 rfl)) (g := (mkF m 52 #[.val (.int ip0), .val (.long jp1), .second, .val (.long jp2), .second, .val (.long jp3), .second, .val (.long jp4), .second, .val (.long jp5), .second, .val (.int (ip0 &&& (3 : Int32))), .val (.long jp1), .second, .val (.long jp3), .second, .val (.long (jp4 ^^^ ((1 : Int64) + (jp5 &&& (127 : Int64))))), .second, .unset, .unset, .unset, .unset, .unset, .unset, .unset, .unset, .unset, .unset, .unset] [(.long jp4)])) rfl (hb hby at_52)) ?_
      refine own_st (fun t k => XS.lload X0.here hx rfl (hb hby at_55) rfl k) ?_
      show own_Go _ _ _ _ s₁ (mkF m 57 #[.val (.int ip0), .val (.long jp1), .second, .val (.long jp2), .second, .val (.long jp3), .second, .val (.long jp4), .second, .val (.long jp5), .second, .val (.int (ip0 &&& (3 : Int32))), .val (.long jp1), .second, .val (.long jp3), .second, .val (.long (jp4 ^^^ ((1 : Int64) + (jp5 &&& (127 : Int64))))), .second, .unset, .unset, .unset, .unset, .unset, .unset, .unset, .unset, .unset, .unset, .unset] [(.long jp5), (.long (256 : Int64)), (.long jp4)])
      refine own_st (fun t k => XS.bipush X0.here hx rfl (hb hby at_57) k) ?_
      show own_Go _ _ _ _ s₁ (mkF m 59 #[.val (.int ip0), .val (.long jp1), .second, .val (.long jp2), .second, .val (.long jp3), .second, .val (.long jp4), .second, .val (.long jp5), .second, .val (.int (ip0 &&& (3 : Int32))), .val (.long jp1), .second, .val (.long jp3), .second, .val (.long (jp4 ^^^ ((1 : Int64) + (jp5 &&& (127 : Int64))))), .second, .unset, .unset, .unset, .unset, .unset, .unset, .unset, .unset, .unset, .unset, .unset] [(.int (8 : Int32)), (.long jp5), (.long (256 : Int64)), (.long jp4)])
      refine own_st (fun t k => XS.lushr X0.here hx rfl (hb hby at_59) rfl k) ?_
      show own_Go _ _ _ _ s₁ (mkF m 60 #[.val (.int ip0), .val (.long jp1), .second, .val (.long jp2), .second, .val (.long jp3), .second, .val (.long jp4), .second, .val (.long jp5), .second, .val (.int (ip0 &&& (3 : Int32))), .val (.long jp1), .second, .val (.long jp3), .second, .val (.long (jp4 ^^^ ((1 : Int64) + (jp5 &&& (127 : Int64))))), .second, .unset, .unset, .unset, .unset, .unset, .unset, .unset, .unset, .unset, .unset, .unset] [(.long ((jp5.toUInt64 >>> ((8 : Int32) &&& 0x3f).toInt64.toUInt64).toInt64)), (.long (256 : Int64)), (.long jp4)])
      refine own_st (X0.ldc2Long hx hown (mvT hZ (own_w hw 2 rfl)) (g := (mkF m 60 #[.val (.int ip0), .val (.long jp1), .second, .val (.long jp2), .second, .val (.long jp3), .second, .val (.long jp4), .second, .val (.long jp5), .second, .val (.int (ip0 &&& (3 : Int32))), .val (.long jp1), .second, .val (.long jp3), .second, .val (.long (jp4 ^^^ ((1 : Int64) + (jp5 &&& (127 : Int64))))), .second, .unset, .unset, .unset, .unset, .unset, .unset, .unset, .unset, .unset, .unset, .unset] [(.long ((jp5.toUInt64 >>> ((8 : Int32) &&& 0x3f).toInt64.toUInt64).toInt64)), (.long (256 : Int64)), (.long jp4)])) rfl (hb hby at_60)) ?_
      refine own_st (fun t k => XS.land X0.here hx rfl (hb hby at_63) rfl k) ?_
      show own_Go _ _ _ _ s₁ (mkF m 64 #[.val (.int ip0), .val (.long jp1), .second, .val (.long jp2), .second, .val (.long jp3), .second, .val (.long jp4), .second, .val (.long jp5), .second, .val (.int (ip0 &&& (3 : Int32))), .val (.long jp1), .second, .val (.long jp3), .second, .val (.long (jp4 ^^^ ((1 : Int64) + (jp5 &&& (127 : Int64))))), .second, .unset, .unset, .unset, .unset, .unset, .unset, .unset, .unset, .unset, .unset, .unset] [(.long (((jp5.toUInt64 >>> ((8 : Int32) &&& 0x3f).toInt64.toUInt64).toInt64) &&& (255 : Int64))), (.long (256 : Int64)), (.long jp4)])
      refine own_st (fun t k => XS.lor X0.here hx rfl (hb hby at_64) rfl k) ?_
      refine own_st (fun t k => XS.lxor X0.here hx rfl (hb hby at_65) rfl k) ?_
      refine own_st (fun t k => XS.lstore X0.here hx rfl (hb hby at_66) rfl (l' := #[.val (.int ip0), .val (.long jp1), .second, .val (.long jp2), .second, .val (.long jp3), .second, .val (.long jp4), .second, .val (.long jp5), .second, .val (.int (ip0 &&& (3 : Int32))), .val (.long jp1), .second, .val (.long jp3), .second, .val (.long (jp4 ^^^ ((1 : Int64) + (jp5 &&& (127 : Int64))))), .second, .val (.long (jp4 ^^^ ((256 : Int64) ||| (((jp5.toUInt64 >>> ((8 : Int32) &&& 0x3f).toInt64.toUInt64).toInt64) &&& (255 : Int64))))), .second, .unset, .unset, .unset, .unset, .unset, .unset, .unset, .unset, .unset]) rfl k) ?_
      show own_Go _ _ _ _ s₁ (mkF m 68 #[.val (.int ip0), .val (.long jp1), .second, .val (.long jp2), .second, .val (.long jp3), .second, .val (.long jp4), .second, .val (.long jp5), .second, .val (.int (ip0 &&& (3 : Int32))), .val (.long jp1), .second, .val (.long jp3), .second, .val (.long (jp4 ^^^ ((1 : Int64) + (jp5 &&& (127 : Int64))))), .second, .val (.long (jp4 ^^^ ((256 : Int64) ||| (((jp5.toUInt64 >>> ((8 : Int32) &&& 0x3f).toInt64.toUInt64).toInt64) &&& (255 : Int64))))), .second, .unset, .unset, .unset, .unset, .unset, .unset, .unset, .unset, .unset] [])
      exact own_cut68 ip0 jp1 jp2 jp3 jp4 jp5 (ip0 &&& (3 : Int32)) jp1 jp3 (jp4 ^^^ ((1 : Int64) + (jp5 &&& (127 : Int64)))) (jp4 ^^^ ((256 : Int64) ||| (((jp5.toUInt64 >>> ((8 : Int32) &&& 0x3f).toInt64.toUInt64).toInt64) &&& (255 : Int64)))) w_NONE w_EMPTY w_EMPTY_parts w_NONE_names k_w_EMPTY_parts k_w_NONE_names X0 hx hZ hw hby hml hown hlk hret N0 Z0 e0 S_NONE E_w_NONE S_EMPTY E_w_EMPTY F_parts_w_EMPTY F_names_w_NONE V_w_EMPTY_parts V_w_NONE_names (own_and3 _)
    · skip
      refine own_st (fun t k => XS.ifNo X0.here hx rfl (hb hby at_25) rfl ((if0 _ _).trans (feq hc3).1) k) ?_
      show own_Go _ _ _ _ s₁ (mkF m 28 #[.val (.int ip0), .val (.long jp1), .second, .val (.long jp2), .second, .val (.long jp3), .second, .val (.long jp4), .second, .val (.long jp5), .second, .val (.int (ip0 &&& (3 : Int32))), .val (.long jp1), .second, .unset, .unset, .unset, .unset, .unset, .unset, .unset, .unset, .unset, .unset, .unset, .unset, .unset, .unset, .unset] [])
      refine own_st (fun t k => XS.lload X0.here hx rfl (hb hby at_28) rfl k) ?_
      refine own_st (fun t k => XS.goto X0.here hx rfl (pc0 := 30) (pc' := 35) rfl (hb hby at_30) (by decide) (by decide) k) ?_
      refine own_st (fun t k => XS.lstore X0.here hx rfl (hb hby at_35) rfl (l' := #[.val (.int ip0), .val (.long jp1), .second, .val (.long jp2), .second, .val (.long jp3), .second, .val (.long jp4), .second, .val (.long jp5), .second, .val (.int (ip0 &&& (3 : Int32))), .val (.long jp1), .second, .val (.long jp1), .second, .unset, .unset, .unset, .unset, .unset, .unset, .unset, .unset, .unset, .unset, .unset, .unset, .unset]) rfl k) ?_
      refine own_st (fun t k => XS.lload X0.here hx rfl (hb hby at_37) rfl k) ?_
      show own_Go _ _ _ _ s₁ (mkF m 39 #[.val (.int ip0), .val (.long jp1), .second, .val (.long jp2), .second, .val (.long jp3), .second, .val (.long jp4), .second, .val (.long jp5), .second, .val (.int (ip0 &&& (3 : Int32))), .val (.long jp1), .second, .val (.long jp1), .second, .unset, .unset, .unset, .unset, .unset, .unset, .unset, .unset, .unset, .unset, .unset, .unset, .unset] [(.long jp4)])
      refine own_st (fun t k => XS.lconst X0.here hx rfl (hb hby at_39) k) ?_
      refine own_st (fun t k => XS.lload X0.here hx rfl (hb hby at_40) rfl k) ?_
      show own_Go _ _ _ _ s₁ (mkF m 42 #[.val (.int ip0), .val (.long jp1), .second, .val (.long jp2), .second, .val (.long jp3), .second, .val (.long jp4), .second, .val (.long jp5), .second, .val (.int (ip0 &&& (3 : Int32))), .val (.long jp1), .second, .val (.long jp1), .second, .unset, .unset, .unset, .unset, .unset, .unset, .unset, .unset, .unset, .unset, .unset, .unset, .unset] [(.long jp5), (.long (1 : Int64)), (.long jp4)])
      refine own_st (X0.ldc2Long hx hown (mvT hZ (own_w hw 0 rfl)) (g := (mkF m 42 #[.val (.int ip0), .val (.long jp1), .second, .val (.long jp2), .second, .val (.long jp3), .second, .val (.long jp4), .second, .val (.long jp5), .second, .val (.int (ip0 &&& (3 : Int32))), .val (.long jp1), .second, .val (.long jp1), .second, .unset, .unset, .unset, .unset, .unset, .unset, .unset, .unset, .unset, .unset, .unset, .unset, .unset] [(.long jp5), (.long (1 : Int64)), (.long jp4)])) rfl (hb hby at_42)) ?_
      refine own_st (fun t k => XS.land X0.here hx rfl (hb hby at_45) rfl k) ?_
      show own_Go _ _ _ _ s₁ (mkF m 46 #[.val (.int ip0), .val (.long jp1), .second, .val (.long jp2), .second, .val (.long jp3), .second, .val (.long jp4), .second, .val (.long jp5), .second, .val (.int (ip0 &&& (3 : Int32))), .val (.long jp1), .second, .val (.long jp1), .second, .unset, .unset, .unset, .unset, .unset, .unset, .unset, .unset, .unset, .unset, .unset, .unset, .unset] [(.long (jp5 &&& (127 : Int64))), (.long (1 : Int64)), (.long jp4)])
      refine own_st (fun t k => XS.ladd X0.here hx rfl (hb hby at_46) rfl k) ?_
      refine own_st (fun t k => XS.lxor X0.here hx rfl (hb hby at_47) rfl k) ?_
      refine own_st (fun t k => XS.lstore X0.here hx rfl (hb hby at_48) rfl (l' := #[.val (.int ip0), .val (.long jp1), .second, .val (.long jp2), .second, .val (.long jp3), .second, .val (.long jp4), .second, .val (.long jp5), .second, .val (.int (ip0 &&& (3 : Int32))), .val (.long jp1), .second, .val (.long jp1), .second, .val (.long (jp4 ^^^ ((1 : Int64) + (jp5 &&& (127 : Int64))))), .second, .unset, .unset, .unset, .unset, .unset, .unset, .unset, .unset, .unset, .unset, .unset]) rfl k) ?_
      refine own_st (fun t k => XS.lload X0.here hx rfl (hb hby at_50) rfl k) ?_
      show own_Go _ _ _ _ s₁ (mkF m 52 #[.val (.int ip0), .val (.long jp1), .second, .val (.long jp2), .second, .val (.long jp3), .second, .val (.long jp4), .second, .val (.long jp5), .second, .val (.int (ip0 &&& (3 : Int32))), .val (.long jp1), .second, .val (.long jp1), .second, .val (.long (jp4 ^^^ ((1 : Int64) + (jp5 &&& (127 : Int64))))), .second, .unset, .unset, .unset, .unset, .unset, .unset, .unset, .unset, .unset, .unset, .unset] [(.long jp4)])
      refine own_st (X0.ldc2Long hx hown (mvT hZ (own_w hw 1 rfl)) (g := (mkF m 52 #[.val (.int ip0), .val (.long jp1), .second, .val (.long jp2), .second, .val (.long jp3), .second, .val (.long jp4), .second, .val (.long jp5), .second, .val (.int (ip0 &&& (3 : Int32))), .val (.long jp1), .second, .val (.long jp1), .second, .val (.long (jp4 ^^^ ((1 : Int64) + (jp5 &&& (127 : Int64))))), .second, .unset, .unset, .unset, .unset, .unset, .unset, .unset, .unset, .unset, .unset, .unset] [(.long jp4)])) rfl (hb hby at_52)) ?_
      refine own_st (fun t k => XS.lload X0.here hx rfl (hb hby at_55) rfl k) ?_
      refine own_st (fun t k => XS.bipush X0.here hx rfl (hb hby at_57) k) ?_
      show own_Go _ _ _ _ s₁ (mkF m 59 #[.val (.int ip0), .val (.long jp1), .second, .val (.long jp2), .second, .val (.long jp3), .second, .val (.long jp4), .second, .val (.long jp5), .second, .val (.int (ip0 &&& (3 : Int32))), .val (.long jp1), .second, .val (.long jp1), .second, .val (.long (jp4 ^^^ ((1 : Int64) + (jp5 &&& (127 : Int64))))), .second, .unset, .unset, .unset, .unset, .unset, .unset, .unset, .unset, .unset, .unset, .unset] [(.int (8 : Int32)), (.long jp5), (.long (256 : Int64)), (.long jp4)])
      refine own_st (fun t k => XS.lushr X0.here hx rfl (hb hby at_59) rfl k) ?_
      show own_Go _ _ _ _ s₁ (mkF m 60 #[.val (.int ip0), .val (.long jp1), .second, .val (.long jp2), .second, .val (.long jp3), .second, .val (.long jp4), .second, .val (.long jp5), .second, .val (.int (ip0 &&& (3 : Int32))), .val (.long jp1), .second, .val (.long jp1), .second, .val (.long (jp4 ^^^ ((1 : Int64) + (jp5 &&& (127 : Int64))))), .second, .unset, .unset, .unset, .unset, .unset, .unset, .unset, .unset, .unset, .unset, .unset] [(.long ((jp5.toUInt64 >>> ((8 : Int32) &&& 0x3f).toInt64.toUInt64).toInt64)), (.long (256 : Int64)), (.long jp4)])
      refine own_st (X0.ldc2Long hx hown (mvT hZ (own_w hw 2 rfl)) (g := (mkF m 60 #[.val (.int ip0), .val (.long jp1), .second, .val (.long jp2), .second, .val (.long jp3), .second, .val (.long jp4), .second, .val (.long jp5), .second, .val (.int (ip0 &&& (3 : Int32))), .val (.long jp1), .second, .val (.long jp1), .second, .val (.long (jp4 ^^^ ((1 : Int64) + (jp5 &&& (127 : Int64))))), .second, .unset, .unset, .unset, .unset, .unset, .unset, .unset, .unset, .unset, .unset, .unset] [(.long ((jp5.toUInt64 >>> ((8 : Int32) &&& 0x3f).toInt64.toUInt64).toInt64)), (.long (256 : Int64)), (.long jp4)])) rfl (hb hby at_60)) ?_
      refine own_st (fun t k => XS.land X0.here hx rfl (hb hby at_63) rfl k) ?_
      refine own_st (fun t k => XS.lor X0.here hx rfl (hb hby at_64) rfl k) ?_
      refine own_st (fun t k => XS.lxor X0.here hx rfl (hb hby at_65) rfl k) ?_
      show own_Go _ _ _ _ s₁ (mkF m 66 #[.val (.int ip0), .val (.long jp1), .second, .val (.long jp2), .second, .val (.long jp3), .second, .val (.long jp4), .second, .val (.long jp5), .second, .val (.int (ip0 &&& (3 : Int32))), .val (.long jp1), .second, .val (.long jp1), .second, .val (.long (jp4 ^^^ ((1 : Int64) + (jp5 &&& (127 : Int64))))), .second, .unset, .unset, .unset, .unset, .unset, .unset, .unset, .unset, .unset, .unset, .unset] [(.long (jp4 ^^^ ((256 : Int64) ||| (((jp5.toUInt64 >>> ((8 : Int32) &&& 0x3f).toInt64.toUInt64).toInt64) &&& (255 : Int64)))))])
      refine own_st (fun t k => XS.lstore X0.here hx rfl (hb hby at_66) rfl (l' := #[.val (.int ip0), .val (.long jp1), .second, .val (.long jp2), .second, .val (.long jp3), .second, .val (.long jp4), .second, .val (.long jp5), .second, .val (.int (ip0 &&& (3 : Int32))), .val (.long jp1), .second, .val (.long jp1), .second, .val (.long (jp4 ^^^ ((1 : Int64) + (jp5 &&& (127 : Int64))))), .second, .val (.long (jp4 ^^^ ((256 : Int64) ||| (((jp5.toUInt64 >>> ((8 : Int32) &&& 0x3f).toInt64.toUInt64).toInt64) &&& (255 : Int64))))), .second, .unset, .unset, .unset, .unset, .unset, .unset, .unset, .unset, .unset]) rfl k) ?_
      show own_Go _ _ _ _ s₁ (mkF m 68 #[.val (.int ip0), .val (.long jp1), .second, .val (.long jp2), .second, .val (.long jp3), .second, .val (.long jp4), .second, .val (.long jp5), .second, .val (.int (ip0 &&& (3 : Int32))), .val (.long jp1), .second, .val (.long jp1), .second, .val (.long (jp4 ^^^ ((1 : Int64) + (jp5 &&& (127 : Int64))))), .second, .val (.long (jp4 ^^^ ((256 : Int64) ||| (((jp5.toUInt64 >>> ((8 : Int32) &&& 0x3f).toInt64.toUInt64).toInt64) &&& (255 : Int64))))), .second, .unset, .unset, .unset, .unset, .unset, .unset, .unset, .unset, .unset] [])
      exact own_cut68 ip0 jp1 jp2 jp3 jp4 jp5 (ip0 &&& (3 : Int32)) jp1 jp1 (jp4 ^^^ ((1 : Int64) + (jp5 &&& (127 : Int64)))) (jp4 ^^^ ((256 : Int64) ||| (((jp5.toUInt64 >>> ((8 : Int32) &&& 0x3f).toInt64.toUInt64).toInt64) &&& (255 : Int64)))) w_NONE w_EMPTY w_EMPTY_parts w_NONE_names k_w_EMPTY_parts k_w_NONE_names X0 hx hZ hw hby hml hown hlk hret N0 Z0 e0 S_NONE E_w_NONE S_EMPTY E_w_EMPTY F_parts_w_EMPTY F_names_w_NONE V_w_EMPTY_parts V_w_NONE_names (own_and3 _)
set_option maxRecDepth 65536 in
set_option maxHeartbeats 40000000 in
theorem own_comes {Post : Tables → Env → Array Value → State → Outcome → State → Prop} (hpost : ∀ tb e args s v u, (limb_1_1.after args s (.returned v) u = true ∧ limb_1_2.after args s (.returned v) u = true ∧ True) → FrameEnd s (.returned v) u (Jvm.fieldLocs frame_1_writes args s ++ Jvm.arrayLocs frame_1_arrays args s ++ Jvm.staticLocs frame_1_statics s) 24 256 → Post tb e args s (.returned v) u) :
    ArmFor flags0 classFile x code maxLocals ret World_1 tables_1 room_1 Calls_1 rest_1 Pre_1 Post := by
  intro l hfl _ _ p e ha hc hk s m args below hf hA hF happ hP
  obtain ⟨hcalls, hrest, hpre⟩ := hP
  obtain ⟨-, -, -, hnamed, -, -, -, hat⟩ := (Spec.applies_iff hf).mp happ
  obtain ⟨hg, hn⟩ := and_e (Cond.before_iff.mp (show (Jvm.Cond.and given_1 narrow_1).before args s = true from hpre))
  obtain ⟨g11, g12⟩ := and_e hg
  obtain ⟨g13, g14⟩ := and_e g12
  obtain ⟨g15, g16⟩ := and_e g14
  obtain ⟨g17, g18⟩ := and_e g16
  obtain ⟨g19, g20⟩ := and_e g18
  obtain ⟨g21, g22⟩ := and_e g20
  obtain ⟨w0, w1, w2, w3, w4, w5, rfl⟩ : ∃ w0 w1 w2 w3 w4 w5 : Value, args = #[w0, w1, w2, w3, w4, w5] := by
    have hs : args.size = 6 := by simpa [Cond.value, given_1] using g11
    obtain ⟨L⟩ := args
    match L, hs with
    | [w0, w1, w2, w3, w4, w5], _ => exact ⟨w0, w1, w2, w3, w4, w5, rfl⟩
  have hw := fun d (hd : d ∈ tables_1) => atoms_spec (ws := Jvm.Cond.code x code maxLocals ret :: tables_1) hat d (List.mem_cons_of_mem _ hd)
  obtain ⟨i0, ei0⟩ := is_v g13
  obtain rfl : w0 = (.int i0) := Option.some.inj ei0
  obtain ⟨i1, ei1⟩ := isL_v g15
  obtain rfl : w1 = (.long i1) := Option.some.inj ei1
  obtain ⟨i2, ei2⟩ := isL_v g17
  obtain rfl : w2 = (.long i2) := Option.some.inj ei2
  obtain ⟨i3, ei3⟩ := isL_v g19
  obtain rfl : w3 = (.long i3) := Option.some.inj ei3
  obtain ⟨i4, ei4⟩ := isL_v g21
  obtain rfl : w4 = (.long i4) := Option.some.inj ei4
  obtain ⟨i5, ei5⟩ := isL_v g22
  obtain rfl : w5 = (.long i5) := Option.some.inj ei5
  have hfit : Fit s := fun {y c} hc i hi => by
    obtain ⟨ha, rfl⟩ := Array.getElem?_eq_some_iff.mp hc
    have q := List.all_eq_true.mp ((Array.all_eq_true_iff_forall_mem.mp hF) _ (Array.getElem_mem ha)) i (List.mem_range.mpr hi)
    simpa [Array.getElem?_eq_getElem hi] using q
  obtain ⟨g1, g2⟩ := and_e hn
  obtain ⟨g3, g4⟩ := and_e g2
  obtain ⟨g5, g6⟩ := and_e g4
  obtain ⟨g7, g8⟩ := and_e g6
  obtain ⟨g9, g10⟩ := and_e g8
  obtain ⟨w_NONE, ev_w_NONE⟩ := exa_v g1
  have S_NONE := Sta.start ev_w_NONE (Or.inr ⟨(own_w hw 7 rfl), (own_w hw 8 rfl)⟩)
  have E_w_NONE := Exa.start ev_w_NONE g1
  obtain ⟨w_EMPTY, ev_w_EMPTY⟩ := exa_v g3
  have S_EMPTY := Sta.start ev_w_EMPTY (Or.inr ⟨(own_w hw 46 rfl), (own_w hw 47 rfl)⟩)
  have E_w_EMPTY := Exa.start ev_w_EMPTY g3
  obtain ⟨w_EMPTY_parts, ev_w_EMPTY_parts⟩ := arr_v g5
  have F_parts_w_EMPTY := Fld.start ((fld_at ev_w_EMPTY).symm.trans ev_w_EMPTY_parts)
  obtain ⟨cl_w_EMPTY_parts, Ar_w_EMPTY_parts⟩ := Arr.start ev_w_EMPTY_parts g5
  obtain ⟨w_NONE_names, ev_w_NONE_names⟩ := arr_v g9
  have F_names_w_NONE := Fld.start ((fld_at ev_w_NONE).symm.trans ev_w_NONE_names)
  obtain ⟨cl_w_NONE_names, Ar_w_NONE_names⟩ := Arr.start ev_w_NONE_names g9
  have V_w_EMPTY_parts : Arv s s.heap w_EMPTY_parts cl_w_EMPTY_parts.cls (.object own_s3) (0 : Int32) [] .null := Arv.start hfit Ar_w_EMPTY_parts (own_len g7 ev_w_EMPTY_parts Ar_w_EMPTY_parts).1 (own_len g7 ev_w_EMPTY_parts Ar_w_EMPTY_parts).2 (by decide) rfl trivial
  obtain ⟨k_w_EMPTY_parts, hk_w_EMPTY_parts⟩ : ∃ k, k = cl_w_EMPTY_parts.cls := ⟨_, rfl⟩
  rw [← hk_w_EMPTY_parts] at V_w_EMPTY_parts
  have V_w_NONE_names : Arv s s.heap w_NONE_names cl_w_NONE_names.cls (.object "java/lang/String") (0 : Int32) [] .null := Arv.start hfit Ar_w_NONE_names (own_len g10 ev_w_NONE_names Ar_w_NONE_names).1 (own_len g10 ev_w_NONE_names Ar_w_NONE_names).2 (by decide) rfl trivial
  obtain ⟨k_w_NONE_names, hk_w_NONE_names⟩ : ∃ k, k = cl_w_NONE_names.cls := ⟨_, rfl⟩
  rw [← hk_w_NONE_names] at V_w_NONE_names
  obtain ⟨n, o, h1, h2, h3, _, L, rfl, ⟨rfl, N⟩, hq⟩ := own_rm0 l s _ hw tables_1 i0 i1 i2 i3 i4 i5 w_NONE w_EMPTY w_EMPTY_parts w_NONE_names k_w_EMPTY_parts k_w_NONE_names s.heap s.heap.size (Nat.le_refl _) S_NONE E_w_NONE S_EMPTY E_w_EMPTY F_parts_w_EMPTY F_names_w_NONE V_w_EMPTY_parts V_w_NONE_names p e ha hc hk s m _ below hf ((Spec.applies_iff_loose hf).mp happ).1 ⟨rfl, State.Warmed39.refl s, rfl⟩ trivial
  exact ⟨n, _, h1, h2, h3, hpost _ _ _ _ _ _ ⟨Cond.after_iff.mpr rfl, Cond.after_iff.mpr (eq_i res_at (Term.int_eval (1)) rfl), trivial⟩ ⟨hq.1, hq.2.1, (hq.2.2.sift fun y hy => Or.inr (N y hy)).mono (by decide) (by decide)⟩⟩
theorem main_1_1 : Claimed_1_1 := own_comes fun _ _ _ _ _ _ h hF => ⟨h.1, hF⟩
theorem main_1_2 : Claimed_1_2 := own_comes fun _ _ _ _ _ _ h hF => ⟨h.2.1, hF⟩
end Jvm.Pilot.@@N@@
namespace Jvm.Pilot.@@N@@
open Jvm Jvm.ClassFile Sem Op Lib Jvm.Free Jvm.Stand Jvm.Pilot.@@N@@.Jvm.D
/-! MADE BY PROGRAM (witnessworld.py) out of the Statement's table words and the real class files: 24 classes; the members and pool entries that the words name. The judged class is class 1, her method 2. -/
namespace start1
open Jvm.ClassFile
def u (s : String) : CpInfo := .utf8 (stringToUtf16 s)
/-- a pool by its gaps: so many unusable entries, then the entry; so many at the end -/
def gap : Nat → List CpInfo → List CpInfo
  | 0, r => r
  | n + 1, r => .unusable :: gap n r
def poolList (es : List (Nat × CpInfo)) (last : Nat) : List CpInfo := es.foldr (fun e r => gap e.1 (e.2 :: r)) (gap last [])
def pool (es : List (Nat × CpInfo)) (last : Nat) : Array CpInfo := ⟨poolList es last⟩
def fileOf (pool : Array CpInfo) (this : Nat) (attrs : Array Attribute := #[]) (ms : Array MethodInfo := #[]) (fl : Nat := 33) (sup : Nat := 0) (ifs : Array Nat := #[]) (fds : Array FieldInfo := #[]) : ClassFile where
  minorVersion := 0
  majorVersion := 65
  constantPool := pool
  accessFlags := fl
  thisClass := this
  superClass := sup
  interfaces := ifs
  fields := fds
  methods := ms
  attributes := attrs
def plain (name : String) (sup : Option ClassId) : Class where
  name := name
  kind := .ordinary
  loader := none
  accessFlags := 33
  super := sup
  interfaces := #[]
  cf := none
  fields := #[]
  methods := #[]
  instanceTypes := #[]
  staticTypes := #[]
  resolved := #[]
  callSites := []
  init := .initialized
  statics := none
  mirror := none

def pool0 : Array CpInfo := pool [(5, u "<init>"), (0, u "()V"), (1, .class_ 10), (1, u "java/lang/Object")] 113

def k0c0 : Code := { maxStack := 0, maxLocals := 1, code := object_method_1_code, exceptionTable := #[], attributes := #[] }
def k0m0 : Method := { name := "<init>", desc := "()V", sig := { parameters := [], returnType := none }, accessFlags := 1, code := some k0c0 }
/-- java/lang/Object -/
def k0 : Class := { plain "java/lang/Object" none with
  accessFlags := 33
  interfaces := #[]
  cf := some (fileOf pool0 8 #[] #[{ accessFlags := 1, nameIndex := 5, descriptorIndex := 6, attributes := #[] }] 33 0 #[] #[])
  fields := #[]
  methods := #[k0m0]
  instanceTypes := #[]
  staticTypes := #[]
  resolved := Array.replicate 124 none
  statics := none }

def pool1 : Array CpInfo := pool [(2, .class_ 4), (0, .nameAndType 5 6), (0, u "java/lang/Object"), (0, u "<init>"), (0, u "()V"), (0, .long 127), (1, .long 256), (1, .long 255), (1, .class_ 14), (0, u "com/example/lonborg/lonborg/Item"), (0, .fieldref 16 17), (0, .class_ 18), (0, .nameAndType 19 20), (0, u "com/example/lonborg/lonborg/Resources"), (0, u "NONE"), (0, u "Lcom/example/lonborg/lonborg/Resources;"), (0, .methodref 13 22), (0, .nameAndType 5 23), (0, u "(JJLcom/example/lonborg/lonborg/Resources;)V"), (0, .class_ 25), (0, u "com/example/lonborg/lonborg/ItemTree"), (0, .methodref 24 3), (0, .methodref 24 28), (0, .nameAndType 29 30), (0, u "add"), (0, u "(Lcom/example/lonborg/lonborg/Item;)V"), (0, .methodref 32 33), (0, .class_ 34), (0, .nameAndType 35 36), (0, u "com/example/lonborg/lonborg/ItemTreeLastPinLaw"), (0, u "after"), (0, u "(JJJJ)Z"), (0, .methodref 24 38), (0, .nameAndType 39 40), (0, u "last"), (0, u "()Lcom/example/lonborg/lonborg/Item;"), (3, u "law"), (0, u "(IJJJJJ)Z")] 2

def k1m0 : Method := { name := "<init>", desc := "()V", sig := { parameters := [], returnType := none }, accessFlags := 1, code := none }
def k1c1 : Code := { maxStack := 4, maxLocals := 8, code := method_2_code, exceptionTable := #[], attributes := #[] }
def k1m1 : Method := { name := "after", desc := "(JJJJ)Z", sig := { parameters := [.long, .long, .long, .long], returnType := some .boolean }, accessFlags := 10, code := some k1c1 }
def k1c2 : Code := { maxStack := 8, maxLocals := 29, code := code, exceptionTable := #[], attributes := #[] }
def k1m2 : Method := { name := "law", desc := "(IJJJJJ)Z", sig := { parameters := [.int, .long, .long, .long, .long, .long], returnType := some .boolean }, accessFlags := 9, code := some k1c2 }
/-- com/example/lonborg/lonborg/ItemTreeLastPinLaw -/
def k1 : Class := { plain "com/example/lonborg/lonborg/ItemTreeLastPinLaw" (some 0) with
  accessFlags := 49
  interfaces := #[]
  cf := some (fileOf pool1 32 #[] #[{ accessFlags := 1, nameIndex := 5, descriptorIndex := 6, attributes := #[] }, { accessFlags := 10, nameIndex := 35, descriptorIndex := 36, attributes := #[] }, { accessFlags := 9, nameIndex := 44, descriptorIndex := 45, attributes := #[] }] 49 2 #[] #[])
  fields := #[]
  methods := #[k1m0, k1m1, k1m2]
  instanceTypes := #[]
  staticTypes := #[]
  resolved := Array.replicate 48 none
  statics := none }

def pool2 : Array CpInfo := pool [(1, .methodref 2 3), (0, .class_ 4), (0, .nameAndType 5 6), (0, u "java/lang/Object"), (0, u "<init>"), (0, u "()V"), (0, .fieldref 8 9), (0, .class_ 10), (0, .nameAndType 11 12), (0, u "com/example/lonborg/lonborg/Item"), (0, u "id"), (0, u "J"), (0, .fieldref 8 14), (0, .nameAndType 15 12), (0, u "priority"), (0, .fieldref 8 17), (0, .nameAndType 18 19), (0, u "payload"), (0, u "[B"), (0, .fieldref 8 21), (0, .nameAndType 22 23), (0, u "needs"), (0, u "Lcom/example/lonborg/lonborg/Resources;"), (0, .methodref 8 25), (0, .nameAndType 5 26), (0, u "(JJ[BLcom/example/lonborg/lonborg/Resources;)V"), (17, u "(JJLcom/example/lonborg/lonborg/Resources;)V"), (2, u "()J"), (3, u "checkedNeeds"), (0, u "()Lcom/example/lonborg/lonborg/Resources;")] 6

def k2c0 : Code := { maxStack := 3, maxLocals := 7, code := prog_1_method_1_code, exceptionTable := #[], attributes := #[] }
def k2m0 : Method := { name := "<init>", desc := "(JJ[BLcom/example/lonborg/lonborg/Resources;)V", sig := { parameters := [.long, .long, (.array .byte), (.object "com/example/lonborg/lonborg/Resources")], returnType := none }, accessFlags := 0, code := some k2c0 }
def k2c1 : Code := { maxStack := 7, maxLocals := 6, code := prog_1_method_2_code, exceptionTable := #[], attributes := #[] }
def k2m1 : Method := { name := "<init>", desc := "(JJLcom/example/lonborg/lonborg/Resources;)V", sig := { parameters := [.long, .long, (.object "com/example/lonborg/lonborg/Resources")], returnType := none }, accessFlags := 0, code := some k2c1 }
def k2c2 : Code := { maxStack := 2, maxLocals := 1, code := prog_1_method_3_code, exceptionTable := #[], attributes := #[] }
def k2m2 : Method := { name := "id", desc := "()J", sig := { parameters := [], returnType := some .long }, accessFlags := 1, code := some k2c2 }
def k2c3 : Code := { maxStack := 2, maxLocals := 1, code := prog_1_method_4_code, exceptionTable := #[], attributes := #[] }
def k2m3 : Method := { name := "priority", desc := "()J", sig := { parameters := [], returnType := some .long }, accessFlags := 1, code := some k2c3 }
def k2c4 : Code := { maxStack := 1, maxLocals := 1, code := prog_1_method_7_code, exceptionTable := #[], attributes := #[] }
def k2m4 : Method := { name := "checkedNeeds", desc := "()Lcom/example/lonborg/lonborg/Resources;", sig := { parameters := [], returnType := some (.object "com/example/lonborg/lonborg/Resources") }, accessFlags := 0, code := some k2c4 }
/-- com/example/lonborg/lonborg/Item -/
def k2 : Class := { plain "com/example/lonborg/lonborg/Item" (some 0) with
  accessFlags := 33
  interfaces := #[]
  cf := some (fileOf pool2 8 #[] #[{ accessFlags := 0, nameIndex := 5, descriptorIndex := 26, attributes := #[] }, { accessFlags := 0, nameIndex := 5, descriptorIndex := 44, attributes := #[] }, { accessFlags := 1, nameIndex := 11, descriptorIndex := 47, attributes := #[] }, { accessFlags := 1, nameIndex := 15, descriptorIndex := 47, attributes := #[] }, { accessFlags := 0, nameIndex := 51, descriptorIndex := 52, attributes := #[] }] 33 2 #[] #[{ accessFlags := 18, nameIndex := 11, descriptorIndex := 12, attributes := #[] }, { accessFlags := 18, nameIndex := 15, descriptorIndex := 12, attributes := #[] }, { accessFlags := 18, nameIndex := 18, descriptorIndex := 19, attributes := #[] }, { accessFlags := 18, nameIndex := 22, descriptorIndex := 23, attributes := #[] }])
  fields := #[{ name := "id", type := .long, accessFlags := 18, slot := 0, constantValue := 0 }, { name := "priority", type := .long, accessFlags := 18, slot := 1, constantValue := 0 }, { name := "payload", type := (.array .byte), accessFlags := 18, slot := 2, constantValue := 0 }, { name := "needs", type := (.object "com/example/lonborg/lonborg/Resources"), accessFlags := 18, slot := 3, constantValue := 0 }]
  methods := #[k2m0, k2m1, k2m2, k2m3, k2m4]
  instanceTypes := #[.long, .long, (.array .byte), (.object "com/example/lonborg/lonborg/Resources")]
  staticTypes := #[]
  resolved := Array.replicate 59 none
  statics := none }

def pool3 : Array CpInfo := pool [(2, .class_ 4), (1, u "java/lang/Object"), (2, .fieldref 8 9), (0, .class_ 10), (0, .nameAndType 11 12), (0, u "com/example/lonborg/lonborg/Resources"), (0, u "names"), (0, u "[Ljava/lang/String;"), (2, u "amounts"), (0, u "[J"), (97, u "fitsIn"), (0, u "(Lcom/example/lonborg/lonborg/Resources;)Z"), (38, u "NONE"), (0, u "Lcom/example/lonborg/lonborg/Resources;"), (0, u "MAX_NAMES"), (0, u "I")] 38

def k3c0 : Code := { maxStack := 4, maxLocals := 9, code := prog_18_method_4_code, exceptionTable := #[], attributes := #[] }
def k3m0 : Method := { name := "fitsIn", desc := "(Lcom/example/lonborg/lonborg/Resources;)Z", sig := { parameters := [(.object "com/example/lonborg/lonborg/Resources")], returnType := some .boolean }, accessFlags := 0, code := some k3c0 }
/-- com/example/lonborg/lonborg/Resources -/
def k3 : Class := { plain "com/example/lonborg/lonborg/Resources" (some 0) with
  accessFlags := 32
  interfaces := #[]
  cf := some (fileOf pool3 8 #[] #[{ accessFlags := 0, nameIndex := 114, descriptorIndex := 115, attributes := #[] }] 32 2 #[] #[{ accessFlags := 24, nameIndex := 154, descriptorIndex := 155, attributes := #[] }, { accessFlags := 26, nameIndex := 156, descriptorIndex := 157, attributes := #[] }, { accessFlags := 18, nameIndex := 11, descriptorIndex := 12, attributes := #[] }, { accessFlags := 18, nameIndex := 15, descriptorIndex := 16, attributes := #[] }])
  fields := #[{ name := "NONE", type := (.object "com/example/lonborg/lonborg/Resources"), accessFlags := 24, slot := 0, constantValue := 0 }, { name := "MAX_NAMES", type := .int, accessFlags := 26, slot := 1, constantValue := 0 }, { name := "names", type := (.array (.object "java/lang/String")), accessFlags := 18, slot := 0, constantValue := 0 }, { name := "amounts", type := (.array .long), accessFlags := 18, slot := 1, constantValue := 0 }]
  methods := #[k3m0]
  instanceTypes := #[(.array (.object "java/lang/String")), (.array .long)]
  staticTypes := #[(.object "com/example/lonborg/lonborg/Resources"), .int]
  resolved := Array.replicate 196 none
  statics := some 0 }

def pool4 : Array CpInfo := pool [(1, .methodref 2 3), (0, .class_ 4), (0, .nameAndType 5 6), (0, u "java/lang/Object"), (0, u "<init>"), (0, u "()V"), (0, .class_ 8), (0, u "com/example/lonborg/lonborg/ItemTree$Leaf"), (0, .methodref 7 3), (0, .fieldref 11 12), (0, .class_ 13), (0, .nameAndType 14 15), (0, u "com/example/lonborg/lonborg/ItemTree"), (0, u "root"), (0, u "Lcom/example/lonborg/lonborg/ItemTree$Node;"), (0, .methodref 17 18), (0, .class_ 19), (0, .nameAndType 20 21), (0, u "com/example/lonborg/lonborg/ItemTree$Node"), (0, u "add"), (0, u "(Lcom/example/lonborg/lonborg/Item;)Lcom/example/lonborg/lonborg/ItemTree$Node;"), (0, .class_ 23), (0, u "com/example/lonborg/lonborg/ItemTree$Branch"), (3, .fieldref 11 28), (0, .nameAndType 29 30), (0, u "size"), (0, u "J"), (3, u "()Lcom/example/lonborg/lonborg/Item;"), (0, .methodref 17 36), (0, .nameAndType 37 34), (0, u "last"), (28, u "I"), (4, .methodref 72 73), (0, .class_ 74), (0, .nameAndType 75 76), (0, u "com/example/lonborg/lonborg/Item"), (0, u "priority"), (0, u "()J"), (0, .methodref 72 78), (0, .nameAndType 79 76), (0, u "id"), (0, u "CAPACITY"), (4, u "(Lcom/example/lonborg/lonborg/Item;)V"), (4, u "before"), (0, u "(Lcom/example/lonborg/lonborg/Item;JJ)Z")] 7

def k4c0 : Code := { maxStack := 3, maxLocals := 1, code := prog_2_method_1_code, exceptionTable := #[], attributes := #[] }
def k4m0 : Method := { name := "<init>", desc := "()V", sig := { parameters := [], returnType := none }, accessFlags := 0, code := some k4c0 }
def k4c1 : Code := { maxStack := 5, maxLocals := 3, code := prog_2_method_2_code, exceptionTable := #[], attributes := #[] }
def k4m1 : Method := { name := "add", desc := "(Lcom/example/lonborg/lonborg/Item;)V", sig := { parameters := [(.object "com/example/lonborg/lonborg/Item")], returnType := none }, accessFlags := 0, code := some k4c1 }
def k4c2 : Code := { maxStack := 4, maxLocals := 1, code := prog_2_method_4_code, exceptionTable := #[], attributes := #[] }
def k4m2 : Method := { name := "last", desc := "()Lcom/example/lonborg/lonborg/Item;", sig := { parameters := [], returnType := some (.object "com/example/lonborg/lonborg/Item") }, accessFlags := 0, code := some k4c2 }
def k4c3 : Code := { maxStack := 4, maxLocals := 5, code := prog_2_method_10_code, exceptionTable := #[], attributes := #[] }
def k4m3 : Method := { name := "before", desc := "(Lcom/example/lonborg/lonborg/Item;JJ)Z", sig := { parameters := [(.object "com/example/lonborg/lonborg/Item"), .long, .long], returnType := some .boolean }, accessFlags := 10, code := some k4c3 }
/-- com/example/lonborg/lonborg/ItemTree -/
def k4 : Class := { plain "com/example/lonborg/lonborg/ItemTree" (some 0) with
  accessFlags := 32
  interfaces := #[]
  cf := some (fileOf pool4 11 #[.nestMembers #[22, 7, 17]] #[{ accessFlags := 0, nameIndex := 5, descriptorIndex := 6, attributes := #[] }, { accessFlags := 0, nameIndex := 20, descriptorIndex := 85, attributes := #[] }, { accessFlags := 0, nameIndex := 37, descriptorIndex := 34, attributes := #[] }, { accessFlags := 10, nameIndex := 90, descriptorIndex := 91, attributes := #[] }] 32 2 #[] #[{ accessFlags := 26, nameIndex := 80, descriptorIndex := 66, attributes := #[] }, { accessFlags := 2, nameIndex := 14, descriptorIndex := 15, attributes := #[] }, { accessFlags := 2, nameIndex := 29, descriptorIndex := 30, attributes := #[] }])
  fields := #[{ name := "CAPACITY", type := .int, accessFlags := 26, slot := 0, constantValue := 0 }, { name := "root", type := (.object "com/example/lonborg/lonborg/ItemTree$Node"), accessFlags := 2, slot := 0, constantValue := 0 }, { name := "size", type := .long, accessFlags := 2, slot := 1, constantValue := 0 }]
  methods := #[k4m0, k4m1, k4m2, k4m3]
  instanceTypes := #[(.object "com/example/lonborg/lonborg/ItemTree$Node"), .long]
  staticTypes := #[.int]
  resolved := ((Array.replicate 99 none).setIfInBounds 9 (some (.method ⟨6, 0⟩))).setIfInBounds 7 (some (.cls 6))
  statics := none }

def pool5 : Array CpInfo := pool [(1, .methodref 2 3), (0, .class_ 4), (0, .nameAndType 5 6), (0, u "java/lang/Object"), (0, u "<init>"), (0, u "()V"), (0, .fieldref 8 9), (0, .class_ 10), (0, .nameAndType 11 12), (0, u "com/example/lonborg/lonborg/LeastNeeds"), (0, u "EMPTY"), (0, u "Lcom/example/lonborg/lonborg/LeastNeeds;"), (0, .fieldref 14 15), (0, .class_ 16), (0, .nameAndType 17 12), (0, u "com/example/lonborg/lonborg/ItemTree$Node"), (0, u "least"), (0, .fieldref 14 19), (0, .nameAndType 20 21), (0, u "count"), (0, u "I"), (4, .fieldref 14 27), (0, .nameAndType 28 29), (0, u "stale"), (0, u "Z"), (0, .methodref 8 31), (0, .nameAndType 32 33), (0, u "with"), (0, u "(Lcom/example/lonborg/lonborg/Resources;)Lcom/example/lonborg/lonborg/LeastNeeds;"), (2, u "add"), (0, u "(Lcom/example/lonborg/lonborg/Item;)Lcom/example/lonborg/lonborg/ItemTree$Node;"), (1, u "()Lcom/example/lonborg/lonborg/Item;"), (0, u "last"), (10, u "widen"), (0, u "(Lcom/example/lonborg/lonborg/Resources;)V"), (3, .class_ 57), (0, u "com/example/lonborg/lonborg/ItemTree")] 9

def k5c0 : Code := { maxStack := 2, maxLocals := 1, code := prog_5_method_1_code, exceptionTable := #[], attributes := #[] }
def k5m0 : Method := { name := "<init>", desc := "()V", sig := { parameters := [], returnType := none }, accessFlags := 2, code := some k5c0 }
def k5m1 : Method := { name := "add", desc := "(Lcom/example/lonborg/lonborg/Item;)Lcom/example/lonborg/lonborg/ItemTree$Node;", sig := { parameters := [(.object "com/example/lonborg/lonborg/Item")], returnType := some (.object "com/example/lonborg/lonborg/ItemTree$Node") }, accessFlags := 1024, code := none }
def k5m2 : Method := { name := "last", desc := "()Lcom/example/lonborg/lonborg/Item;", sig := { parameters := [], returnType := some (.object "com/example/lonborg/lonborg/Item") }, accessFlags := 1024, code := none }
def k5c3 : Code := { maxStack := 3, maxLocals := 2, code := prog_5_method_10_code, exceptionTable := #[], attributes := #[] }
def k5m3 : Method := { name := "widen", desc := "(Lcom/example/lonborg/lonborg/Resources;)V", sig := { parameters := [(.object "com/example/lonborg/lonborg/Resources")], returnType := none }, accessFlags := 0, code := some k5c3 }
/-- com/example/lonborg/lonborg/ItemTree$Node -/
def k5 : Class := { plain "com/example/lonborg/lonborg/ItemTree$Node" (some 0) with
  accessFlags := 1056
  interfaces := #[]
  cf := some (fileOf pool5 14 #[.nestHost 56] #[{ accessFlags := 2, nameIndex := 5, descriptorIndex := 6, attributes := #[] }, { accessFlags := 1024, nameIndex := 36, descriptorIndex := 37, attributes := #[] }, { accessFlags := 1024, nameIndex := 40, descriptorIndex := 39, attributes := #[] }, { accessFlags := 0, nameIndex := 51, descriptorIndex := 52, attributes := #[] }] 1056 2 #[] #[{ accessFlags := 0, nameIndex := 20, descriptorIndex := 21, attributes := #[] }, { accessFlags := 0, nameIndex := 17, descriptorIndex := 12, attributes := #[] }, { accessFlags := 0, nameIndex := 28, descriptorIndex := 29, attributes := #[] }])
  fields := #[{ name := "count", type := .int, accessFlags := 0, slot := 0, constantValue := 0 }, { name := "least", type := (.object "com/example/lonborg/lonborg/LeastNeeds"), accessFlags := 0, slot := 1, constantValue := 0 }, { name := "stale", type := .boolean, accessFlags := 0, slot := 2, constantValue := 0 }]
  methods := #[k5m0, k5m1, k5m2, k5m3]
  instanceTypes := #[.int, (.object "com/example/lonborg/lonborg/LeastNeeds"), .boolean]
  staticTypes := #[]
  resolved := Array.replicate 67 none
  statics := none }

def pool6 : Array CpInfo := pool [(1, .class_ 2), (0, u "com/example/lonborg/lonborg/ItemTree"), (0, .methodref 4 5), (0, .class_ 6), (0, .nameAndType 7 8), (0, u "com/example/lonborg/lonborg/ItemTree$Node"), (0, u "<init>"), (0, u "()V"), (0, .class_ 10), (0, u "com/example/lonborg/lonborg/Item"), (0, .fieldref 12 13), (0, .class_ 14), (0, .nameAndType 15 16), (0, u "com/example/lonborg/lonborg/ItemTree$Leaf"), (0, u "items"), (0, u "[Lcom/example/lonborg/lonborg/Item;"), (0, .methodref 12 18), (0, .nameAndType 19 20), (0, u "placeOf"), (0, u "(Lcom/example/lonborg/lonborg/Item;)I"), (0, .fieldref 12 22), (0, .nameAndType 23 24), (0, u "count"), (0, u "I"), (0, .methodref 9 26), (0, .nameAndType 27 28), (0, u "checkedNeeds"), (0, u "()Lcom/example/lonborg/lonborg/Resources;"), (0, .methodref 12 30), (0, .nameAndType 31 32), (0, u "widen"), (0, u "(Lcom/example/lonborg/lonborg/Resources;)V"), (0, .methodref 34 35), (0, .class_ 36), (0, .nameAndType 37 38), (0, u "java/lang/System"), (0, u "arraycopy"), (0, u "(Ljava/lang/Object;ILjava/lang/Object;II)V"), (0, .methodref 12 5), (27, .methodref 9 68), (0, .nameAndType 69 70), (0, u "priority"), (0, u "()J"), (0, .methodref 9 72), (0, .nameAndType 73 70), (0, u "id"), (0, .methodref 1 75), (0, .nameAndType 76 77), (0, u "before"), (0, u "(Lcom/example/lonborg/lonborg/Item;JJ)Z"), (8, u "add"), (0, u "(Lcom/example/lonborg/lonborg/Item;)Lcom/example/lonborg/lonborg/ItemTree$Node;"), (2, u "()Lcom/example/lonborg/lonborg/Item;"), (0, u "last")] 17

def k6c0 : Code := { maxStack := 2, maxLocals := 1, code := prog_4_method_1_code, exceptionTable := #[], attributes := #[] }
def k6m0 : Method := { name := "<init>", desc := "()V", sig := { parameters := [], returnType := none }, accessFlags := 2, code := some k6c0 }
def k6c1 : Code := { maxStack := 6, maxLocals := 4, code := prog_4_method_2_code, exceptionTable := #[], attributes := #[] }
def k6m1 : Method := { name := "add", desc := "(Lcom/example/lonborg/lonborg/Item;)Lcom/example/lonborg/lonborg/ItemTree$Node;", sig := { parameters := [(.object "com/example/lonborg/lonborg/Item")], returnType := some (.object "com/example/lonborg/lonborg/ItemTree$Node") }, accessFlags := 0, code := some k6c1 }
def k6c2 : Code := { maxStack := 3, maxLocals := 1, code := prog_4_method_4_code, exceptionTable := #[], attributes := #[] }
def k6m2 : Method := { name := "last", desc := "()Lcom/example/lonborg/lonborg/Item;", sig := { parameters := [], returnType := some (.object "com/example/lonborg/lonborg/Item") }, accessFlags := 0, code := some k6c2 }
def k6c3 : Code := { maxStack := 5, maxLocals := 5, code := prog_4_method_9_code, exceptionTable := #[], attributes := #[] }
def k6m3 : Method := { name := "placeOf", desc := "(Lcom/example/lonborg/lonborg/Item;)I", sig := { parameters := [(.object "com/example/lonborg/lonborg/Item")], returnType := some .int }, accessFlags := 2, code := some k6c3 }
/-- com/example/lonborg/lonborg/ItemTree$Leaf -/
def k6 : Class := { plain "com/example/lonborg/lonborg/ItemTree$Leaf" (some 5) with
  accessFlags := 48
  interfaces := #[]
  cf := some (fileOf pool6 12 #[.nestHost 1] #[{ accessFlags := 2, nameIndex := 7, descriptorIndex := 8, attributes := #[] }, { accessFlags := 0, nameIndex := 86, descriptorIndex := 87, attributes := #[] }, { accessFlags := 0, nameIndex := 91, descriptorIndex := 90, attributes := #[] }, { accessFlags := 2, nameIndex := 19, descriptorIndex := 20, attributes := #[] }] 48 4 #[] #[{ accessFlags := 18, nameIndex := 15, descriptorIndex := 16, attributes := #[] }])
  fields := #[{ name := "items", type := (.array (.object "com/example/lonborg/lonborg/Item")), accessFlags := 18, slot := 3, constantValue := 0 }]
  methods := #[k6m0, k6m1, k6m2, k6m3]
  instanceTypes := #[.int, (.object "com/example/lonborg/lonborg/LeastNeeds"), .boolean, (.array (.object "com/example/lonborg/lonborg/Item"))]
  staticTypes := #[]
  resolved := Array.replicate 109 none
  statics := none }

def pool7 : Array CpInfo := pool [(1, .methodref 2 3), (0, .class_ 4), (0, .nameAndType 5 6), (0, u "java/lang/Object"), (0, u "<init>"), (0, u "()V"), (0, .fieldref 8 9), (0, .class_ 10), (0, .nameAndType 11 12), (0, u "com/example/lonborg/lonborg/LeastNeeds"), (0, u "parts"), (0, u "[Lcom/example/lonborg/lonborg/Resources;"), (0, .methodref 14 15), (0, .class_ 16), (0, .nameAndType 17 18), (0, u "com/example/lonborg/lonborg/Resources"), (0, u "fitsIn"), (0, u "(Lcom/example/lonborg/lonborg/Resources;)Z"), (7, .methodref 8 27), (0, .nameAndType 28 29), (0, u "replaced"), (0, u "(ILcom/example/lonborg/lonborg/Resources;)Lcom/example/lonborg/lonborg/LeastNeeds;"), (2, u "with"), (0, u "(Lcom/example/lonborg/lonborg/Resources;)Lcom/example/lonborg/lonborg/LeastNeeds;"), (0, .methodref 35 36), (0, .class_ 37), (0, .nameAndType 38 39), (0, u "java/lang/Math"), (0, u "max"), (0, u "(II)I"), (7, .methodref 8 48), (0, .nameAndType 5 49), (0, u "([Lcom/example/lonborg/lonborg/Resources;)V"), (2, u "EMPTY"), (0, u "Lcom/example/lonborg/lonborg/LeastNeeds;"), (0, u "MAX_PARTS"), (0, u "I")] 9

def k7c0 : Code := { maxStack := 2, maxLocals := 2, code := prog_8_method_1_code, exceptionTable := #[], attributes := #[] }
def k7m0 : Method := { name := "<init>", desc := "([Lcom/example/lonborg/lonborg/Resources;)V", sig := { parameters := [(.array (.object "com/example/lonborg/lonborg/Resources"))], returnType := none }, accessFlags := 2, code := some k7c0 }
def k7c1 : Code := { maxStack := 3, maxLocals := 4, code := prog_8_method_3_code, exceptionTable := #[], attributes := #[] }
def k7m1 : Method := { name := "with", desc := "(Lcom/example/lonborg/lonborg/Resources;)Lcom/example/lonborg/lonborg/LeastNeeds;", sig := { parameters := [(.object "com/example/lonborg/lonborg/Resources")], returnType := some (.object "com/example/lonborg/lonborg/LeastNeeds") }, accessFlags := 0, code := some k7c1 }
def k7c2 : Code := { maxStack := 4, maxLocals := 6, code := prog_8_method_5_code, exceptionTable := #[], attributes := #[] }
def k7m2 : Method := { name := "replaced", desc := "(ILcom/example/lonborg/lonborg/Resources;)Lcom/example/lonborg/lonborg/LeastNeeds;", sig := { parameters := [.int, (.object "com/example/lonborg/lonborg/Resources")], returnType := some (.object "com/example/lonborg/lonborg/LeastNeeds") }, accessFlags := 2, code := some k7c2 }
/-- com/example/lonborg/lonborg/LeastNeeds -/
def k7 : Class := { plain "com/example/lonborg/lonborg/LeastNeeds" (some 0) with
  accessFlags := 32
  interfaces := #[]
  cf := some (fileOf pool7 8 #[] #[{ accessFlags := 2, nameIndex := 5, descriptorIndex := 49, attributes := #[] }, { accessFlags := 0, nameIndex := 32, descriptorIndex := 33, attributes := #[] }, { accessFlags := 2, nameIndex := 28, descriptorIndex := 29, attributes := #[] }] 32 2 #[] #[{ accessFlags := 24, nameIndex := 52, descriptorIndex := 53, attributes := #[] }, { accessFlags := 26, nameIndex := 54, descriptorIndex := 55, attributes := #[] }, { accessFlags := 18, nameIndex := 11, descriptorIndex := 12, attributes := #[] }])
  fields := #[{ name := "EMPTY", type := (.object "com/example/lonborg/lonborg/LeastNeeds"), accessFlags := 24, slot := 0, constantValue := 0 }, { name := "MAX_PARTS", type := .int, accessFlags := 26, slot := 1, constantValue := 0 }, { name := "parts", type := (.array (.object "com/example/lonborg/lonborg/Resources")), accessFlags := 18, slot := 0, constantValue := 0 }]
  methods := #[k7m0, k7m1, k7m2]
  instanceTypes := #[(.array (.object "com/example/lonborg/lonborg/Resources"))]
  staticTypes := #[(.object "com/example/lonborg/lonborg/LeastNeeds"), .int]
  resolved := Array.replicate 65 none
  statics := some 1 }

def pool8 : Array CpInfo := pool [(1, .class_ 2), (0, u "java/lang/Math"), (1, .class_ 6), (1, u "java/lang/Object"), (0, u "<init>"), (0, u "()V"), (89, .class_ 100), (1, u "java/lang/Math$RandomNumberGeneratorHolder"), (71, u "negativeZeroFloatBits"), (0, u "J"), (2, u "negativeZeroDoubleBits"), (21, u "max"), (46, u "$assertionsDisabled"), (0, u "Z"), (88, u "(II)I"), (2, u "twoToTheDoubleScaleDown"), (0, u "D"), (4, u "twoToTheDoubleScaleUp"), (9, u "E"), (3, u "PI"), (2, u "TAU"), (2, u "DEGREES_TO_RADIANS"), (0, u "RADIANS_TO_DEGREES")] 94

def k8m0 : Method := { name := "<init>", desc := "()V", sig := { parameters := [], returnType := none }, accessFlags := 2, code := none }
def k8c1 : Code := { maxStack := 2, maxLocals := 2, code := jdk_29_method_65_code, exceptionTable := #[], attributes := #[] }
def k8m1 : Method := { name := "max", desc := "(II)I", sig := { parameters := [.int, .int], returnType := some .int }, accessFlags := 9, code := some k8c1 }
/-- java/lang/Math -/
def k8 : Class := { plain "java/lang/Math" (some 0) with
  accessFlags := 49
  interfaces := #[]
  cf := some (fileOf pool8 1 #[.nestMembers #[98]] #[{ accessFlags := 2, nameIndex := 7, descriptorIndex := 8, attributes := #[] }, { accessFlags := 9, nameIndex := 198, descriptorIndex := 335, attributes := #[] }] 49 4 #[] #[{ accessFlags := 25, nameIndex := 354, descriptorIndex := 339, attributes := #[] }, { accessFlags := 25, nameIndex := 358, descriptorIndex := 339, attributes := #[] }, { accessFlags := 25, nameIndex := 361, descriptorIndex := 339, attributes := #[] }, { accessFlags := 26, nameIndex := 364, descriptorIndex := 339, attributes := #[] }, { accessFlags := 26, nameIndex := 365, descriptorIndex := 339, attributes := #[] }, { accessFlags := 26, nameIndex := 172, descriptorIndex := 173, attributes := #[] }, { accessFlags := 26, nameIndex := 176, descriptorIndex := 173, attributes := #[] }, { accessFlags := 8, nameIndex := 344, descriptorIndex := 339, attributes := #[] }, { accessFlags := 8, nameIndex := 338, descriptorIndex := 339, attributes := #[] }, { accessFlags := 4120, nameIndex := 245, descriptorIndex := 246, attributes := #[] }])
  fields := #[{ name := "E", type := .double, accessFlags := 25, slot := 0, constantValue := 0 }, { name := "PI", type := .double, accessFlags := 25, slot := 1, constantValue := 0 }, { name := "TAU", type := .double, accessFlags := 25, slot := 2, constantValue := 0 }, { name := "DEGREES_TO_RADIANS", type := .double, accessFlags := 26, slot := 3, constantValue := 0 }, { name := "RADIANS_TO_DEGREES", type := .double, accessFlags := 26, slot := 4, constantValue := 0 }, { name := "negativeZeroFloatBits", type := .long, accessFlags := 26, slot := 5, constantValue := 0 }, { name := "negativeZeroDoubleBits", type := .long, accessFlags := 26, slot := 6, constantValue := 0 }, { name := "twoToTheDoubleScaleUp", type := .double, accessFlags := 8, slot := 7, constantValue := 0 }, { name := "twoToTheDoubleScaleDown", type := .double, accessFlags := 8, slot := 8, constantValue := 0 }, { name := "$assertionsDisabled", type := .boolean, accessFlags := 4120, slot := 9, constantValue := 0 }]
  methods := #[k8m0, k8m1]
  instanceTypes := #[]
  staticTypes := #[.double, .double, .double, .double, .double, .long, .long, .double, .double, .boolean]
  resolved := Array.replicate 460 none
  statics := none }

def pool9 : Array CpInfo := pool [(2, .class_ 4), (1, u "java/lang/Object"), (0, u "<init>"), (0, u "()V"), (1, .class_ 10), (1, u "java/lang/System"), (0, u "allowSecurityManager"), (0, u "I"), (16, u "cons"), (0, u "Ljava/io/Console;"), (77, .class_ 110), (1, u "java/lang/System$CallersHolder"), (43, u "initialErrStream"), (0, u "Ljava/io/PrintStream;"), (19, u "security"), (0, u "Ljava/lang/SecurityManager;"), (31, .class_ 209), (0, u "java/lang/System$1"), (7, u "props"), (0, u "Ljava/util/Properties;"), (2, u "lineSeparator"), (0, u "Ljava/lang/String;"), (96, .class_ 321), (1, u "java/lang/System$LoggerFinder"), (5, .class_ 328), (0, u "java/lang/System$Logger"), (67, u "err"), (2, u "out"), (91, u "notSupportedJnuEncoding"), (15, u "in"), (17, u "initialIn"), (0, u "Ljava/io/InputStream;"), (35, u "bootLayer"), (0, u "Ljava/lang/ModuleLayer;"), (99, .class_ 664), (0, u "java/lang/System$2"), (9, u "NEVER"), (2, u "MAYBE"), (49, u "arraycopy"), (0, u "(Ljava/lang/Object;ILjava/lang/Object;II)V"), (72, .class_ 802), (0, u "java/lang/System$Logger$Level")] 31

def k9m0 : Method := { name := "<init>", desc := "()V", sig := { parameters := [], returnType := none }, accessFlags := 2, code := none }
def k9m1 : Method := { name := "arraycopy", desc := "(Ljava/lang/Object;ILjava/lang/Object;II)V", sig := { parameters := [(.object "java/lang/Object"), .int, (.object "java/lang/Object"), .int, .int], returnType := none }, accessFlags := 265, code := none }
/-- java/lang/System -/
def k9 : Class := { plain "java/lang/System" (some 0) with
  accessFlags := 49
  interfaces := #[]
  cf := some (fileOf pool9 8 #[.nestMembers #[319, 327, 801, 108, 663, 208]] #[{ accessFlags := 2, nameIndex := 5, descriptorIndex := 6, attributes := #[] }, { accessFlags := 265, nameIndex := 727, descriptorIndex := 728, attributes := #[] }] 49 2 #[] #[{ accessFlags := 25, nameIndex := 507, descriptorIndex := 526, attributes := #[] }, { accessFlags := 25, nameIndex := 399, descriptorIndex := 155, attributes := #[] }, { accessFlags := 25, nameIndex := 396, descriptorIndex := 155, attributes := #[] }, { accessFlags := 10, nameIndex := 525, descriptorIndex := 526, attributes := #[] }, { accessFlags := 26, nameIndex := 674, descriptorIndex := 12, attributes := #[] }, { accessFlags := 26, nameIndex := 677, descriptorIndex := 12, attributes := #[] }, { accessFlags := 10, nameIndex := 11, descriptorIndex := 12, attributes := #[] }, { accessFlags := 74, nameIndex := 175, descriptorIndex := 176, attributes := #[] }, { accessFlags := 10, nameIndex := 491, descriptorIndex := 222, attributes := #[] }, { accessFlags := 74, nameIndex := 29, descriptorIndex := 30, attributes := #[] }, { accessFlags := 74, nameIndex := 154, descriptorIndex := 155, attributes := #[] }, { accessFlags := 10, nameIndex := 217, descriptorIndex := 218, attributes := #[] }, { accessFlags := 10, nameIndex := 221, descriptorIndex := 222, attributes := #[] }, { accessFlags := 8, nameIndex := 562, descriptorIndex := 563, attributes := #[] }])
  fields := #[{ name := "in", type := (.object "java/io/InputStream"), accessFlags := 25, slot := 0, constantValue := 0 }, { name := "out", type := (.object "java/io/PrintStream"), accessFlags := 25, slot := 1, constantValue := 0 }, { name := "err", type := (.object "java/io/PrintStream"), accessFlags := 25, slot := 2, constantValue := 0 }, { name := "initialIn", type := (.object "java/io/InputStream"), accessFlags := 10, slot := 3, constantValue := 0 }, { name := "NEVER", type := .int, accessFlags := 26, slot := 4, constantValue := 0 }, { name := "MAYBE", type := .int, accessFlags := 26, slot := 5, constantValue := 0 }, { name := "allowSecurityManager", type := .int, accessFlags := 10, slot := 6, constantValue := 0 }, { name := "security", type := (.object "java/lang/SecurityManager"), accessFlags := 74, slot := 7, constantValue := 0 }, { name := "notSupportedJnuEncoding", type := (.object "java/lang/String"), accessFlags := 10, slot := 8, constantValue := 0 }, { name := "cons", type := (.object "java/io/Console"), accessFlags := 74, slot := 9, constantValue := 0 }, { name := "initialErrStream", type := (.object "java/io/PrintStream"), accessFlags := 74, slot := 10, constantValue := 0 }, { name := "props", type := (.object "java/util/Properties"), accessFlags := 10, slot := 11, constantValue := 0 }, { name := "lineSeparator", type := (.object "java/lang/String"), accessFlags := 10, slot := 12, constantValue := 0 }, { name := "bootLayer", type := (.object "java/lang/ModuleLayer"), accessFlags := 8, slot := 13, constantValue := 0 }]
  methods := #[k9m0, k9m1]
  instanceTypes := #[]
  staticTypes := #[(.object "java/io/InputStream"), (.object "java/io/PrintStream"), (.object "java/io/PrintStream"), (.object "java/io/InputStream"), .int, .int, .int, (.object "java/lang/SecurityManager"), (.object "java/lang/String"), (.object "java/io/Console"), (.object "java/io/PrintStream"), (.object "java/util/Properties"), (.object "java/lang/String"), (.object "java/lang/ModuleLayer")]
  resolved := Array.replicate 834 none
  statics := none }

def pool10 : Array CpInfo := pool [(1, .class_ 2), (0, u "java/io/Serializable"), (0, .class_ 4), (0, u "java/lang/Object")] 2

/-- java/io/Serializable -/
def k10 : Class := { plain "java/io/Serializable" (some 0) with
  accessFlags := 1537
  interfaces := #[]
  cf := some (fileOf pool10 1 #[] #[] 1537 3 #[] #[])
  fields := #[]
  methods := #[]
  instanceTypes := #[]
  staticTypes := #[]
  resolved := Array.replicate 7 none
  statics := none }

def pool11 : Array CpInfo := pool [(1, .class_ 2), (0, u "java/lang/Comparable"), (0, .class_ 4), (0, u "java/lang/Object")] 7

/-- java/lang/Comparable -/
def k11 : Class := { plain "java/lang/Comparable" (some 0) with
  accessFlags := 1537
  interfaces := #[]
  cf := some (fileOf pool11 1 #[] #[] 1537 3 #[] #[])
  fields := #[]
  methods := #[]
  instanceTypes := #[]
  staticTypes := #[]
  resolved := Array.replicate 12 none
  statics := none }

def pool12 : Array CpInfo := pool [(2, .class_ 4), (1, u "java/lang/CharSequence"), (42, .class_ 48), (0, u "java/lang/CharSequence$1CodePointIterator"), (10, .class_ 60), (0, u "java/lang/CharSequence$1CharIterator"), (5, .class_ 67), (0, u "java/lang/Object")] 63

/-- java/lang/CharSequence -/
def k12 : Class := { plain "java/lang/CharSequence" (some 0) with
  accessFlags := 1537
  interfaces := #[]
  cf := some (fileOf pool12 2 #[.nestMembers #[47, 59]] #[] 1537 66 #[] #[])
  fields := #[]
  methods := #[]
  instanceTypes := #[]
  staticTypes := #[]
  resolved := Array.replicate 131 none
  statics := none }

def pool13 : Array CpInfo := pool [(1, .class_ 2), (0, u "java/lang/constant/Constable"), (0, .class_ 4), (0, u "java/lang/Object")] 6

/-- java/lang/constant/Constable -/
def k13 : Class := { plain "java/lang/constant/Constable" (some 0) with
  accessFlags := 1537
  interfaces := #[]
  cf := some (fileOf pool13 1 #[] #[] 1537 3 #[] #[])
  fields := #[]
  methods := #[]
  instanceTypes := #[]
  staticTypes := #[]
  resolved := Array.replicate 11 none
  statics := none }

def pool14 : Array CpInfo := pool [(1, .class_ 2), (0, u "java/lang/constant/ConstantDesc"), (0, .class_ 4), (0, u "java/lang/Object")] 32

/-- java/lang/constant/ConstantDesc -/
def k14 : Class := { plain "java/lang/constant/ConstantDesc" (some 0) with
  accessFlags := 1537
  interfaces := #[]
  cf := some (fileOf pool14 1 #[] #[] 1537 3 #[] #[])
  fields := #[]
  methods := #[]
  instanceTypes := #[]
  staticTypes := #[]
  resolved := Array.replicate 37 none
  statics := none }

def pool15 : Array CpInfo := pool [(2, .class_ 4), (1, u "java/lang/Object"), (0, u "<init>"), (0, u "()V"), (3, .class_ 12), (1, u "java/lang/String"), (0, u "value"), (0, u "[B"), (2, u "coder"), (0, u "B"), (2, u "hash"), (0, u "I"), (2, u "hashIsZero"), (0, u "Z"), (13, u "COMPACT_STRINGS"), (534, .class_ 576), (0, u "java/lang/CharSequence"), (22, u "CASE_INSENSITIVE_ORDER"), (0, u "Ljava/util/Comparator;"), (500, u "serialPersistentFields"), (0, u "[Ljava/io/ObjectStreamField;"), (0, .class_ 1104), (0, u "java/lang/String$CaseInsensitiveComparator"), (1, .class_ 1107), (0, u "java/io/Serializable"), (0, .class_ 1109), (0, u "java/lang/Comparable"), (0, .class_ 1111), (0, u "java/lang/constant/Constable"), (0, .class_ 1113), (0, u "java/lang/constant/ConstantDesc"), (2, u "serialVersionUID"), (0, u "J"), (3, u "REPL"), (0, u "C"), (2, u "LATIN1"), (1, u "UTF16")] 323

def k15m0 : Method := { name := "<init>", desc := "()V", sig := { parameters := [], returnType := none }, accessFlags := 1, code := none }
/-- java/lang/String -/
def k15 : Class := { plain "java/lang/String" (some 0) with
  accessFlags := 49
  interfaces := #[10, 11, 12, 13, 14]
  cf := some (fileOf pool15 10 #[.nestMembers #[1103]] #[{ accessFlags := 1, nameIndex := 5, descriptorIndex := 6, attributes := #[] }] 49 2 #[1106, 1108, 575, 1110, 1112] #[{ accessFlags := 18, nameIndex := 13, descriptorIndex := 14, attributes := #[] }, { accessFlags := 18, nameIndex := 17, descriptorIndex := 18, attributes := #[] }, { accessFlags := 2, nameIndex := 21, descriptorIndex := 22, attributes := #[] }, { accessFlags := 2, nameIndex := 25, descriptorIndex := 26, attributes := #[] }, { accessFlags := 26, nameIndex := 1116, descriptorIndex := 1117, attributes := #[] }, { accessFlags := 24, nameIndex := 40, descriptorIndex := 26, attributes := #[] }, { accessFlags := 26, nameIndex := 1101, descriptorIndex := 1102, attributes := #[] }, { accessFlags := 26, nameIndex := 1121, descriptorIndex := 1122, attributes := #[] }, { accessFlags := 25, nameIndex := 599, descriptorIndex := 600, attributes := #[] }, { accessFlags := 24, nameIndex := 1125, descriptorIndex := 18, attributes := #[] }, { accessFlags := 24, nameIndex := 1127, descriptorIndex := 18, attributes := #[] }])
  fields := #[{ name := "value", type := (.array .byte), accessFlags := 18, slot := 0, constantValue := 0 }, { name := "coder", type := .byte, accessFlags := 18, slot := 1, constantValue := 0 }, { name := "hash", type := .int, accessFlags := 2, slot := 2, constantValue := 0 }, { name := "hashIsZero", type := .boolean, accessFlags := 2, slot := 3, constantValue := 0 }, { name := "serialVersionUID", type := .long, accessFlags := 26, slot := 0, constantValue := 0 }, { name := "COMPACT_STRINGS", type := .boolean, accessFlags := 24, slot := 1, constantValue := 0 }, { name := "serialPersistentFields", type := (.array (.object "java/io/ObjectStreamField")), accessFlags := 26, slot := 2, constantValue := 0 }, { name := "REPL", type := .char, accessFlags := 26, slot := 3, constantValue := 0 }, { name := "CASE_INSENSITIVE_ORDER", type := (.object "java/util/Comparator"), accessFlags := 25, slot := 4, constantValue := 0 }, { name := "LATIN1", type := .byte, accessFlags := 24, slot := 5, constantValue := 0 }, { name := "UTF16", type := .byte, accessFlags := 24, slot := 6, constantValue := 0 }]
  methods := #[k15m0]
  instanceTypes := #[(.array .byte), .byte, .int, .boolean]
  staticTypes := #[.long, .boolean, (.array (.object "java/io/ObjectStreamField")), .char, (.object "java/util/Comparator"), .byte, .byte]
  resolved := Array.replicate 1451 none
  statics := none }

def pool16 : Array CpInfo := pool [(1, u "java/lang/Cloneable"), (0, .class_ 1), (0, u "java/lang/Object"), (0, .class_ 3)] 3

/-- java/lang/Cloneable -/
def k16 : Class := { plain "java/lang/Cloneable" (some 0) with
  accessFlags := 1537
  interfaces := #[]
  cf := some (fileOf pool16 2 #[] #[] 1537 4 #[] #[])
  fields := #[]
  methods := #[]
  instanceTypes := #[]
  staticTypes := #[]
  resolved := Array.replicate 8 none
  statics := none }

/-- the primitive byte -/
def k17 : Class := { plain "byte" none with kind := .primitive 'B', accessFlags := 0x411 }
/-- [B -/
def k18 : Class := { plain "[B" (some 0) with kind := .array 17 .byte, interfaces := #[16, 10], accessFlags := 1041 }

/-- the primitive int -/
def k19 : Class := { plain "int" none with kind := .primitive 'I', accessFlags := 0x411 }
/-- [I -/
def k20 : Class := { plain "[I" (some 0) with kind := .array 19 .int, interfaces := #[16, 10], accessFlags := 1041 }

/-- [Lcom/example/lonborg/lonborg/Item; -/
def k21 : Class := { plain "[Lcom/example/lonborg/lonborg/Item;" (some 0) with kind := .array 2 (.object "com/example/lonborg/lonborg/Item"), interfaces := #[16, 10], accessFlags := 1041 }

/-- [Lcom/example/lonborg/lonborg/Resources; -/
def k22 : Class := { plain "[Lcom/example/lonborg/lonborg/Resources;" (some 0) with kind := .array 3 (.object "com/example/lonborg/lonborg/Resources"), interfaces := #[16, 10], accessFlags := 1041 }

/-- [Ljava/lang/String; -/
def k23 : Class := { plain "[Ljava/lang/String;" (some 0) with kind := .array 15 (.object "java/lang/String"), interfaces := #[16, 10], accessFlags := 1041 }

def heap : Heap := #[{ cls := 3, slots := #[.ref 4, .int 0], vm := .statics 3 },
  { cls := 7, slots := #[.ref 5, .int 0], vm := .statics 7 },
  { cls := 22, slots := #[], vm := .none },
  { cls := 23, slots := #[], vm := .none },
  { cls := 3, slots := #[.ref 3, .null], vm := .none },
  { cls := 7, slots := #[.ref 2], vm := .none }]
def classes : Array Class := #[k0, k1, k2, k3, k4, k5, k6, k7, k8, k9, k10, k11, k12, k13, k14, k15, k16, k17, k18, k19, k20, k21, k22, k23]
def interned : List (Array UInt16 × Addr) := []
def slotsUsed : Nat := 7
def theMethod : MethodId := ⟨1, 2⟩
def args0 : Array Value := #[.int 7, .long 1, .long 2, .long 3, .long 4, .long 5]
def aboutOver (below : List Frame) : State where
  vm := { classes := classes, interned := interned.toArray }
  heap := heap
  slotsUsed := slotsUsed
  threads := #[{ frames := .invoking theMethod args0 :: below }]
def below0 : List Frame := [.native { method := ⟨0, 0⟩, args := #[] }]
def about1 : State := aboutOver below0
def p0 : Program := .bare "" "" ""
def e0 : Env := launch0.env 0 0 0
theorem w_frames : about1.frames = Frame.invoking theMethod args0 :: below0 := rfl
set_option maxRecDepth 65536 in
theorem w_args : argsFit about1.vm theMethod args0 = true := by decide +kernel
set_option maxRecDepth 65536 in
theorem w_heap : heapFits about1 = true := by decide +kernel
set_option maxRecDepth 65536 in
theorem w_runnable : about1.curStatus? = some .runnable := by decide +kernel
set_option maxRecDepth 65536 in
theorem w_alone : about1.alone = true := by decide +kernel
set_option maxRecDepth 65536 in
theorem w_named : about1.methodNamed? x = some theMethod := by decide +kernel
set_option maxRecDepth 65536 in
theorem w_hears : about1.hears theMethod below0 = true := by decide +kernel
set_option maxRecDepth 65536 in
theorem w_ripe : about1.ripe theMethod args0 below0 = true := by decide +kernel
theorem w_running : about1.status = .running := rfl
set_option maxRecDepth 65536 in
theorem w_room : about1.hasRoom e0.platform room_1 = true :=
  launch0.hasRoom_least _ room_1 (by decide +kernel) (by decide +kernel) (by decide +kernel) (by decide +kernel) (by decide +kernel) (by decide +kernel)
theorem allAtoms_all (ts : List Jvm.Cond) (a : Array Jvm.Value) (st : Jvm.State) : (allAtoms ts).before a st = ts.all (fun c => c.before a st) := by
  induction ts with
  | nil => rfl
  | cons c t ih =>
    show (Jvm.Cond.and c (allAtoms t)).before a st = _
    rw [Jvm.Cond.before_and, ih, List.all_cons]
def words1 : List Jvm.Cond := Jvm.Cond.code x code maxLocals ret :: tables_1
/-- a 'code' word, met by the world's own term for the bytes: nothing is compared byte by byte -/
theorem code_word {y : MethodName} {bytes : ByteArray} {mx : Nat} {rt : Option FieldType} {a : Array Value} {s : State} {m : MethodId} {meth : Method} {c : Code} (h1 : s.methodNamed? y = some m) (h2 : s.vm.method? m = some meth) (h3 : meth.code = some c) (h4 : c.code = bytes)
    (h5 : (c.maxLocals == mx && c.exceptionTable.isEmpty && decide (c.maxStack ≤ mostOperands) && decide (meth.sig.returnType = rt) && !meth.locks && decide (parseMethodDescriptor y.desc = some meth.sig)) = true) : (Jvm.Cond.code y bytes mx rt).before a s = true := by
  simp only [Bool.and_eq_true, beq_iff_eq, Bool.not_eq_true', decide_eq_true_eq] at h5
  obtain ⟨⟨⟨⟨⟨g1, g2⟩, g3⟩, g4⟩, g5⟩, g6⟩ := h5
  simp [Cond.before, Cond.holds, Cond.value, h1, h2, h3, h4, g1, g2, g3, g4, g5, g6]
def isCode : Jvm.Cond → Bool
  | .code _ _ _ _ => true
  | _ => false
theorem all_split {L : List Jvm.Cond} {P : Jvm.Cond → Bool} (h1 : L.all (fun c => isCode c || P c) = true) (h2 : ∀ c ∈ L.filter isCode, P c = true) : L.all P = true := by
  refine List.all_eq_true.mpr fun c hc => ?_
  have h := List.all_eq_true.mp h1 c hc
  rcases Bool.eq_false_or_eq_true (isCode c) with hi | hi
  · exact h2 c (List.mem_filter.mpr ⟨hc, hi⟩)
  · simpa [hi] using h
set_option maxRecDepth 65536 in
theorem w_c0 : (Jvm.Cond.code x code maxLocals ret).before args0 about1 = true := code_word (m := ⟨1, 2⟩) (meth := k1m2) (c := k1c2) (by decide +kernel) rfl rfl rfl (by decide +kernel)
set_option maxRecDepth 65536 in
theorem w_c1 : (Jvm.Cond.code ({ cls := "com/example/lonborg/lonborg/Item", name := "<init>", desc := "(JJLcom/example/lonborg/lonborg/Resources;)V" } : Jvm.MethodName) prog_1_method_2_code (6 : Nat) (Option.none : Option Jvm.ClassFile.FieldType)).before args0 about1 = true := code_word (m := ⟨2, 1⟩) (meth := k2m1) (c := k2c1) (by decide +kernel) rfl rfl rfl (by decide +kernel)
set_option maxRecDepth 65536 in
theorem w_c2 : (Jvm.Cond.code ({ cls := "com/example/lonborg/lonborg/Item", name := "<init>", desc := "(JJ[BLcom/example/lonborg/lonborg/Resources;)V" } : Jvm.MethodName) prog_1_method_1_code (7 : Nat) (Option.none : Option Jvm.ClassFile.FieldType)).before args0 about1 = true := code_word (m := ⟨2, 0⟩) (meth := k2m0) (c := k2c0) (by decide +kernel) rfl rfl rfl (by decide +kernel)
set_option maxRecDepth 65536 in
theorem w_c3 : (Jvm.Cond.code ({ cls := "java/lang/Object", name := "<init>", desc := "()V" } : Jvm.MethodName) object_method_1_code (1 : Nat) (Option.none : Option Jvm.ClassFile.FieldType)).before args0 about1 = true := code_word (m := ⟨0, 0⟩) (meth := k0m0) (c := k0c0) (by decide +kernel) rfl rfl rfl (by decide +kernel)
set_option maxRecDepth 65536 in
theorem w_c4 : (Jvm.Cond.code ({ cls := "com/example/lonborg/lonborg/ItemTree", name := "<init>", desc := "()V" } : Jvm.MethodName) prog_2_method_1_code (1 : Nat) (Option.none : Option Jvm.ClassFile.FieldType)).before args0 about1 = true := code_word (m := ⟨4, 0⟩) (meth := k4m0) (c := k4c0) (by decide +kernel) rfl rfl rfl (by decide +kernel)
set_option maxRecDepth 65536 in
theorem w_c5 : (Jvm.Cond.code ({ cls := "com/example/lonborg/lonborg/ItemTree$Leaf", name := "<init>", desc := "()V" } : Jvm.MethodName) prog_4_method_1_code (1 : Nat) (Option.none : Option Jvm.ClassFile.FieldType)).before args0 about1 = true := code_word (m := ⟨6, 0⟩) (meth := k6m0) (c := k6c0) (by decide +kernel) rfl rfl rfl (by decide +kernel)
set_option maxRecDepth 65536 in
theorem w_c6 : (Jvm.Cond.code ({ cls := "com/example/lonborg/lonborg/ItemTree$Node", name := "<init>", desc := "()V" } : Jvm.MethodName) prog_5_method_1_code (1 : Nat) (Option.none : Option Jvm.ClassFile.FieldType)).before args0 about1 = true := code_word (m := ⟨5, 0⟩) (meth := k5m0) (c := k5c0) (by decide +kernel) rfl rfl rfl (by decide +kernel)
set_option maxRecDepth 65536 in
theorem w_c7 : (Jvm.Cond.code ({ cls := "com/example/lonborg/lonborg/ItemTree", name := "last", desc := "()Lcom/example/lonborg/lonborg/Item;" } : Jvm.MethodName) prog_2_method_4_code (1 : Nat) (Option.some (Jvm.ClassFile.FieldType.object "com/example/lonborg/lonborg/Item"))).before args0 about1 = true := code_word (m := ⟨4, 2⟩) (meth := k4m2) (c := k4c2) (by decide +kernel) rfl rfl rfl (by decide +kernel)
set_option maxRecDepth 65536 in
theorem w_c8 : (Jvm.Cond.code ({ cls := "com/example/lonborg/lonborg/ItemTree", name := "add", desc := "(Lcom/example/lonborg/lonborg/Item;)V" } : Jvm.MethodName) prog_2_method_2_code (3 : Nat) (Option.none : Option Jvm.ClassFile.FieldType)).before args0 about1 = true := code_word (m := ⟨4, 1⟩) (meth := k4m1) (c := k4c1) (by decide +kernel) rfl rfl rfl (by decide +kernel)
set_option maxRecDepth 65536 in
theorem w_c9 : (Jvm.Cond.code ({ cls := "com/example/lonborg/lonborg/ItemTree$Leaf", name := "add", desc := "(Lcom/example/lonborg/lonborg/Item;)Lcom/example/lonborg/lonborg/ItemTree$Node;" } : Jvm.MethodName) prog_4_method_2_code (4 : Nat) (Option.some (Jvm.ClassFile.FieldType.object "com/example/lonborg/lonborg/ItemTree$Node"))).before args0 about1 = true := code_word (m := ⟨6, 1⟩) (meth := k6m1) (c := k6c1) (by decide +kernel) rfl rfl rfl (by decide +kernel)
set_option maxRecDepth 65536 in
theorem w_c10 : (Jvm.Cond.code ({ cls := "com/example/lonborg/lonborg/ItemTree$Leaf", name := "placeOf", desc := "(Lcom/example/lonborg/lonborg/Item;)I" } : Jvm.MethodName) prog_4_method_9_code (5 : Nat) (Option.some Jvm.ClassFile.FieldType.int)).before args0 about1 = true := code_word (m := ⟨6, 3⟩) (meth := k6m3) (c := k6c3) (by decide +kernel) rfl rfl rfl (by decide +kernel)
set_option maxRecDepth 65536 in
theorem w_c11 : (Jvm.Cond.code ({ cls := "com/example/lonborg/lonborg/Item", name := "checkedNeeds", desc := "()Lcom/example/lonborg/lonborg/Resources;" } : Jvm.MethodName) prog_1_method_7_code (1 : Nat) (Option.some (Jvm.ClassFile.FieldType.object "com/example/lonborg/lonborg/Resources"))).before args0 about1 = true := code_word (m := ⟨2, 4⟩) (meth := k2m4) (c := k2c4) (by decide +kernel) rfl rfl rfl (by decide +kernel)
set_option maxRecDepth 65536 in
theorem w_c12 : (Jvm.Cond.code ({ cls := "com/example/lonborg/lonborg/ItemTree$Node", name := "widen", desc := "(Lcom/example/lonborg/lonborg/Resources;)V" } : Jvm.MethodName) prog_5_method_10_code (2 : Nat) (Option.none : Option Jvm.ClassFile.FieldType)).before args0 about1 = true := code_word (m := ⟨5, 3⟩) (meth := k5m3) (c := k5c3) (by decide +kernel) rfl rfl rfl (by decide +kernel)
set_option maxRecDepth 65536 in
theorem w_c13 : (Jvm.Cond.code ({ cls := "com/example/lonborg/lonborg/LeastNeeds", name := "with", desc := "(Lcom/example/lonborg/lonborg/Resources;)Lcom/example/lonborg/lonborg/LeastNeeds;" } : Jvm.MethodName) prog_8_method_3_code (4 : Nat) (Option.some (Jvm.ClassFile.FieldType.object "com/example/lonborg/lonborg/LeastNeeds"))).before args0 about1 = true := code_word (m := ⟨7, 1⟩) (meth := k7m1) (c := k7c1) (by decide +kernel) rfl rfl rfl (by decide +kernel)
set_option maxRecDepth 65536 in
theorem w_c14 : (Jvm.Cond.code ({ cls := "com/example/lonborg/lonborg/LeastNeeds", name := "replaced", desc := "(ILcom/example/lonborg/lonborg/Resources;)Lcom/example/lonborg/lonborg/LeastNeeds;" } : Jvm.MethodName) prog_8_method_5_code (6 : Nat) (Option.some (Jvm.ClassFile.FieldType.object "com/example/lonborg/lonborg/LeastNeeds"))).before args0 about1 = true := code_word (m := ⟨7, 2⟩) (meth := k7m2) (c := k7c2) (by decide +kernel) rfl rfl rfl (by decide +kernel)
set_option maxRecDepth 65536 in
theorem w_c15 : (Jvm.Cond.code ({ cls := "java/lang/Math", name := "max", desc := "(II)I" } : Jvm.MethodName) jdk_29_method_65_code (2 : Nat) (Option.some Jvm.ClassFile.FieldType.int)).before args0 about1 = true := code_word (m := ⟨8, 1⟩) (meth := k8m1) (c := k8c1) (by decide +kernel) rfl rfl rfl (by decide +kernel)
set_option maxRecDepth 65536 in
theorem w_c16 : (Jvm.Cond.code ({ cls := "com/example/lonborg/lonborg/LeastNeeds", name := "<init>", desc := "([Lcom/example/lonborg/lonborg/Resources;)V" } : Jvm.MethodName) prog_8_method_1_code (2 : Nat) (Option.none : Option Jvm.ClassFile.FieldType)).before args0 about1 = true := code_word (m := ⟨7, 0⟩) (meth := k7m0) (c := k7c0) (by decide +kernel) rfl rfl rfl (by decide +kernel)
set_option maxRecDepth 65536 in
theorem w_c17 : (Jvm.Cond.code ({ cls := "com/example/lonborg/lonborg/Item", name := "priority", desc := "()J" } : Jvm.MethodName) prog_1_method_4_code (1 : Nat) (Option.some Jvm.ClassFile.FieldType.long)).before args0 about1 = true := code_word (m := ⟨2, 3⟩) (meth := k2m3) (c := k2c3) (by decide +kernel) rfl rfl rfl (by decide +kernel)
set_option maxRecDepth 65536 in
theorem w_c18 : (Jvm.Cond.code ({ cls := "com/example/lonborg/lonborg/Item", name := "id", desc := "()J" } : Jvm.MethodName) prog_1_method_3_code (1 : Nat) (Option.some Jvm.ClassFile.FieldType.long)).before args0 about1 = true := code_word (m := ⟨2, 2⟩) (meth := k2m2) (c := k2c2) (by decide +kernel) rfl rfl rfl (by decide +kernel)
set_option maxRecDepth 65536 in
theorem w_c19 : (Jvm.Cond.code ({ cls := "com/example/lonborg/lonborg/ItemTree", name := "before", desc := "(Lcom/example/lonborg/lonborg/Item;JJ)Z" } : Jvm.MethodName) prog_2_method_10_code (5 : Nat) (Option.some Jvm.ClassFile.FieldType.boolean)).before args0 about1 = true := code_word (m := ⟨4, 3⟩) (meth := k4m3) (c := k4c3) (by decide +kernel) rfl rfl rfl (by decide +kernel)
set_option maxRecDepth 65536 in
theorem w_c20 : (Jvm.Cond.code ({ cls := "com/example/lonborg/lonborg/Resources", name := "fitsIn", desc := "(Lcom/example/lonborg/lonborg/Resources;)Z" } : Jvm.MethodName) prog_18_method_4_code (9 : Nat) (Option.some Jvm.ClassFile.FieldType.boolean)).before args0 about1 = true := code_word (m := ⟨3, 0⟩) (meth := k3m0) (c := k3c0) (by decide +kernel) rfl rfl rfl (by decide +kernel)
set_option maxRecDepth 65536 in
theorem w_c21 : (Jvm.Cond.code ({ cls := "com/example/lonborg/lonborg/ItemTreeLastPinLaw", name := "after", desc := "(JJJJ)Z" } : Jvm.MethodName) method_2_code (8 : Nat) (Option.some Jvm.ClassFile.FieldType.boolean)).before args0 about1 = true := code_word (m := ⟨1, 1⟩) (meth := k1m1) (c := k1c1) (by decide +kernel) rfl rfl rfl (by decide +kernel)
set_option maxRecDepth 65536 in
theorem w_c22 : (Jvm.Cond.code ({ cls := "com/example/lonborg/lonborg/ItemTree$Leaf", name := "last", desc := "()Lcom/example/lonborg/lonborg/Item;" } : Jvm.MethodName) prog_4_method_4_code (1 : Nat) (Option.some (Jvm.ClassFile.FieldType.object "com/example/lonborg/lonborg/Item"))).before args0 about1 = true := code_word (m := ⟨6, 2⟩) (meth := k6m2) (c := k6c2) (by decide +kernel) rfl rfl rfl (by decide +kernel)
def codes1 : List Jvm.Cond := [Jvm.Cond.code x code maxLocals ret, Jvm.Cond.code ({ cls := "com/example/lonborg/lonborg/Item", name := "<init>", desc := "(JJLcom/example/lonborg/lonborg/Resources;)V" } : Jvm.MethodName) prog_1_method_2_code (6 : Nat) (Option.none : Option Jvm.ClassFile.FieldType), Jvm.Cond.code ({ cls := "com/example/lonborg/lonborg/Item", name := "<init>", desc := "(JJ[BLcom/example/lonborg/lonborg/Resources;)V" } : Jvm.MethodName) prog_1_method_1_code (7 : Nat) (Option.none : Option Jvm.ClassFile.FieldType), Jvm.Cond.code ({ cls := "java/lang/Object", name := "<init>", desc := "()V" } : Jvm.MethodName) object_method_1_code (1 : Nat) (Option.none : Option Jvm.ClassFile.FieldType), Jvm.Cond.code ({ cls := "com/example/lonborg/lonborg/ItemTree", name := "<init>", desc := "()V" } : Jvm.MethodName) prog_2_method_1_code (1 : Nat) (Option.none : Option Jvm.ClassFile.FieldType), Jvm.Cond.code ({ cls := "com/example/lonborg/lonborg/ItemTree$Leaf", name := "<init>", desc := "()V" } : Jvm.MethodName) prog_4_method_1_code (1 : Nat) (Option.none : Option Jvm.ClassFile.FieldType), Jvm.Cond.code ({ cls := "com/example/lonborg/lonborg/ItemTree$Node", name := "<init>", desc := "()V" } : Jvm.MethodName) prog_5_method_1_code (1 : Nat) (Option.none : Option Jvm.ClassFile.FieldType), Jvm.Cond.code ({ cls := "com/example/lonborg/lonborg/ItemTree", name := "last", desc := "()Lcom/example/lonborg/lonborg/Item;" } : Jvm.MethodName) prog_2_method_4_code (1 : Nat) (Option.some (Jvm.ClassFile.FieldType.object "com/example/lonborg/lonborg/Item")), Jvm.Cond.code ({ cls := "com/example/lonborg/lonborg/ItemTree", name := "add", desc := "(Lcom/example/lonborg/lonborg/Item;)V" } : Jvm.MethodName) prog_2_method_2_code (3 : Nat) (Option.none : Option Jvm.ClassFile.FieldType), Jvm.Cond.code ({ cls := "com/example/lonborg/lonborg/ItemTree$Leaf", name := "add", desc := "(Lcom/example/lonborg/lonborg/Item;)Lcom/example/lonborg/lonborg/ItemTree$Node;" } : Jvm.MethodName) prog_4_method_2_code (4 : Nat) (Option.some (Jvm.ClassFile.FieldType.object "com/example/lonborg/lonborg/ItemTree$Node")), Jvm.Cond.code ({ cls := "com/example/lonborg/lonborg/ItemTree$Leaf", name := "placeOf", desc := "(Lcom/example/lonborg/lonborg/Item;)I" } : Jvm.MethodName) prog_4_method_9_code (5 : Nat) (Option.some Jvm.ClassFile.FieldType.int), Jvm.Cond.code ({ cls := "com/example/lonborg/lonborg/Item", name := "checkedNeeds", desc := "()Lcom/example/lonborg/lonborg/Resources;" } : Jvm.MethodName) prog_1_method_7_code (1 : Nat) (Option.some (Jvm.ClassFile.FieldType.object "com/example/lonborg/lonborg/Resources")), Jvm.Cond.code ({ cls := "com/example/lonborg/lonborg/ItemTree$Node", name := "widen", desc := "(Lcom/example/lonborg/lonborg/Resources;)V" } : Jvm.MethodName) prog_5_method_10_code (2 : Nat) (Option.none : Option Jvm.ClassFile.FieldType), Jvm.Cond.code ({ cls := "com/example/lonborg/lonborg/LeastNeeds", name := "with", desc := "(Lcom/example/lonborg/lonborg/Resources;)Lcom/example/lonborg/lonborg/LeastNeeds;" } : Jvm.MethodName) prog_8_method_3_code (4 : Nat) (Option.some (Jvm.ClassFile.FieldType.object "com/example/lonborg/lonborg/LeastNeeds")), Jvm.Cond.code ({ cls := "com/example/lonborg/lonborg/LeastNeeds", name := "replaced", desc := "(ILcom/example/lonborg/lonborg/Resources;)Lcom/example/lonborg/lonborg/LeastNeeds;" } : Jvm.MethodName) prog_8_method_5_code (6 : Nat) (Option.some (Jvm.ClassFile.FieldType.object "com/example/lonborg/lonborg/LeastNeeds")), Jvm.Cond.code ({ cls := "java/lang/Math", name := "max", desc := "(II)I" } : Jvm.MethodName) jdk_29_method_65_code (2 : Nat) (Option.some Jvm.ClassFile.FieldType.int), Jvm.Cond.code ({ cls := "com/example/lonborg/lonborg/LeastNeeds", name := "<init>", desc := "([Lcom/example/lonborg/lonborg/Resources;)V" } : Jvm.MethodName) prog_8_method_1_code (2 : Nat) (Option.none : Option Jvm.ClassFile.FieldType), Jvm.Cond.code ({ cls := "com/example/lonborg/lonborg/Item", name := "priority", desc := "()J" } : Jvm.MethodName) prog_1_method_4_code (1 : Nat) (Option.some Jvm.ClassFile.FieldType.long), Jvm.Cond.code ({ cls := "com/example/lonborg/lonborg/Item", name := "id", desc := "()J" } : Jvm.MethodName) prog_1_method_3_code (1 : Nat) (Option.some Jvm.ClassFile.FieldType.long), Jvm.Cond.code ({ cls := "com/example/lonborg/lonborg/ItemTree", name := "before", desc := "(Lcom/example/lonborg/lonborg/Item;JJ)Z" } : Jvm.MethodName) prog_2_method_10_code (5 : Nat) (Option.some Jvm.ClassFile.FieldType.boolean), Jvm.Cond.code ({ cls := "com/example/lonborg/lonborg/Resources", name := "fitsIn", desc := "(Lcom/example/lonborg/lonborg/Resources;)Z" } : Jvm.MethodName) prog_18_method_4_code (9 : Nat) (Option.some Jvm.ClassFile.FieldType.boolean), Jvm.Cond.code ({ cls := "com/example/lonborg/lonborg/ItemTreeLastPinLaw", name := "after", desc := "(JJJJ)Z" } : Jvm.MethodName) method_2_code (8 : Nat) (Option.some Jvm.ClassFile.FieldType.boolean), Jvm.Cond.code ({ cls := "com/example/lonborg/lonborg/ItemTree$Leaf", name := "last", desc := "()Lcom/example/lonborg/lonborg/Item;" } : Jvm.MethodName) prog_4_method_4_code (1 : Nat) (Option.some (Jvm.ClassFile.FieldType.object "com/example/lonborg/lonborg/Item"))]
set_option maxRecDepth 65536 in
theorem codes_eq : words1.filter isCode = codes1 := rfl
theorem w_codes : ∀ c ∈ words1.filter isCode, c.before args0 about1 = true := by
  rw [codes_eq]
  intro c hc
  simp only [codes1, List.mem_cons, List.not_mem_nil, or_false] at hc
  rcases hc with rfl | rfl | rfl | rfl | rfl | rfl | rfl | rfl | rfl | rfl | rfl | rfl | rfl | rfl | rfl | rfl | rfl | rfl | rfl | rfl | rfl | rfl | rfl
  · exact w_c0
  · exact w_c1
  · exact w_c2
  · exact w_c3
  · exact w_c4
  · exact w_c5
  · exact w_c6
  · exact w_c7
  · exact w_c8
  · exact w_c9
  · exact w_c10
  · exact w_c11
  · exact w_c12
  · exact w_c13
  · exact w_c14
  · exact w_c15
  · exact w_c16
  · exact w_c17
  · exact w_c18
  · exact w_c19
  · exact w_c20
  · exact w_c21
  · exact w_c22
set_option maxRecDepth 65536 in
theorem w_t1 : (words1.take 24).all (fun c => isCode c || c.before args0 about1) = true := by decide +kernel
set_option maxRecDepth 65536 in
theorem w_t2 : ((words1.drop 24).take 24).all (fun c => isCode c || c.before args0 about1) = true := by decide +kernel
set_option maxRecDepth 65536 in
theorem w_t3 : (((words1.drop 24).drop 24).take 24).all (fun c => isCode c || c.before args0 about1) = true := by decide +kernel
set_option maxRecDepth 65536 in
theorem w_t4 : ((((words1.drop 24).drop 24).drop 24).take 24).all (fun c => isCode c || c.before args0 about1) = true := by decide +kernel
set_option maxRecDepth 65536 in
theorem w_t5 : (((((words1.drop 24).drop 24).drop 24).drop 24).take 24).all (fun c => isCode c || c.before args0 about1) = true := by decide +kernel
set_option maxRecDepth 65536 in
theorem w_t6 : ((((((words1.drop 24).drop 24).drop 24).drop 24).drop 24).take 24).all (fun c => isCode c || c.before args0 about1) = true := by decide +kernel
set_option maxRecDepth 65536 in
theorem w_t7 : ((((((words1.drop 24).drop 24).drop 24).drop 24).drop 24).drop 24).all (fun c => isCode c || c.before args0 about1) = true := by decide +kernel
theorem w_tables : (allAtoms (Jvm.Cond.code x code maxLocals ret :: tables_1)).before args0 about1 = true := by
  rw [allAtoms_all]
  show words1.all (fun c => c.before args0 about1) = true
  refine all_split ?_ w_codes
  rw [← List.take_append_drop 24 words1, List.all_append, w_t1, ← List.take_append_drop 24 (words1.drop 24), List.all_append, w_t2, ← List.take_append_drop 24 ((words1.drop 24).drop 24), List.all_append, w_t3, ← List.take_append_drop 24 (((words1.drop 24).drop 24).drop 24), List.all_append, w_t4, ← List.take_append_drop 24 ((((words1.drop 24).drop 24).drop 24).drop 24), List.all_append, w_t5, ← List.take_append_drop 24 (((((words1.drop 24).drop 24).drop 24).drop 24).drop 24), List.all_append, w_t6, w_t7]
  rfl
set_option maxRecDepth 65536 in
theorem w_case : (Jvm.Cond.and given_1 narrow_1).before args0 about1 = true := by decide +kernel
theorem w_applies : (headSpec (Jvm.Cond.code x code maxLocals ret :: tables_1) room_1).applies x e0.platform about1 = true :=
  (Spec.applies_iff w_frames).mpr ⟨w_running, w_runnable, w_alone, w_named, w_hears, w_ripe, w_room, w_tables⟩
theorem atStart : AtStart classFile x code maxLocals ret World_1 tables_1 room_1 Calls_1 rest_1 Pre_1 launch0 p0 e0 about1 theMethod args0 below0 :=
  ⟨lists_1, trivial, launch0.admits_env _ _ _, launch0.least_env, fairChoices_fair.cas, fairChoices_fair.clock, w_frames, w_args, w_heap, w_applies, trivial, trivial, w_case⟩
end start1
theorem witness_1 : WitnessClaimed_1 := ⟨start1.p0, start1.e0, start1.about1, start1.theMethod, start1.args0, start1.below0, start1.atStart⟩
end Jvm.Pilot.@@N@@
