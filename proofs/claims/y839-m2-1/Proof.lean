import JvmDerived
import JvmDerived.Pilot.@@N@@Statement
import JvmDerived.Pilot.@@N@@Code
set_option linter.unusedVariables false
set_option linter.unusedSimpArgs false
@@BLOCK:NumsL.lean.txt@@
namespace Jvm.Pilot.@@N@@
open Jvm Jvm.ClassFile Sem Op Lib Jvm.Free Jvm.Stand Jvm.LawKit Jvm.RoadKit Bundle Jvm.Pilot.@@N@@.Jvm.D
theorem own_w {ws : List Jvm.Cond} {a0 : Array Value} {Z : State} (hw : ∀ d ∈ ws, d.before a0 Z = true) (i : Nat) {d : Jvm.Cond} (h : ws[i]? = some d) : d.before a0 Z = true := hw d (List.mem_of_getElem? h)
/-! the run from a frame comes to an end of which A holds: one walk a body, branches by cases -/
def own_Go (tb : Tables) (e : Env) (below : List Frame) (A : State → Prop) (T : State) (g : JFrame) : Prop := ∃ t, Steps tb e below (T.setTop g) t ∧ A t
theorem own_st {tb : Tables} {e : Env} {below : List Frame} {A : State → Prop} {T T1 : State} {g g1 : JFrame} (k : ∀ t, Steps tb e below (T1.setTop g1) t → Steps tb e below (T.setTop g) t) (h : own_Go tb e below A T1 g1) : own_Go tb e below A T g := by
  obtain ⟨t, a, b⟩ := h
  exact ⟨t, k t a, b⟩
def own_End (s : State) (below : List Frame) (Q : Option Value → Heap → List Loc → Prop) (k n : Nat) (t : State) : Prop := ∃ o, t.status = .running ∧ Ended t below o ∧ ∃ v L, o = .returned v ∧ Q v t.heap L ∧ FrameEnd s o t L k n
theorem own_open {tb : Tables} {e : Env} {below : List Frame} {s₁ s : State} {g g' : JFrame} {Q : Option Value → Heap → List Loc → Prop} {k n : Nat} (hg : g = g') (h : own_Go tb e below (own_End s below Q k n) s₁ g') : ∃ s₂ o, Steps tb e below (s₁.setTop g) s₂ ∧ s₂.status = .running ∧ Ended s₂ below o ∧ ∃ v L, o = .returned v ∧ Q v s₂.heap L ∧ FrameEnd s o s₂ L k n := by
  subst hg
  obtain ⟨t, a, o, b, c, d⟩ := h
  exact ⟨t, o, a, b, c, d⟩
theorem own_nar {t : FieldType} {w : Value} (hw : w.isRef = true) : narrow t w = w := by cases w <;> first | (cases t <;> rfl) | simp [Value.isRef] at hw
section OwnEnds
variable {p : Program} {l : Launch} {e : Env} {R : Room} {s : State} {m : MethodId} {args : Array Value} {below : List Frame} {meth : Method} {c : Code} {T : State} {locs : List Loc} {cells slots : Nat} {Q : Option Value → Heap → List Loc → Prop} {k n : Nat} {h : Heap}
theorem own_end (X : Stand p l e R s m args below meth c T locs cells slots) (hlk : meth.locks = false) (v : Option Value) (hv : meth.sig.returnType = none → v = none) (hk : cells ≤ k) (hn : slots ≤ n) (eT : T.heap = h) (hq : Q v h locs) {g : JFrame}
    (hs : ∀ fs, (∀ (f : JFrame) (acts : List Action), f.method = m → f.locked = none → f.entered = [] → (doReturn e (T.setTop f) acts v).1 = T.setFrames fs) → Steps p.tables e below (T.setTop g) (T.setFrames fs)) : own_Go p.tables e below (own_End s below Q k n) T g := by
  obtain ⟨fs, hr, hrun, hended, hW, hsame⟩ := X.leave (v := v) hv
  exact ⟨_, hs fs hr, _, hrun, hended, v, locs, rfl, (by show Q v T.heap locs; rw [eT]; exact hq), ⟨_, rfl⟩, hW, hsame.mono hk hn⟩
theorem own_retZ (X : Stand p l e R s m args below meth c T locs cells slots) (hx : p.tables.exec = Jvm.exec) (hlk : meth.locks = false) {pc : Nat} {Ls : Array Slot} {z : Int32} {rest : List Value} {t : FieldType} (hret : meth.sig.returnType = some t) (ht : t = .boolean ∨ t = .byte ∨ t = .char ∨ t = .short) (hd : decode c.code pc = .ok (.ireturn, 1)) (hk : cells ≤ k) (hn : slots ≤ n) (eT : T.heap = h) (hq : Q (some (.int (nar t z))) h locs) :
    own_Go p.tables e below (own_End s below Q k n) T (mkF m pc Ls (.int z :: rest)) :=
  own_end X hlk _ (fun q => by rw [hret] at q; cases q) hk hn eT hq (fun fs hr => retN X hx hret ht hd hr)
theorem own_retI (X : Stand p l e R s m args below meth c T locs cells slots) (hx : p.tables.exec = Jvm.exec) (hlk : meth.locks = false) {pc : Nat} {Ls : Array Slot} {z : Int32} {rest : List Value} (hret : meth.sig.returnType = some .int) (hd : decode c.code pc = .ok (.ireturn, 1)) (hk : cells ≤ k) (hn : slots ≤ n) (eT : T.heap = h) (hq : Q (some (.int z)) h locs) :
    own_Go p.tables e below (own_End s below Q k n) T (mkF m pc Ls (.int z :: rest)) :=
  own_end X hlk _ (fun q => by rw [hret] at q; cases q) hk hn eT hq (fun fs hr => retOut X hx hret rfl (Or.inl ⟨rfl, Or.inl rfl, z, rfl⟩) hd hr)
theorem own_retJ (X : Stand p l e R s m args below meth c T locs cells slots) (hx : p.tables.exec = Jvm.exec) (hlk : meth.locks = false) {pc : Nat} {Ls : Array Slot} {z : Int64} {rest : List Value} (hret : meth.sig.returnType = some .long) (hd : decode c.code pc = .ok (.lreturn, 1)) (hk : cells ≤ k) (hn : slots ≤ n) (eT : T.heap = h) (hq : Q (some (.long z)) h locs) :
    own_Go p.tables e below (own_End s below Q k n) T (mkF m pc Ls (.long z :: rest)) :=
  own_end X hlk _ (fun q => by rw [hret] at q; cases q) hk hn eT hq (fun fs hr => retOut X hx hret rfl (Or.inr (Or.inl ⟨rfl, rfl, z, rfl⟩)) hd hr)
theorem own_retA (X : Stand p l e R s m args below meth c T locs cells slots) (hx : p.tables.exec = Jvm.exec) (hlk : meth.locks = false) {pc : Nat} {Ls : Array Slot} {w : Value} {rest : List Value} {t : FieldType} (hret : meth.sig.returnType = some t) (ht : t.isReference = true) (hw : w.isRef = true) (hd : decode c.code pc = .ok (.areturn, 1)) (hk : cells ≤ k) (hn : slots ≤ n) (eT : T.heap = h) (hq : Q (some w) h locs) :
    own_Go p.tables e below (own_End s below Q k n) T (mkF m pc Ls (w :: rest)) :=
  own_end X hlk _ (fun q => by rw [hret] at q; cases q) hk hn eT hq (fun fs hr => retOut X hx hret (own_nar hw) (Or.inr (Or.inr (Or.inr (Or.inr ⟨rfl, ht, hw⟩)))) hd hr)
theorem own_retV (X : Stand p l e R s m args below meth c T locs cells slots) (hx : p.tables.exec = Jvm.exec) (hlk : meth.locks = false) {pc : Nat} {Ls : Array Slot} (hret : meth.sig.returnType = none) (hd : decode c.code pc = .ok (.return_, 1)) (hk : cells ≤ k) (hn : slots ≤ n) (eT : T.heap = h) (hq : Q none h locs) :
    own_Go p.tables e below (own_End s below Q k n) T (mkF m pc Ls []) :=
  own_end X hlk _ (fun _ => rfl) hk hn eT hq (fun fs hr => X.returnOut hx hret hd hr)
end OwnEnds
section OwnWords
variable {args : Array Value} {first s : State} {o : Option Outcome} {idx : List Nat} {a b : Jvm.Term}
theorem own_eqI {k : Int32} (h : (Jvm.Cond.eq a b).value args first o s idx = some true) (hb : b.eval args first o idx s = some (.int k)) : a.eval args first o idx s = some (.int k) := by
  cases ha : a.eval args first o idx s with
  | none => simp [Cond.value, ha] at h
  | some x => cases x <;> simp [Cond.value, ha, hb] at h ⊢; exact h
theorem own_eqR {y : Addr} (h : (Jvm.Cond.eq a b).value args first o s idx = some true) (hb : b.eval args first o idx s = some (.ref y)) : a.eval args first o idx s = some (.ref y) := by
  cases ha : a.eval args first o idx s with
  | none => simp [Cond.value, ha] at h
  | some x => cases x <;> simp [Cond.value, ha, hb] at h ⊢; exact h
end OwnWords
theorem own_nei {i j : Int32} (h : i ≠ j) : Value.int i ≠ Value.int j := fun q => h (Value.int.inj q)
theorem own_plE {Z : State} {h : Heap} {a : Addr} {C : String} (F : Exa Z h a C) : ∃ c : Cell, h[a]? = some c ∧ c.vm.isStatics = false := by
  obtain ⟨c, -, h1, -, -, h2, -⟩ := F
  exact ⟨c, h1, h2⟩
theorem own_plV {Z : State} {h : Heap} {a : Addr} {k : ClassId} {ty : FieldType} {n : Int32} {vs : List Value} {d : Value} (F : Arv Z h a k ty n vs d) : ∃ c : Cell, h[a]? = some c ∧ c.vm.isStatics = false := by
  obtain ⟨c, A, -⟩ := F
  exact ⟨c, A.1, A.plain⟩
theorem own_stak {Z : State} {h h' : Heap} {C n d : String} {v : Value} {ws : List Addr} (F : Sta Z h C n d v) (K : Keep h h' ws) (q : ∀ x ∈ ws, ∃ c : Cell, h[x]? = some c ∧ c.vm.isStatics = false) : Sta Z h' C n d v := by
  obtain ⟨cf, i, k, f, st, cell, h1, h2, h3, h4, h5, h6, h7⟩ := F
  refine ⟨cf, i, k, f, st, cell, h1, h2, h3, h4, K.2.1 _ _ h5 (fun m => ?_), h6, h7⟩
  obtain ⟨c, e1, e2⟩ := q _ m
  cases h5.symm.trans e1
  rw [h6] at e2; cases e2
theorem own_nev {Z : State} {h : Heap} {a b : Addr} {C : String} {k : ClassId} {ty : FieldType} {n : Int32} {vs : List Value} {d : Value} {a0 : Array Value} {kk : Nat} (F : Exa Z h a C) (wi : (Jvm.Cond.instantiable C kk).before a0 Z = true) (G : Arv Z h b k ty n vs d) : a ≠ b := by
  obtain ⟨c, A, -⟩ := G
  exact ne_arr F wi A
section OwnArrays
variable {p : Program} {l : Launch} {e : Env} {R : Room} {s : State} {m : MethodId} {args : Array Value} {below : List Frame} {meth : Method} {c : Code} {T : State} {locs : List Loc} {cells slots : Nat} {Z : State} {h : Heap} {a : Addr} {k : ClassId} {ty : FieldType} {n j : Int32} {vs : List Value} {d v : Value} {rest : List Value}
theorem own_aaload (X : Stand p l e R s m args below meth c T locs cells slots) (hx : p.tables.exec = Jvm.exec) (hZ : Z.Warmed39 s.vm) (eT : T.heap = h) (F : Arv Z h a k ty n vs d) (hty : ty.isReference = true) (hj : ¬ j < 0 ∧ j < n) (hv : vs.getD j.toNatClampNeg d = v) {g : JFrame} (hg : g.method = m) (hs : g.stack = .int j :: .ref a :: rest) (hd : decode c.code g.pc = .ok (.aaload, 1)) :
    ∀ target, Steps p.tables e below (T.setTop { g with pc := g.pc + 1, stack := v :: rest }) target → Steps p.tables e below (T.setTop g) target := by
  obtain ⟨cl, A, -, S, -, H, -⟩ := F
  exact X.aaload hx (by rw [eT]; exact A.1) (State.isArrayOf_alike hZ.alike A.2.1) hty A.2.2 (inb_of S hj) (H.at (inb_of S hj) hv) hg hs hd
theorem own_iaload (X : Stand p l e R s m args below meth c T locs cells slots) (hx : p.tables.exec = Jvm.exec) (hZ : Z.Warmed39 s.vm) (eT : T.heap = h) (F : Arv Z h a k .int n vs d) (hj : ¬ j < 0 ∧ j < n) (hv : vs.getD j.toNatClampNeg d = v) {g : JFrame} (hg : g.method = m) (hs : g.stack = .int j :: .ref a :: rest) (hd : decode c.code g.pc = .ok (.iaload, 1)) :
    ∀ target, Steps p.tables e below (T.setTop { g with pc := g.pc + 1, stack := v :: rest }) target → Steps p.tables e below (T.setTop g) target := by
  obtain ⟨cl, A, -, S, -, H, -⟩ := F
  exact X.iaload hx (by rw [eT]; exact A.1) (State.isArrayOf_alike hZ.alike A.2.1) A.2.2 (inb_of S hj) (H.at (inb_of S hj) hv) hg hs hd
theorem own_laload (X : Stand p l e R s m args below meth c T locs cells slots) (hx : p.tables.exec = Jvm.exec) (hZ : Z.Warmed39 s.vm) (eT : T.heap = h) (F : Arv Z h a k .long n vs d) (hj : ¬ j < 0 ∧ j < n) (hv : vs.getD j.toNatClampNeg d = v) {g : JFrame} (hg : g.method = m) (hs : g.stack = .int j :: .ref a :: rest) (hd : decode c.code g.pc = .ok (.laload, 1)) :
    ∀ target, Steps p.tables e below (T.setTop { g with pc := g.pc + 1, stack := v :: rest }) target → Steps p.tables e below (T.setTop g) target := by
  obtain ⟨cl, A, -, S, -, H, -⟩ := F
  exact X.laload hx (by rw [eT]; exact A.1) (State.isArrayOf_alike hZ.alike A.2.1) A.2.2 (inb_of S hj) (H.at (inb_of S hj) hv) hg hs hd
theorem own_baloadB (X : Stand p l e R s m args below meth c T locs cells slots) (hx : p.tables.exec = Jvm.exec) (hZ : Z.Warmed39 s.vm) (eT : T.heap = h) (F : Arv Z h a k .byte n vs d) (hj : ¬ j < 0 ∧ j < n) (hv : vs.getD j.toNatClampNeg d = v) {g : JFrame} (hg : g.method = m) (hs : g.stack = .int j :: .ref a :: rest) (hd : decode c.code g.pc = .ok (.baload, 1)) :
    ∀ target, Steps p.tables e below (T.setTop { g with pc := g.pc + 1, stack := v :: rest }) target → Steps p.tables e below (T.setTop g) target := by
  obtain ⟨cl, A, -, S, -, H, -⟩ := F
  exact X.baloadBytes hx (by rw [eT]; exact A.1) (State.isArrayOf_alike hZ.alike A.2.1) A.2.2 (inb_of S hj) (H.at (inb_of S hj) hv) hg hs hd
theorem own_baloadZ (X : Stand p l e R s m args below meth c T locs cells slots) (hx : p.tables.exec = Jvm.exec) (hZ : Z.Warmed39 s.vm) (eT : T.heap = h) (F : Arv Z h a k .boolean n vs d) (hj : ¬ j < 0 ∧ j < n) (hv : vs.getD j.toNatClampNeg d = v) {g : JFrame} (hg : g.method = m) (hs : g.stack = .int j :: .ref a :: rest) (hd : decode c.code g.pc = .ok (.baload, 1)) :
    ∀ target, Steps p.tables e below (T.setTop { g with pc := g.pc + 1, stack := v :: rest }) target → Steps p.tables e below (T.setTop g) target := by
  obtain ⟨cl, A, -, S, -, H, -⟩ := F
  exact X.baloadBooleans hx (by rw [eT]; exact A.1) (State.isArrayOf_alike hZ.alike A.2.1) A.2.2 (inb_of S hj) (H.at (inb_of S hj) hv) hg hs hd
theorem own_alen (X : Stand p l e R s m args below meth c T locs cells slots) (hx : p.tables.exec = Jvm.exec) (hZ : Z.Warmed39 s.vm) (eT : T.heap = h) (F : Arv Z h a k ty n vs d) {g : JFrame} (hg : g.method = m) (hs : g.stack = .ref a :: rest) (hd : decode c.code g.pc = .ok (.arraylength, 1)) :
    ∀ target, Steps p.tables e below (T.setTop { g with pc := g.pc + 1, stack := .int n :: rest }) target → Steps p.tables e below (T.setTop g) target := by
  obtain ⟨cl, A, -, S, N, -, -⟩ := F
  have q := X.arraylength hx (by rw [eT]; exact A.1) (State.isArrayOf_alike hZ.alike A.2.1) hg hs hd
  rw [len_of S N] at q
  exact q
end OwnArrays
theorem own_psel {Z s : State} {a0 args : Array Value} {y : MethodName} {n : Nat} (hZ : Z.Warmed39 s.vm) (wi : (Jvm.Cond.instantiable y.cls n).before a0 Z = true) (wp : (Jvm.Cond.privateMethod y).before a0 Z = true) (wm : (Jvm.Cond.instanceMethod y).before a0 Z = true) (hy : y.cls ≠ "java/lang/invoke/MethodHandle" ∧ y.cls ≠ "java/lang/invoke/VarHandle") : (Jvm.Cond.selects y.cls y y).before args s = true := by
  have wi' : (Jvm.Cond.instantiable y.cls n).before args s = true := mvT hZ wi
  obtain ⟨c2, k2, i1, i2, -, i4, -⟩ := Cond.instantiable_spec wi'
  simp only [Bool.or_eq_false_iff] at i4
  exact selects_self_of_private i1 i2 i4.1 (Cond.privateMethod_at (mvP hZ wp (args := args))) (mvT hZ wm) hy
section OwnMore
variable {args : Array Value} {s : State} {t u : Jvm.Term} {x y : Addr} {cl : Cell} {ty : FieldType} {n j : Int32}
theorem own_len (h : (Jvm.Cond.eq (Jvm.Term.length t) (Jvm.Term.int n)).value args s none s [] = some true) (ht : t.eval args s none [] s = some (.ref x)) (A : Jvm.RoadKit.Arr s s.heap x cl ty) : cl.slots.size < 2 ^ 31 ∧ cl.slots.size.toInt32 = n := by
  have e := own_eqI h (Term.int_eval _)
  have ha : s.arrayAt? x = some cl := A.fin (Vm.Alike.refl _)
  by_cases hl : cl.slots.size < 2 ^ 31
  · refine ⟨hl, ?_⟩
    rw [len_f ht ha hl] at e
    exact Value.int.inj (Option.some.inj e)
  · simp [Term.eval, ht, ha, hl] at e
theorem own_elem (h : (Jvm.Cond.eq (Jvm.Term.elem t (Jvm.Term.int j)) u).value args s none s [] = some true) (hu : u.eval args s none [] s = some (.ref y)) (ht : t.eval args s none [] s = some (.ref x)) (A : Jvm.RoadKit.Arr s s.heap x cl ty) : cl.slots[j.toNatClampNeg]? = some (.ref y) :=
  (elem_in (own_eqR h hu) ht (Term.int_eval _) A.1).2
end OwnMore
theorem own_sto {Z : State} {h : Heap} {a y : Addr} {k : ClassId} {ty : FieldType} {n : Int32} {vs : List Value} {d : Value} {C : String} (F : Arv Z h a k ty n vs d) (O : Ovr Z k C) (I : Ins Z h y C true) : Sto Z h a (.ref y) := by
  obtain ⟨c, A, q, -⟩ := F
  exact Sto.ofV A q O I
theorem own_cp0 {p : Program} {l : Launch} {e : Env} {R : Room} {s : State} {m : MethodId} {args : Array Value} {below : List Frame} {meth : Method} {c : Code} {T : State} {locs : List Loc} {cells slots : Nat} {Z : State} {h : Heap} {a b : Addr} {k k' : ClassId} {ty ty' : FieldType} {z z' : Int32} {vs vd : List Value} {dv dd : Value}
    (X : Stand p l e R s m args below meth c T locs cells slots) (hx : p.tables.exec = Jvm.exec) (hZ : Z.Warmed39 s.vm) {a0 : Array Value} {own : String} {index : Nat} (hown : s.vm.findClass own = some m.cls)
    (w1 : (Jvm.Cond.methodLink own index Jvm.Stand.acN).before a0 Z = true) (w2 : (Jvm.Cond.native Jvm.Stand.acN).before a0 Z = true) (w3 : (Jvm.Cond.static Jvm.Stand.acN).before a0 Z = true) (w4 : (Jvm.Cond.initialized "java/lang/System").before a0 Z = true) (eT : T.heap = h)
    {sp dp nn : Int32} (A : Arv Z h a k ty z vs dv) (B : Arv Z h b k' ty' z' vd dd) (h0 : nn = 0) (hty : (ty = ty' ∧ refKind ty = false) ∨ (refKind ty = true ∧ refKind ty' = true))
    (h1 : ¬ sp < 0) (h2 : ¬ dp < 0) (h4 : sp.toNatClampNeg ≤ z.toNatClampNeg) (h5 : dp.toNatClampNeg ≤ z'.toNatClampNeg)
    {g : JFrame} (hg : g.method = m) (hsize : g.locals.size = c.maxLocals) {rest : List Value} (hs : g.stack = .int nn :: .int dp :: .ref b :: .int sp :: .ref a :: rest) (hd : decode c.code g.pc = .ok (.invokestatic index, 3))
    (hf : 1 ≤ R.frames) {W : Nat} (hW : 2 * g.monitorRoom + (rest.map fun v => v.category).sum ≤ W) (hlo : W + (nativeFrameWords "java/lang/System" "arraycopy" 5 + 11) ≤ R.locals) :
    ∃ T', Stand p l e R s m args below meth c T' locs cells slots ∧ T'.heap = h ∧ ∀ target, Steps p.tables e below (T'.setTop { g with pc := g.pc + 3, stack := rest }) target → Steps p.tables e below (T.setTop g) target := by
  subst h0
  obtain ⟨cs, As, -, Ss, -, Hs, Gs⟩ := A
  obtain ⟨cd, Ad, qd, Sd, Nd, Hd, Gd⟩ := B
  obtain ⟨os, ks, hks, sc, hsk⟩ := State.isArrayOf_alike hZ.alike As.2.1
  obtain ⟨od, kd, hkd, dc, hdk⟩ := State.isArrayOf_alike hZ.alike Ad.2.1
  have nat : ∀ {x : Int32}, ¬ x < 0 → x.toInt = x.toNatClampNeg := fun {x} q => by
    rw [Int32.lt_iff_toInt_lt] at q; have : (0 : Int32).toInt = 0 := rfl
    simp only [Int32.toNatClampNeg]; omega
  have z0 : (0 : Int32).toInt = 0 := rfl
  obtain ⟨vm₁, hW₁, X', st⟩ := X.arraycopyK (srcPos := sp) (destPos := dp) (n := 0) hx hown (mvT hZ w1) (mvT hZ w2) (mvT hZ w3) (mvT hZ w4) (by rw [eT]; exact As.1) (by rw [eT]; exact Ad.1) os od As.2.2 Ad.2.2 hks hkd hsk hdk
    (by rcases hty with ⟨rfl, r⟩ | ⟨r1, r2⟩; simp [r]; simp [r1, r2]) h1 h2 (by decide) (by rw [nat h1, z0, Ss]; omega) (by rw [nat h2, z0, Sd]; omega) (fun vm₁ hw i hi => absurd hi (Nat.not_lt_zero i)) hg hsize hs hd hf (by omega)
  have ec : copied cs cd sp dp 0 = cd := rfl
  have el : locs ++ copyLocs b dp.toNatClampNeg (0 : Int32).toNatClampNeg = locs := List.append_nil _
  rw [ec] at X' st
  rw [el] at X'
  refine ⟨_, X', ?_, st⟩
  show T.heap.setIfInBounds b cd = h
  rw [eT]
  have hb : b < h.size := Ad.lt
  have hg2 := Ad.1
  apply Array.ext_getElem?
  intro i
  by_cases hi : b = i
  · subst hi; rw [Array.getElem?_setIfInBounds_self_of_lt hb, hg2]
  · rw [Array.getElem?_setIfInBounds_ne hi]
theorem own_nb (x : Int32) : nar .byte (x.toInt8.toInt32) = x.toInt8.toInt32 := by simp [nar]
theorem own_clone {p : Program} {l : Launch} {e : Env} {R : Room} {s : State} {m : MethodId} {args : Array Value} {below : List Frame} {meth : Method} {c : Code} {T : State} {locs : List Loc} {cells slots : Nat} {Z : State} {h : Heap} {a : Addr} {ty : FieldType}
    (X : Stand p l e R s m args below meth c T locs cells slots) (hx : p.tables.exec = Jvm.exec) (hZ : Z.Warmed39 s.vm) {a0 : Array Value} {own ad : String} {index : Nat} (hown : s.vm.findClass own = some m.cls)
    (w1 : (Jvm.Cond.methodLink own index ⟨ad, "clone", "()Ljava/lang/Object;"⟩).before a0 Z = true) (w2 : (Jvm.Cond.sameMethod ad "java/lang/Object" "clone" "()Ljava/lang/Object;").before a0 Z = true) (w3 : (Jvm.Cond.native ⟨"java/lang/Object", "clone", "()Ljava/lang/Object;"⟩).before a0 Z = true)
    (w4 : (Jvm.Cond.instanceMethod ⟨"java/lang/Object", "clone", "()Ljava/lang/Object;"⟩).before a0 Z = true) (w5 : (Jvm.Cond.selects ad ⟨ad, "clone", "()Ljava/lang/Object;"⟩ ⟨"java/lang/Object", "clone", "()Ljava/lang/Object;"⟩).before a0 Z = true) (w6 : (Jvm.Cond.castable ad "java/lang/Cloneable").before a0 Z = true)
    (eT : T.heap = h) {k : ClassId} {z : Int32} {vs : List Value} {dv : Value} (F : Arv Z h a k ty z vs dv) (E : Exa Z h a ad) {g : JFrame} (hg : g.method = m) (hsize : g.locals.size = c.maxLocals) {rest : List Value} (hst : g.stack = .ref a :: rest) (hd : decode c.code g.pc = .ok (.invokevirtual index, 3))
    (hf : 1 ≤ R.frames) {W cap : Nat} (hW : 2 * g.monitorRoom + (rest.map fun v => v.category).sum ≤ W) (hl : W + 14 ≤ R.locals) (hcap : z.toNatClampNeg ≤ cap) (hc : cells + 1 ≤ R.cells) (hsl : slots + cap ≤ R.slots) :
    ∃ T' h', Stand p l e R s m args below meth c T' locs (cells + 1) (slots + cap) ∧ T'.heap = h' ∧ Ext h h' ∧ Arv Z h' h.size k ty z vs dv ∧ Exa Z h' h.size ad ∧
      ∀ target, Steps p.tables e below (T'.setTop { g with pc := g.pc + 3, stack := .ref h.size :: rest }) target → Steps p.tables e below (T.setTop g) target := by
  obtain ⟨cl, A, q1, S, q3, H, G⟩ := F
  have FC : FitC Z cl := fitC_of A fun i hi v hv => by rw [H i hi] at hv; cases hv; exact G i hi
  obtain ⟨T', h', X', e', ex, A', E', st⟩ := cloneA X hx hZ hown w1 w2 w3 w4 w5 w6 eT A E FC hg hsize hst hd hf hW hl (by rw [S]; exact hcap) hc hsl
  exact ⟨T', h', X', e', ex, ⟨cloneOf cl, A', q1, S, q3, H, G⟩, E', st⟩
theorem own_rem0 (x : Int32) : (x &&& (2147483647 : Int32)) % (6 : Int32) = (0 : Int32) ∨ (x &&& (2147483647 : Int32)) % (6 : Int32) = (1 : Int32) ∨ (x &&& (2147483647 : Int32)) % (6 : Int32) = (2 : Int32) ∨ (x &&& (2147483647 : Int32)) % (6 : Int32) = (3 : Int32) ∨ (x &&& (2147483647 : Int32)) % (6 : Int32) = (4 : Int32) ∨ (x &&& (2147483647 : Int32)) % (6 : Int32) = (5 : Int32) := by
  have e1 : (x &&& (2147483647 : Int32)).toInt = x.toInt % 2 ^ 31 := Jvm.Kit.i32_mask x 2147483647 (k := 31) (by decide) (by decide)
  have e2 : ((x &&& (2147483647 : Int32)) % (6 : Int32)).toInt = (x &&& (2147483647 : Int32)).toInt % (6 : Int32).toInt := Jvm.Kit.i32_rem_nonneg (by omega)
  have e3 : (6 : Int32).toInt = 6 := rfl
  rw [e3] at e2
  have z0 : (0 : Int32).toInt = 0 := rfl
  have z1 : (1 : Int32).toInt = 1 := rfl
  have z2 : (2 : Int32).toInt = 2 := rfl
  have z3 : (3 : Int32).toInt = 3 := rfl
  have z4 : (4 : Int32).toInt = 4 := rfl
  have z5 : (5 : Int32).toInt = 5 := rfl
  simp only [← Int32.toInt_inj]
  omega
theorem own_d1_0 : decode method_2_code 0 = .ok (.iload_n 0, 1) := by decide +kernel
theorem own_d1_1 : decode method_2_code 1 = .ok (.ifCond .ne 7, 3) := by decide +kernel
theorem own_d1_4 : decode method_2_code 4 = .ok (.getstatic 7, 3) := by decide +kernel
theorem own_d1_7 : decode method_2_code 7 = .ok (.areturn, 1) := by decide +kernel
theorem own_d1_8 : decode method_2_code 8 = .ok (.iload_n 0, 1) := by decide +kernel
theorem own_d1_9 : decode method_2_code 9 = .ok (.iconst 1, 1) := by decide +kernel
theorem own_d1_10 : decode method_2_code 10 = .ok (.if_icmp .ne 7, 3) := by decide +kernel
theorem own_d1_13 : decode method_2_code 13 = .ok (.getstatic 13, 3) := by decide +kernel
theorem own_d1_16 : decode method_2_code 16 = .ok (.areturn, 1) := by decide +kernel
theorem own_d1_17 : decode method_2_code 17 = .ok (.iload_n 0, 1) := by decide +kernel
theorem own_d1_18 : decode method_2_code 18 = .ok (.iconst 2, 1) := by decide +kernel
theorem own_d1_19 : decode method_2_code 19 = .ok (.if_icmp .ne 7, 3) := by decide +kernel
theorem own_d1_22 : decode method_2_code 22 = .ok (.getstatic 16, 3) := by decide +kernel
theorem own_d1_25 : decode method_2_code 25 = .ok (.areturn, 1) := by decide +kernel
theorem own_d1_26 : decode method_2_code 26 = .ok (.iload_n 0, 1) := by decide +kernel
theorem own_d1_27 : decode method_2_code 27 = .ok (.iconst 3, 1) := by decide +kernel
theorem own_d1_28 : decode method_2_code 28 = .ok (.if_icmp .ne 7, 3) := by decide +kernel
theorem own_d1_31 : decode method_2_code 31 = .ok (.getstatic 19, 3) := by decide +kernel
theorem own_d1_34 : decode method_2_code 34 = .ok (.areturn, 1) := by decide +kernel
theorem own_d1_35 : decode method_2_code 35 = .ok (.iload_n 0, 1) := by decide +kernel
theorem own_d1_36 : decode method_2_code 36 = .ok (.iconst 4, 1) := by decide +kernel
theorem own_d1_37 : decode method_2_code 37 = .ok (.if_icmp .ne 7, 3) := by decide +kernel
theorem own_d1_40 : decode method_2_code 40 = .ok (.getstatic 22, 3) := by decide +kernel
theorem own_d1_43 : decode method_2_code 43 = .ok (.areturn, 1) := by decide +kernel
theorem own_d1_44 : decode method_2_code 44 = .ok (.getstatic 25, 3) := by decide +kernel
theorem own_d1_47 : decode method_2_code 47 = .ok (.areturn, 1) := by decide +kernel
theorem own_ef1 (m : MethodId) (x0 : Int32) : entryFrame m #[(.int x0)] 1 = mkF m 0 #[.val (.int x0)] [] := by first | (simp [entryFrame, mkF, argsToLocals, Value.category]; done) | rfl
theorem own_pn0 : plainName "com/example/gird/gird/core/AttributeAlwaysRunsInTransactionPinLaw" = true := by first | (simp [plainName, overriddenIn]; done) | decide +kernel
def own_Q1 (ip0 : Int32) (w_MANDATORY : Addr) (w_REQUIRED : Addr) (w_REQUIRES_NEW : Addr) (w_SUPPORTS : Addr) (w_NOT_SUPPORTED : Addr) (w_NEVER : Addr) (h0 : Heap) (n0 : Nat) (v : Option Value) (h : Heap) (L : List Loc) : Prop := Fr n0 L ∧ h = h0 ∧ ((v = some (.ref w_MANDATORY) ∧ (ip0 = (0 : Int32)) ∧ True) ∨ (v = some (.ref w_REQUIRED) ∧ (¬ (ip0 = (0 : Int32))) ∧ (ip0 = (1 : Int32)) ∧ True) ∨ (v = some (.ref w_REQUIRES_NEW) ∧ (¬ (ip0 = (0 : Int32))) ∧ (¬ (ip0 = (1 : Int32))) ∧ (ip0 = (2 : Int32)) ∧ True) ∨ (v = some (.ref w_SUPPORTS) ∧ (¬ (ip0 = (0 : Int32))) ∧ (¬ (ip0 = (1 : Int32))) ∧ (¬ (ip0 = (2 : Int32))) ∧ (ip0 = (3 : Int32)) ∧ True) ∨ (v = some (.ref w_NOT_SUPPORTED) ∧ (¬ (ip0 = (0 : Int32))) ∧ (¬ (ip0 = (1 : Int32))) ∧ (¬ (ip0 = (2 : Int32))) ∧ (¬ (ip0 = (3 : Int32))) ∧ (ip0 = (4 : Int32)) ∧ True) ∨ (v = some (.ref w_NEVER) ∧ (¬ (ip0 = (0 : Int32))) ∧ (¬ (ip0 = (1 : Int32))) ∧ (¬ (ip0 = (2 : Int32))) ∧ (¬ (ip0 = (3 : Int32))) ∧ (¬ (ip0 = (4 : Int32))) ∧ True))
set_option maxRecDepth 65536 in
set_option maxHeartbeats 40000000 in
theorem own_rm1 (l : Launch) (Z : State) (a0 : Array Value) (hw : ∀ d ∈ tables_1, d.before a0 Z = true) (ws : List Jvm.Cond) (ip0 : Int32) (w_MANDATORY : Addr) (w_REQUIRED : Addr) (w_REQUIRES_NEW : Addr) (w_SUPPORTS : Addr) (w_NOT_SUPPORTED : Addr) (w_NEVER : Addr) (h0 : Heap) (n0 : Nat) (Z0 : n0 ≤ h0.size) (S_MANDATORY : Sta Z h0 "com/example/gird/gird/core/Attribute" "MANDATORY" "Lcom/example/gird/gird/core/Attribute;" (.ref w_MANDATORY)) (S_REQUIRED : Sta Z h0 "com/example/gird/gird/core/Attribute" "REQUIRED" "Lcom/example/gird/gird/core/Attribute;" (.ref w_REQUIRED)) (S_REQUIRES_NEW : Sta Z h0 "com/example/gird/gird/core/Attribute" "REQUIRES_NEW" "Lcom/example/gird/gird/core/Attribute;" (.ref w_REQUIRES_NEW)) (S_SUPPORTS : Sta Z h0 "com/example/gird/gird/core/Attribute" "SUPPORTS" "Lcom/example/gird/gird/core/Attribute;" (.ref w_SUPPORTS)) (S_NOT_SUPPORTED : Sta Z h0 "com/example/gird/gird/core/Attribute" "NOT_SUPPORTED" "Lcom/example/gird/gird/core/Attribute;" (.ref w_NOT_SUPPORTED)) (S_NEVER : Sta Z h0 "com/example/gird/gird/core/Attribute" "NEVER" "Lcom/example/gird/gird/core/Attribute;" (.ref w_NEVER)) :
    MetFree l (⟨"com/example/gird/gird/core/AttributeAlwaysRunsInTransactionPinLaw", "pick", "(I)Lcom/example/gird/gird/core/Attribute;"⟩ : MethodName) (head1 (Jvm.Cond.code (⟨"com/example/gird/gird/core/AttributeAlwaysRunsInTransactionPinLaw", "pick", "(I)Lcom/example/gird/gird/core/Attribute;"⟩ : MethodName) method_2_code 1 (some (.object "com/example/gird/gird/core/Attribute")) :: ws) ({ frames := 0, cells := 0, slots := 0, locals := 0 } : Room)) (fun a U => a = #[(.int ip0)] ∧ Z.Warmed39 U.vm ∧ U.heap = h0) (fun _ _ _ _ _ => True) (fun _ U o U' => ∃ v L, o = .returned v ∧ own_Q1 ip0 w_MANDATORY w_REQUIRED w_REQUIRES_NEW w_SUPPORTS w_NOT_SUPPORTED w_NEVER h0 n0 v U'.heap L ∧ FrameEnd U o U' L ({ frames := 0, cells := 0, slots := 0, locals := 0 } : Room).cells ({ frames := 0, cells := 0, slots := 0, locals := 0 } : Room).slots) := by
  refine MetFree.of_bodySF (plainFor_of_name own_pn0) hisR ?_
  intro p e s m args below meth c s₁ Bd hml0 hP hK
  obtain ⟨rfl, hZ, hh⟩ := hP
  have hx := Bd.exec
  have hlk := Bd.notSynchronized
  have hret := Bd.returns
  have hby := Bd.bytes
  have hml : c.maxLocals = 1 := hml0
  have hown : s.vm.findClass "com/example/gird/gird/core/AttributeAlwaysRunsInTransactionPinLaw" = some m.cls := findClass_of_methodNamed Bd.named
  have hnm := (name_of_methodNamed Bd.named Bd.method).1
  have X0 : Stand p l e ({ frames := 0, cells := 0, slots := 0, locals := 0 } : Room) s m #[(.int ip0)] below meth c s₁ [] 0 0 := Stand.of_body Bd
  have e0 : s₁.heap = h0 := by rw [← hh, Bd.state]; rfl
  have N0 := Fr.nil n0
  refine own_open (Q := own_Q1 ip0 w_MANDATORY w_REQUIRED w_REQUIRES_NEW w_SUPPORTS w_NOT_SUPPORTED w_NEVER h0 n0) (own_ef1 m ip0) ?_
  show own_Go _ _ _ _ s₁ (mkF m 0 #[.val (.int ip0)] [])
  refine own_st (fun t k => XS.iloadN X0.here hx rfl (hb hby own_d1_0) rfl k) ?_
  show own_Go _ _ _ _ s₁ (mkF m 1 #[.val (.int ip0)] [(.int ip0)])
  by_cases hc1 : ip0 = (0 : Int32)
  · skip
    refine own_st (fun t k => XS.ifNo X0.here hx rfl (hb hby own_d1_1) rfl ((if0 _ _).trans (teq hc1).2) k) ?_
    show own_Go _ _ _ _ s₁ (mkF m 4 #[.val (.int ip0)] [])
    obtain ⟨T2, X2, e2, st2⟩ := getS2 X0 hx hZ hown (host := "") (Or.inl (own_w hw 5 rfl)) Via.refl e0 S_MANDATORY (g := (mkF m 4 #[.val (.int ip0)] [])) rfl (hb hby own_d1_4)
    refine own_st st2 ?_
    show own_Go _ _ _ _ T2 (mkF m 7 #[.val (.int ip0)] [(.ref w_MANDATORY)])
    exact own_retA X2 hx hlk hret rfl rfl (hb hby own_d1_7) (by decide) (by decide) e2 ⟨N0, rfl, (Or.inl ⟨rfl, hc1, trivial⟩)⟩
  · skip
    refine own_st (fun t k => XS.ifYes X0.here hx rfl (pc0 := 1) (pc' := 8) rfl (hb hby own_d1_1) rfl ((if0 _ _).trans (feq hc1).2) (by decide) (by decide) k) ?_
    show own_Go _ _ _ _ s₁ (mkF m 8 #[.val (.int ip0)] [])
    refine own_st (fun t k => XS.iloadN X0.here hx rfl (hb hby own_d1_8) rfl k) ?_
    show own_Go _ _ _ _ s₁ (mkF m 9 #[.val (.int ip0)] [(.int ip0)])
    refine own_st (fun t k => XS.iconst X0.here hx rfl (hb hby own_d1_9) k) ?_
    show own_Go _ _ _ _ s₁ (mkF m 10 #[.val (.int ip0)] [(.int (1 : Int32)), (.int ip0)])
    by_cases hc3 : ip0 = (1 : Int32)
    · skip
      refine own_st (fun t k => XS.icmpNo X0.here hx rfl (hb hby own_d1_10) rfl (teq hc3).2 k) ?_
      show own_Go _ _ _ _ s₁ (mkF m 13 #[.val (.int ip0)] [])
      obtain ⟨T4, X4, e4, st4⟩ := getS2 X0 hx hZ hown (host := "") (Or.inl (own_w hw 33 rfl)) Via.refl e0 S_REQUIRED (g := (mkF m 13 #[.val (.int ip0)] [])) rfl (hb hby own_d1_13)
      refine own_st st4 ?_
      show own_Go _ _ _ _ T4 (mkF m 16 #[.val (.int ip0)] [(.ref w_REQUIRED)])
      exact own_retA X4 hx hlk hret rfl rfl (hb hby own_d1_16) (by decide) (by decide) e4 ⟨N0, rfl, (Or.inr (Or.inl ⟨rfl, hc1, hc3, trivial⟩))⟩
    · skip
      refine own_st (fun t k => XS.icmpYes X0.here hx rfl (pc0 := 10) (pc' := 17) rfl (hb hby own_d1_10) rfl (feq hc3).2 (by decide) (by decide) k) ?_
      show own_Go _ _ _ _ s₁ (mkF m 17 #[.val (.int ip0)] [])
      refine own_st (fun t k => XS.iloadN X0.here hx rfl (hb hby own_d1_17) rfl k) ?_
      show own_Go _ _ _ _ s₁ (mkF m 18 #[.val (.int ip0)] [(.int ip0)])
      refine own_st (fun t k => XS.iconst X0.here hx rfl (hb hby own_d1_18) k) ?_
      show own_Go _ _ _ _ s₁ (mkF m 19 #[.val (.int ip0)] [(.int (2 : Int32)), (.int ip0)])
      by_cases hc5 : ip0 = (2 : Int32)
      · skip
        refine own_st (fun t k => XS.icmpNo X0.here hx rfl (hb hby own_d1_19) rfl (teq hc5).2 k) ?_
        show own_Go _ _ _ _ s₁ (mkF m 22 #[.val (.int ip0)] [])
        obtain ⟨T6, X6, e6, st6⟩ := getS2 X0 hx hZ hown (host := "") (Or.inl (own_w hw 28 rfl)) Via.refl e0 S_REQUIRES_NEW (g := (mkF m 22 #[.val (.int ip0)] [])) rfl (hb hby own_d1_22)
        refine own_st st6 ?_
        show own_Go _ _ _ _ T6 (mkF m 25 #[.val (.int ip0)] [(.ref w_REQUIRES_NEW)])
        exact own_retA X6 hx hlk hret rfl rfl (hb hby own_d1_25) (by decide) (by decide) e6 ⟨N0, rfl, (Or.inr (Or.inr (Or.inl ⟨rfl, hc1, hc3, hc5, trivial⟩)))⟩
      · skip
        refine own_st (fun t k => XS.icmpYes X0.here hx rfl (pc0 := 19) (pc' := 26) rfl (hb hby own_d1_19) rfl (feq hc5).2 (by decide) (by decide) k) ?_
        show own_Go _ _ _ _ s₁ (mkF m 26 #[.val (.int ip0)] [])
        refine own_st (fun t k => XS.iloadN X0.here hx rfl (hb hby own_d1_26) rfl k) ?_
        show own_Go _ _ _ _ s₁ (mkF m 27 #[.val (.int ip0)] [(.int ip0)])
        refine own_st (fun t k => XS.iconst X0.here hx rfl (hb hby own_d1_27) k) ?_
        show own_Go _ _ _ _ s₁ (mkF m 28 #[.val (.int ip0)] [(.int (3 : Int32)), (.int ip0)])
        by_cases hc7 : ip0 = (3 : Int32)
        · skip
          refine own_st (fun t k => XS.icmpNo X0.here hx rfl (hb hby own_d1_28) rfl (teq hc7).2 k) ?_
          show own_Go _ _ _ _ s₁ (mkF m 31 #[.val (.int ip0)] [])
          obtain ⟨T8, X8, e8, st8⟩ := getS2 X0 hx hZ hown (host := "") (Or.inl (own_w hw 37 rfl)) Via.refl e0 S_SUPPORTS (g := (mkF m 31 #[.val (.int ip0)] [])) rfl (hb hby own_d1_31)
          refine own_st st8 ?_
          show own_Go _ _ _ _ T8 (mkF m 34 #[.val (.int ip0)] [(.ref w_SUPPORTS)])
          exact own_retA X8 hx hlk hret rfl rfl (hb hby own_d1_34) (by decide) (by decide) e8 ⟨N0, rfl, (Or.inr (Or.inr (Or.inr (Or.inl ⟨rfl, hc1, hc3, hc5, hc7, trivial⟩))))⟩
        · skip
          refine own_st (fun t k => XS.icmpYes X0.here hx rfl (pc0 := 28) (pc' := 35) rfl (hb hby own_d1_28) rfl (feq hc7).2 (by decide) (by decide) k) ?_
          show own_Go _ _ _ _ s₁ (mkF m 35 #[.val (.int ip0)] [])
          refine own_st (fun t k => XS.iloadN X0.here hx rfl (hb hby own_d1_35) rfl k) ?_
          show own_Go _ _ _ _ s₁ (mkF m 36 #[.val (.int ip0)] [(.int ip0)])
          refine own_st (fun t k => XS.iconst X0.here hx rfl (hb hby own_d1_36) k) ?_
          show own_Go _ _ _ _ s₁ (mkF m 37 #[.val (.int ip0)] [(.int (4 : Int32)), (.int ip0)])
          by_cases hc9 : ip0 = (4 : Int32)
          · skip
            refine own_st (fun t k => XS.icmpNo X0.here hx rfl (hb hby own_d1_37) rfl (teq hc9).2 k) ?_
            show own_Go _ _ _ _ s₁ (mkF m 40 #[.val (.int ip0)] [])
            obtain ⟨T10, X10, e10, st10⟩ := getS2 X0 hx hZ hown (host := "") (Or.inl (own_w hw 31 rfl)) Via.refl e0 S_NOT_SUPPORTED (g := (mkF m 40 #[.val (.int ip0)] [])) rfl (hb hby own_d1_40)
            refine own_st st10 ?_
            show own_Go _ _ _ _ T10 (mkF m 43 #[.val (.int ip0)] [(.ref w_NOT_SUPPORTED)])
            exact own_retA X10 hx hlk hret rfl rfl (hb hby own_d1_43) (by decide) (by decide) e10 ⟨N0, rfl, (Or.inr (Or.inr (Or.inr (Or.inr (Or.inl ⟨rfl, hc1, hc3, hc5, hc7, hc9, trivial⟩)))))⟩
          · skip
            refine own_st (fun t k => XS.icmpYes X0.here hx rfl (pc0 := 37) (pc' := 44) rfl (hb hby own_d1_37) rfl (feq hc9).2 (by decide) (by decide) k) ?_
            show own_Go _ _ _ _ s₁ (mkF m 44 #[.val (.int ip0)] [])
            obtain ⟨T11, X11, e11, st11⟩ := getS2 X0 hx hZ hown (host := "") (Or.inl (own_w hw 35 rfl)) Via.refl e0 S_NEVER (g := (mkF m 44 #[.val (.int ip0)] [])) rfl (hb hby own_d1_44)
            refine own_st st11 ?_
            show own_Go _ _ _ _ T11 (mkF m 47 #[.val (.int ip0)] [(.ref w_NEVER)])
            exact own_retA X11 hx hlk hret rfl rfl (hb hby own_d1_47) (by decide) (by decide) e11 ⟨N0, rfl, (Or.inr (Or.inr (Or.inr (Or.inr (Or.inr ⟨rfl, hc1, hc3, hc5, hc7, hc9, trivial⟩)))))⟩
theorem own_pd0 : parseMethodDescriptor "(I)Lcom/example/gird/gird/core/Attribute;" = some ⟨[.int], some (.object "com/example/gird/gird/core/Attribute")⟩ := by decide +kernel
theorem own_d2_0 : decode prog_13_method_5_code 0 = .ok (.aload_n 0, 1) := by decide +kernel
theorem own_d2_1 : decode prog_13_method_5_code 1 = .ok (.getfield 41, 3) := by decide +kernel
theorem own_d2_4 : decode prog_13_method_5_code 4 = .ok (.getstatic 48, 3) := by decide +kernel
theorem own_d2_7 : decode prog_13_method_5_code 7 = .ok (.if_acmp .eq 17, 3) := by decide +kernel
theorem own_d2_10 : decode prog_13_method_5_code 10 = .ok (.aload_n 0, 1) := by decide +kernel
theorem own_d2_11 : decode prog_13_method_5_code 11 = .ok (.getfield 45, 3) := by decide +kernel
theorem own_d2_14 : decode prog_13_method_5_code 14 = .ok (.getstatic 48, 3) := by decide +kernel
theorem own_d2_17 : decode prog_13_method_5_code 17 = .ok (.if_acmp .eq 7, 3) := by decide +kernel
theorem own_d2_20 : decode prog_13_method_5_code 20 = .ok (.iconst 1, 1) := by decide +kernel
theorem own_d2_21 : decode prog_13_method_5_code 21 = .ok (.goto 4, 3) := by decide +kernel
theorem own_d2_24 : decode prog_13_method_5_code 24 = .ok (.iconst 0, 1) := by decide +kernel
theorem own_d2_25 : decode prog_13_method_5_code 25 = .ok (.ireturn, 1) := by decide +kernel
theorem own_ef2 (m : MethodId) (x0 : Addr) : entryFrame m #[(.ref x0)] 1 = mkF m 0 #[.val (.ref x0)] [] := by first | (simp [entryFrame, mkF, argsToLocals, Value.category]; done) | rfl
theorem own_pn1 : plainName "com/example/gird/gird/core/Attribute" = true := by first | (simp [plainName, overriddenIn]; done) | decide +kernel
def own_Q2 (rp0 : Addr) (u_withoutCallerTransaction_rp0 : Addr) (w_NONE : Addr) (u_withCallerTransaction_rp0 : Addr) (h0 : Heap) (n0 : Nat) (v : Option Value) (h : Heap) (L : List Loc) : Prop := Fr n0 L ∧ h = h0 ∧ ((v = some (.int (0 : Int32)) ∧ (u_withoutCallerTransaction_rp0 = w_NONE) ∧ True) ∨ (v = some (.int (0 : Int32)) ∧ (¬ (u_withoutCallerTransaction_rp0 = w_NONE)) ∧ (u_withCallerTransaction_rp0 = w_NONE) ∧ True) ∨ (v = some (.int (1 : Int32)) ∧ (¬ (u_withoutCallerTransaction_rp0 = w_NONE)) ∧ (¬ (u_withCallerTransaction_rp0 = w_NONE)) ∧ True))
set_option maxRecDepth 65536 in
set_option maxHeartbeats 40000000 in
theorem own_rm2 (l : Launch) (Z : State) (a0 : Array Value) (hw : ∀ d ∈ tables_1, d.before a0 Z = true) (ws : List Jvm.Cond) (rp0 : Addr) (u_withoutCallerTransaction_rp0 : Addr) (w_NONE : Addr) (u_withCallerTransaction_rp0 : Addr) (h0 : Heap) (n0 : Nat) (Z0 : n0 ≤ h0.size) (F_withoutCallerTransaction_rp0 : Fld Z h0 rp0 "com/example/gird/gird/core/Attribute" "withoutCallerTransaction" "Lcom/example/gird/gird/core/Demarcation;" (.ref u_withoutCallerTransaction_rp0)) (S_NONE : Sta Z h0 "com/example/gird/gird/core/Demarcation" "NONE" "Lcom/example/gird/gird/core/Demarcation;" (.ref w_NONE)) (F_withCallerTransaction_rp0 : Fld Z h0 rp0 "com/example/gird/gird/core/Attribute" "withCallerTransaction" "Lcom/example/gird/gird/core/Demarcation;" (.ref u_withCallerTransaction_rp0)) :
    MetFree l (⟨"com/example/gird/gird/core/Attribute", "alwaysRunsInTransaction", "()Z"⟩ : MethodName) (head1 (Jvm.Cond.code (⟨"com/example/gird/gird/core/Attribute", "alwaysRunsInTransaction", "()Z"⟩ : MethodName) prog_13_method_5_code 1 (some .boolean) :: ws) ({ frames := 0, cells := 0, slots := 0, locals := 0 } : Room)) (fun a U => a = #[(.ref rp0)] ∧ Z.Warmed39 U.vm ∧ U.heap = h0) (fun _ _ _ _ _ => True) (fun _ U o U' => ∃ v L, o = .returned v ∧ own_Q2 rp0 u_withoutCallerTransaction_rp0 w_NONE u_withCallerTransaction_rp0 h0 n0 v U'.heap L ∧ FrameEnd U o U' L ({ frames := 0, cells := 0, slots := 0, locals := 0 } : Room).cells ({ frames := 0, cells := 0, slots := 0, locals := 0 } : Room).slots) := by
  refine MetFree.of_bodySF (plainFor_of_name own_pn1) hisR ?_
  intro p e s m args below meth c s₁ Bd hml0 hP hK
  obtain ⟨rfl, hZ, hh⟩ := hP
  have hx := Bd.exec
  have hlk := Bd.notSynchronized
  have hret := Bd.returns
  have hby := Bd.bytes
  have hml : c.maxLocals = 1 := hml0
  have hown : s.vm.findClass "com/example/gird/gird/core/Attribute" = some m.cls := findClass_of_methodNamed Bd.named
  have hnm := (name_of_methodNamed Bd.named Bd.method).1
  have X0 : Stand p l e ({ frames := 0, cells := 0, slots := 0, locals := 0 } : Room) s m #[(.ref rp0)] below meth c s₁ [] 0 0 := Stand.of_body Bd
  have e0 : s₁.heap = h0 := by rw [← hh, Bd.state]; rfl
  have N0 := Fr.nil n0
  refine own_open (Q := own_Q2 rp0 u_withoutCallerTransaction_rp0 w_NONE u_withCallerTransaction_rp0 h0 n0) (own_ef2 m rp0) ?_
  show own_Go _ _ _ _ s₁ (mkF m 0 #[.val (.ref rp0)] [])
  refine own_st (fun t k => XS.aloadN X0.here hx rfl (hb hby own_d2_0) rfl rfl k) ?_
  show own_Go _ _ _ _ s₁ (mkF m 1 #[.val (.ref rp0)] [(.ref rp0)])
  obtain ⟨T1, X1, e1, st1⟩ := getF X0 hx hZ hown (host := "") (Or.inl (own_w hw 13 rfl)) Via.refl e0 F_withoutCallerTransaction_rp0 (g := (mkF m 1 #[.val (.ref rp0)] [(.ref rp0)])) rfl rfl (hb hby own_d2_1)
  refine own_st st1 ?_
  show own_Go _ _ _ _ T1 (mkF m 4 #[.val (.ref rp0)] [(.ref u_withoutCallerTransaction_rp0)])
  obtain ⟨T2, X2, e2, st2⟩ := getS2 X1 hx hZ hown (host := "") (Or.inl (own_w hw 17 rfl)) Via.refl e1 S_NONE (g := (mkF m 4 #[.val (.ref rp0)] [(.ref u_withoutCallerTransaction_rp0)])) rfl (hb hby own_d2_4)
  refine own_st st2 ?_
  show own_Go _ _ _ _ T2 (mkF m 7 #[.val (.ref rp0)] [(.ref w_NONE), (.ref u_withoutCallerTransaction_rp0)])
  by_cases hc3 : u_withoutCallerTransaction_rp0 = w_NONE
  · skip
    refine own_st (fun t k => Jvm.RoadKit.acmp (g := (mkF m 7 #[.val (.ref rp0)] [(.ref w_NONE), (.ref u_withoutCallerTransaction_rp0)])) X2 hx rfl rfl rfl (pc0 := 7) (pc' := 24) (same := true) rfl (hb hby own_d2_7) rfl (decide_eq_true (congrArg Value.ref hc3)) (by decide) (by decide) k) ?_
    show own_Go _ _ _ _ T2 (mkF m 24 #[.val (.ref rp0)] [])
    refine own_st (fun t k => XS.iconst X2.here hx rfl (hb hby own_d2_24) k) ?_
    show own_Go _ _ _ _ T2 (mkF m 25 #[.val (.ref rp0)] [(.int (0 : Int32))])
    exact own_retZ X2 hx hlk (t := .boolean) hret (by simp) (hb hby own_d2_25) (by decide) (by decide) e2 ⟨N0, rfl, (Or.inl ⟨rfl, hc3, trivial⟩)⟩
  · skip
    refine own_st (fun t k => Jvm.RoadKit.acmp (g := (mkF m 7 #[.val (.ref rp0)] [(.ref w_NONE), (.ref u_withoutCallerTransaction_rp0)])) X2 hx rfl rfl rfl (pc0 := 7) (pc' := 10) (same := false) rfl (hb hby own_d2_7) rfl (decide_eq_false fun q => hc3 (Value.ref.inj q)) (by decide) (by decide) k) ?_
    show own_Go _ _ _ _ T2 (mkF m 10 #[.val (.ref rp0)] [])
    refine own_st (fun t k => XS.aloadN X2.here hx rfl (hb hby own_d2_10) rfl rfl k) ?_
    show own_Go _ _ _ _ T2 (mkF m 11 #[.val (.ref rp0)] [(.ref rp0)])
    obtain ⟨T4, X4, e4, st4⟩ := getF X2 hx hZ hown (host := "") (Or.inl (own_w hw 19 rfl)) Via.refl e2 F_withCallerTransaction_rp0 (g := (mkF m 11 #[.val (.ref rp0)] [(.ref rp0)])) rfl rfl (hb hby own_d2_11)
    refine own_st st4 ?_
    show own_Go _ _ _ _ T4 (mkF m 14 #[.val (.ref rp0)] [(.ref u_withCallerTransaction_rp0)])
    obtain ⟨T5, X5, e5, st5⟩ := getS2 X4 hx hZ hown (host := "") (Or.inl (own_w hw 17 rfl)) Via.refl e4 S_NONE (g := (mkF m 14 #[.val (.ref rp0)] [(.ref u_withCallerTransaction_rp0)])) rfl (hb hby own_d2_14)
    refine own_st st5 ?_
    show own_Go _ _ _ _ T5 (mkF m 17 #[.val (.ref rp0)] [(.ref w_NONE), (.ref u_withCallerTransaction_rp0)])
    by_cases hc6 : u_withCallerTransaction_rp0 = w_NONE
    · skip
      refine own_st (fun t k => Jvm.RoadKit.acmp (g := (mkF m 17 #[.val (.ref rp0)] [(.ref w_NONE), (.ref u_withCallerTransaction_rp0)])) X5 hx rfl rfl rfl (pc0 := 17) (pc' := 24) (same := true) rfl (hb hby own_d2_17) rfl (decide_eq_true (congrArg Value.ref hc6)) (by decide) (by decide) k) ?_
      show own_Go _ _ _ _ T5 (mkF m 24 #[.val (.ref rp0)] [])
      refine own_st (fun t k => XS.iconst X5.here hx rfl (hb hby own_d2_24) k) ?_
      show own_Go _ _ _ _ T5 (mkF m 25 #[.val (.ref rp0)] [(.int (0 : Int32))])
      exact own_retZ X5 hx hlk (t := .boolean) hret (by simp) (hb hby own_d2_25) (by decide) (by decide) e5 ⟨N0, rfl, (Or.inr (Or.inl ⟨rfl, hc3, hc6, trivial⟩))⟩
    · skip
      refine own_st (fun t k => Jvm.RoadKit.acmp (g := (mkF m 17 #[.val (.ref rp0)] [(.ref w_NONE), (.ref u_withCallerTransaction_rp0)])) X5 hx rfl rfl rfl (pc0 := 17) (pc' := 20) (same := false) rfl (hb hby own_d2_17) rfl (decide_eq_false fun q => hc6 (Value.ref.inj q)) (by decide) (by decide) k) ?_
      show own_Go _ _ _ _ T5 (mkF m 20 #[.val (.ref rp0)] [])
      refine own_st (fun t k => XS.iconst X5.here hx rfl (hb hby own_d2_20) k) ?_
      show own_Go _ _ _ _ T5 (mkF m 21 #[.val (.ref rp0)] [(.int (1 : Int32))])
      refine own_st (fun t k => XS.goto X5.here hx rfl (pc0 := 21) (pc' := 25) rfl (hb hby own_d2_21) (by decide) (by decide) k) ?_
      show own_Go _ _ _ _ T5 (mkF m 25 #[.val (.ref rp0)] [(.int (1 : Int32))])
      exact own_retZ X5 hx hlk (t := .boolean) hret (by simp) (hb hby own_d2_25) (by decide) (by decide) e5 ⟨N0, rfl, (Or.inr (Or.inr ⟨rfl, hc3, hc6, trivial⟩))⟩
theorem own_pd1 : parseMethodDescriptor "()Z" = some ⟨[], some .boolean⟩ := by decide +kernel
theorem own_d3_0 : decode prog_13_method_4_code 0 = .ok (.iload_n 1, 1) := by decide +kernel
theorem own_d3_1 : decode prog_13_method_4_code 1 = .ok (.ifCond .eq 10, 3) := by decide +kernel
theorem own_d3_4 : decode prog_13_method_4_code 4 = .ok (.aload_n 0, 1) := by decide +kernel
theorem own_d3_5 : decode prog_13_method_4_code 5 = .ok (.getfield 45, 3) := by decide +kernel
theorem own_d3_8 : decode prog_13_method_4_code 8 = .ok (.goto 7, 3) := by decide +kernel
theorem own_d3_11 : decode prog_13_method_4_code 11 = .ok (.aload_n 0, 1) := by decide +kernel
theorem own_d3_12 : decode prog_13_method_4_code 12 = .ok (.getfield 41, 3) := by decide +kernel
theorem own_d3_15 : decode prog_13_method_4_code 15 = .ok (.areturn, 1) := by decide +kernel
theorem own_ef3 (m : MethodId) (x0 : Addr) (x1 : Int32) : entryFrame m #[(.ref x0), (.int x1)] 2 = mkF m 0 #[.val (.ref x0), .val (.int x1)] [] := by first | (simp [entryFrame, mkF, argsToLocals, Value.category]; done) | rfl
def own_Q3 (rp0 : Addr) (ip1 : Int32) (u_withoutCallerTransaction_rp0 : Addr) (u_withCallerTransaction_rp0 : Addr) (h0 : Heap) (n0 : Nat) (v : Option Value) (h : Heap) (L : List Loc) : Prop := Fr n0 L ∧ h = h0 ∧ ((v = some (.ref u_withoutCallerTransaction_rp0) ∧ (ip1 = (0 : Int32)) ∧ True) ∨ (v = some (.ref u_withCallerTransaction_rp0) ∧ (¬ (ip1 = (0 : Int32))) ∧ True))
set_option maxRecDepth 65536 in
set_option maxHeartbeats 40000000 in
theorem own_rm3 (l : Launch) (Z : State) (a0 : Array Value) (hw : ∀ d ∈ tables_1, d.before a0 Z = true) (ws : List Jvm.Cond) (rp0 : Addr) (ip1 : Int32) (u_withoutCallerTransaction_rp0 : Addr) (u_withCallerTransaction_rp0 : Addr) (h0 : Heap) (n0 : Nat) (Z0 : n0 ≤ h0.size) (F_withoutCallerTransaction_rp0 : Fld Z h0 rp0 "com/example/gird/gird/core/Attribute" "withoutCallerTransaction" "Lcom/example/gird/gird/core/Demarcation;" (.ref u_withoutCallerTransaction_rp0)) (F_withCallerTransaction_rp0 : Fld Z h0 rp0 "com/example/gird/gird/core/Attribute" "withCallerTransaction" "Lcom/example/gird/gird/core/Demarcation;" (.ref u_withCallerTransaction_rp0)) :
    MetFree l (⟨"com/example/gird/gird/core/Attribute", "demarcation", "(Z)Lcom/example/gird/gird/core/Demarcation;"⟩ : MethodName) (head1 (Jvm.Cond.code (⟨"com/example/gird/gird/core/Attribute", "demarcation", "(Z)Lcom/example/gird/gird/core/Demarcation;"⟩ : MethodName) prog_13_method_4_code 2 (some (.object "com/example/gird/gird/core/Demarcation")) :: ws) ({ frames := 0, cells := 0, slots := 0, locals := 0 } : Room)) (fun a U => a = #[(.ref rp0), (.int ip1)] ∧ Z.Warmed39 U.vm ∧ U.heap = h0) (fun _ _ _ _ _ => True) (fun _ U o U' => ∃ v L, o = .returned v ∧ own_Q3 rp0 ip1 u_withoutCallerTransaction_rp0 u_withCallerTransaction_rp0 h0 n0 v U'.heap L ∧ FrameEnd U o U' L ({ frames := 0, cells := 0, slots := 0, locals := 0 } : Room).cells ({ frames := 0, cells := 0, slots := 0, locals := 0 } : Room).slots) := by
  refine MetFree.of_bodySF (plainFor_of_name own_pn1) hisR ?_
  intro p e s m args below meth c s₁ Bd hml0 hP hK
  obtain ⟨rfl, hZ, hh⟩ := hP
  have hx := Bd.exec
  have hlk := Bd.notSynchronized
  have hret := Bd.returns
  have hby := Bd.bytes
  have hml : c.maxLocals = 2 := hml0
  have hown : s.vm.findClass "com/example/gird/gird/core/Attribute" = some m.cls := findClass_of_methodNamed Bd.named
  have hnm := (name_of_methodNamed Bd.named Bd.method).1
  have X0 : Stand p l e ({ frames := 0, cells := 0, slots := 0, locals := 0 } : Room) s m #[(.ref rp0), (.int ip1)] below meth c s₁ [] 0 0 := Stand.of_body Bd
  have e0 : s₁.heap = h0 := by rw [← hh, Bd.state]; rfl
  have N0 := Fr.nil n0
  refine own_open (Q := own_Q3 rp0 ip1 u_withoutCallerTransaction_rp0 u_withCallerTransaction_rp0 h0 n0) (own_ef3 m rp0 ip1) ?_
  show own_Go _ _ _ _ s₁ (mkF m 0 #[.val (.ref rp0), .val (.int ip1)] [])
  refine own_st (fun t k => XS.iloadN X0.here hx rfl (hb hby own_d3_0) rfl k) ?_
  show own_Go _ _ _ _ s₁ (mkF m 1 #[.val (.ref rp0), .val (.int ip1)] [(.int ip1)])
  by_cases hc1 : ip1 = (0 : Int32)
  · skip
    refine own_st (fun t k => XS.ifYes X0.here hx rfl (pc0 := 1) (pc' := 11) rfl (hb hby own_d3_1) rfl ((if0 _ _).trans (teq hc1).1) (by decide) (by decide) k) ?_
    show own_Go _ _ _ _ s₁ (mkF m 11 #[.val (.ref rp0), .val (.int ip1)] [])
    refine own_st (fun t k => XS.aloadN X0.here hx rfl (hb hby own_d3_11) rfl rfl k) ?_
    show own_Go _ _ _ _ s₁ (mkF m 12 #[.val (.ref rp0), .val (.int ip1)] [(.ref rp0)])
    obtain ⟨T2, X2, e2, st2⟩ := getF X0 hx hZ hown (host := "") (Or.inl (own_w hw 13 rfl)) Via.refl e0 F_withoutCallerTransaction_rp0 (g := (mkF m 12 #[.val (.ref rp0), .val (.int ip1)] [(.ref rp0)])) rfl rfl (hb hby own_d3_12)
    refine own_st st2 ?_
    show own_Go _ _ _ _ T2 (mkF m 15 #[.val (.ref rp0), .val (.int ip1)] [(.ref u_withoutCallerTransaction_rp0)])
    exact own_retA X2 hx hlk hret rfl rfl (hb hby own_d3_15) (by decide) (by decide) e2 ⟨N0, rfl, (Or.inl ⟨rfl, hc1, trivial⟩)⟩
  · skip
    refine own_st (fun t k => XS.ifNo X0.here hx rfl (hb hby own_d3_1) rfl ((if0 _ _).trans (feq hc1).1) k) ?_
    show own_Go _ _ _ _ s₁ (mkF m 4 #[.val (.ref rp0), .val (.int ip1)] [])
    refine own_st (fun t k => XS.aloadN X0.here hx rfl (hb hby own_d3_4) rfl rfl k) ?_
    show own_Go _ _ _ _ s₁ (mkF m 5 #[.val (.ref rp0), .val (.int ip1)] [(.ref rp0)])
    obtain ⟨T3, X3, e3, st3⟩ := getF X0 hx hZ hown (host := "") (Or.inl (own_w hw 19 rfl)) Via.refl e0 F_withCallerTransaction_rp0 (g := (mkF m 5 #[.val (.ref rp0), .val (.int ip1)] [(.ref rp0)])) rfl rfl (hb hby own_d3_5)
    refine own_st st3 ?_
    show own_Go _ _ _ _ T3 (mkF m 8 #[.val (.ref rp0), .val (.int ip1)] [(.ref u_withCallerTransaction_rp0)])
    refine own_st (fun t k => XS.goto X3.here hx rfl (pc0 := 8) (pc' := 15) rfl (hb hby own_d3_8) (by decide) (by decide) k) ?_
    show own_Go _ _ _ _ T3 (mkF m 15 #[.val (.ref rp0), .val (.int ip1)] [(.ref u_withCallerTransaction_rp0)])
    exact own_retA X3 hx hlk hret rfl rfl (hb hby own_d3_15) (by decide) (by decide) e3 ⟨N0, rfl, (Or.inr ⟨rfl, hc1, trivial⟩)⟩
theorem own_pd2 : parseMethodDescriptor "(Z)Lcom/example/gird/gird/core/Demarcation;" = some ⟨[.boolean], some (.object "com/example/gird/gird/core/Demarcation")⟩ := by decide +kernel
theorem own_ef0 (m : MethodId) (x0 : Int32) (x1 : Int32) : entryFrame m #[(.int x0), (.int x1)] maxLocals = mkF m 0 #[.val (.int x0), .val (.int x1), .unset, .unset, .unset, .unset, .unset] [] := by first | (simp [entryFrame, mkF, argsToLocals, Value.category, maxLocals]; done) | rfl
def own_Q0 (n0 : Nat) (v : Option Value) (h : Heap) (L : List Loc) : Prop := v = some (.int (1 : Int32)) ∧ Fr n0 L
set_option maxRecDepth 65536 in
set_option maxHeartbeats 40000000 in
theorem own_rm0 (l : Launch) (Z : State) (a0 : Array Value) (hw : ∀ d ∈ tables_1, d.before a0 Z = true) (ws : List Jvm.Cond) (ip0 : Int32) (ip1 : Int32) (w_MANDATORY : Addr) (w_REFUSE_MISSING : Addr) (w_NONE : Addr) (w_CALLER : Addr) (w_REQUIRES_NEW : Addr) (w_NEW : Addr) (w_NOT_SUPPORTED : Addr) (w_REQUIRED : Addr) (w_NEVER : Addr) (w_SUPPORTS : Addr) (w_REFUSE_PRESENT : Addr) (h0 : Heap) (n0 : Nat) (Z0 : n0 ≤ h0.size) (S_MANDATORY : Sta Z h0 "com/example/gird/gird/core/Attribute" "MANDATORY" "Lcom/example/gird/gird/core/Attribute;" (.ref w_MANDATORY)) (E_w_MANDATORY : Exa Z h0 w_MANDATORY "com/example/gird/gird/core/Attribute") (S_REFUSE_MISSING : Sta Z h0 "com/example/gird/gird/core/Demarcation" "REFUSE_MISSING" "Lcom/example/gird/gird/core/Demarcation;" (.ref w_REFUSE_MISSING)) (E_w_REFUSE_MISSING : Exa Z h0 w_REFUSE_MISSING "com/example/gird/gird/core/Demarcation") (S_NONE : Sta Z h0 "com/example/gird/gird/core/Demarcation" "NONE" "Lcom/example/gird/gird/core/Demarcation;" (.ref w_NONE)) (E_w_NONE : Exa Z h0 w_NONE "com/example/gird/gird/core/Demarcation") (S_CALLER : Sta Z h0 "com/example/gird/gird/core/Demarcation" "CALLER" "Lcom/example/gird/gird/core/Demarcation;" (.ref w_CALLER)) (E_w_CALLER : Exa Z h0 w_CALLER "com/example/gird/gird/core/Demarcation") (S_REQUIRES_NEW : Sta Z h0 "com/example/gird/gird/core/Attribute" "REQUIRES_NEW" "Lcom/example/gird/gird/core/Attribute;" (.ref w_REQUIRES_NEW)) (E_w_REQUIRES_NEW : Exa Z h0 w_REQUIRES_NEW "com/example/gird/gird/core/Attribute") (S_NEW : Sta Z h0 "com/example/gird/gird/core/Demarcation" "NEW" "Lcom/example/gird/gird/core/Demarcation;" (.ref w_NEW)) (E_w_NEW : Exa Z h0 w_NEW "com/example/gird/gird/core/Demarcation") (S_NOT_SUPPORTED : Sta Z h0 "com/example/gird/gird/core/Attribute" "NOT_SUPPORTED" "Lcom/example/gird/gird/core/Attribute;" (.ref w_NOT_SUPPORTED)) (E_w_NOT_SUPPORTED : Exa Z h0 w_NOT_SUPPORTED "com/example/gird/gird/core/Attribute") (S_REQUIRED : Sta Z h0 "com/example/gird/gird/core/Attribute" "REQUIRED" "Lcom/example/gird/gird/core/Attribute;" (.ref w_REQUIRED)) (E_w_REQUIRED : Exa Z h0 w_REQUIRED "com/example/gird/gird/core/Attribute") (S_NEVER : Sta Z h0 "com/example/gird/gird/core/Attribute" "NEVER" "Lcom/example/gird/gird/core/Attribute;" (.ref w_NEVER)) (E_w_NEVER : Exa Z h0 w_NEVER "com/example/gird/gird/core/Attribute") (S_SUPPORTS : Sta Z h0 "com/example/gird/gird/core/Attribute" "SUPPORTS" "Lcom/example/gird/gird/core/Attribute;" (.ref w_SUPPORTS)) (E_w_SUPPORTS : Exa Z h0 w_SUPPORTS "com/example/gird/gird/core/Attribute") (S_REFUSE_PRESENT : Sta Z h0 "com/example/gird/gird/core/Demarcation" "REFUSE_PRESENT" "Lcom/example/gird/gird/core/Demarcation;" (.ref w_REFUSE_PRESENT)) (E_w_REFUSE_PRESENT : Exa Z h0 w_REFUSE_PRESENT "com/example/gird/gird/core/Demarcation") (F_withoutCallerTransaction_w_MANDATORY : Fld Z h0 w_MANDATORY "com/example/gird/gird/core/Attribute" "withoutCallerTransaction" "Lcom/example/gird/gird/core/Demarcation;" (.ref w_REFUSE_MISSING)) (F_ordinal_w_REFUSE_MISSING : Fld Z h0 w_REFUSE_MISSING "java/lang/Enum" "ordinal" "I" (.int (4 : Int32))) (F_ordinal_w_NONE : Fld Z h0 w_NONE "java/lang/Enum" "ordinal" "I" (.int (2 : Int32))) (F_withCallerTransaction_w_MANDATORY : Fld Z h0 w_MANDATORY "com/example/gird/gird/core/Attribute" "withCallerTransaction" "Lcom/example/gird/gird/core/Demarcation;" (.ref w_CALLER)) (F_ordinal_w_CALLER : Fld Z h0 w_CALLER "java/lang/Enum" "ordinal" "I" (.int (0 : Int32))) (F_withoutCallerTransaction_w_REQUIRES_NEW : Fld Z h0 w_REQUIRES_NEW "com/example/gird/gird/core/Attribute" "withoutCallerTransaction" "Lcom/example/gird/gird/core/Demarcation;" (.ref w_NEW)) (F_ordinal_w_NEW : Fld Z h0 w_NEW "java/lang/Enum" "ordinal" "I" (.int (1 : Int32))) (F_withCallerTransaction_w_REQUIRES_NEW : Fld Z h0 w_REQUIRES_NEW "com/example/gird/gird/core/Attribute" "withCallerTransaction" "Lcom/example/gird/gird/core/Demarcation;" (.ref w_NEW)) (F_withoutCallerTransaction_w_NOT_SUPPORTED : Fld Z h0 w_NOT_SUPPORTED "com/example/gird/gird/core/Attribute" "withoutCallerTransaction" "Lcom/example/gird/gird/core/Demarcation;" (.ref w_NONE)) (F_withoutCallerTransaction_w_REQUIRED : Fld Z h0 w_REQUIRED "com/example/gird/gird/core/Attribute" "withoutCallerTransaction" "Lcom/example/gird/gird/core/Demarcation;" (.ref w_NEW)) (F_withCallerTransaction_w_REQUIRED : Fld Z h0 w_REQUIRED "com/example/gird/gird/core/Attribute" "withCallerTransaction" "Lcom/example/gird/gird/core/Demarcation;" (.ref w_CALLER)) (F_withoutCallerTransaction_w_NEVER : Fld Z h0 w_NEVER "com/example/gird/gird/core/Attribute" "withoutCallerTransaction" "Lcom/example/gird/gird/core/Demarcation;" (.ref w_NONE)) (F_withoutCallerTransaction_w_SUPPORTS : Fld Z h0 w_SUPPORTS "com/example/gird/gird/core/Attribute" "withoutCallerTransaction" "Lcom/example/gird/gird/core/Demarcation;" (.ref w_NONE)) (F_withCallerTransaction_w_SUPPORTS : Fld Z h0 w_SUPPORTS "com/example/gird/gird/core/Attribute" "withCallerTransaction" "Lcom/example/gird/gird/core/Demarcation;" (.ref w_CALLER)) (F_withCallerTransaction_w_NOT_SUPPORTED : Fld Z h0 w_NOT_SUPPORTED "com/example/gird/gird/core/Attribute" "withCallerTransaction" "Lcom/example/gird/gird/core/Demarcation;" (.ref w_NONE)) (F_withCallerTransaction_w_NEVER : Fld Z h0 w_NEVER "com/example/gird/gird/core/Attribute" "withCallerTransaction" "Lcom/example/gird/gird/core/Demarcation;" (.ref w_REFUSE_PRESENT)) :
    MetFree l x (head1 (Jvm.Cond.code x code maxLocals ret :: ws) room_1) (fun a U => a = #[(.int ip0), (.int ip1)] ∧ Z.Warmed39 U.vm ∧ U.heap = h0) (fun _ _ _ _ _ => True) (fun _ U o U' => ∃ v L, o = .returned v ∧ own_Q0 n0 v U'.heap L ∧ FrameEnd U o U' L room_1.cells room_1.slots) := by
  refine MetFree.of_bodySF (plainFor_of_name own_pn0) hisR ?_
  intro p e s m args below meth c s₁ Bd hml0 hP hK
  obtain ⟨rfl, hZ, hh⟩ := hP
  have hx := Bd.exec
  have hlk := Bd.notSynchronized
  have hret := Bd.returns
  have hby := Bd.bytes
  have hml : c.maxLocals = 7 := hml0
  have hown : s.vm.findClass "com/example/gird/gird/core/AttributeAlwaysRunsInTransactionPinLaw" = some m.cls := findClass_of_methodNamed Bd.named
  have hnm := (name_of_methodNamed Bd.named Bd.method).1
  have X0 : Stand p l e room_1 s m #[(.int ip0), (.int ip1)] below meth c s₁ [] 0 0 := Stand.of_body Bd
  have e0 : s₁.heap = h0 := by rw [← hh, Bd.state]; rfl
  have N0 := Fr.nil n0
  refine own_open (Q := own_Q0 n0) (own_ef0 m ip0 ip1) ?_
  show own_Go _ _ _ _ s₁ (mkF m 0 #[.val (.int ip0), .val (.int ip1), .unset, .unset, .unset, .unset, .unset] [])
  refine own_st (fun t k => XS.iloadN X0.here hx rfl (hb hby at_0) rfl k) ?_
  show own_Go _ _ _ _ s₁ (mkF m 1 #[.val (.int ip0), .val (.int ip1), .unset, .unset, .unset, .unset, .unset] [(.int ip0)])
  refine own_st (X0.ldcInt hx hown (mvT hZ (own_w hw 0 rfl)) (g := (mkF m 1 #[.val (.int ip0), .val (.int ip1), .unset, .unset, .unset, .unset, .unset] [(.int ip0)])) rfl (hb hby at_1)) ?_
  show own_Go _ _ _ _ s₁ (mkF m 3 #[.val (.int ip0), .val (.int ip1), .unset, .unset, .unset, .unset, .unset] [(.int (2147483647 : Int32)), (.int ip0)])
  refine own_st (fun t k => XS.iand X0.here hx rfl (hb hby at_3) rfl k) ?_
  show own_Go _ _ _ _ s₁ (mkF m 4 #[.val (.int ip0), .val (.int ip1), .unset, .unset, .unset, .unset, .unset] [(.int (ip0 &&& (2147483647 : Int32)))])
  refine own_st (fun t k => XS.bipush X0.here hx rfl (hb hby at_4) k) ?_
  show own_Go _ _ _ _ s₁ (mkF m 6 #[.val (.int ip0), .val (.int ip1), .unset, .unset, .unset, .unset, .unset] [(.int (6 : Int32)), (.int (ip0 &&& (2147483647 : Int32)))])
  refine own_st (fun t k => iremM X0 hx rfl (hb hby at_6) rfl (by decide) k) ?_
  show own_Go _ _ _ _ s₁ (mkF m 7 #[.val (.int ip0), .val (.int ip1), .unset, .unset, .unset, .unset, .unset] [(.int ((ip0 &&& (2147483647 : Int32)) % (6 : Int32)))])
  rcases own_rem0 ip0 with qr1 | qr1 | qr1 | qr1 | qr1 | qr1
  · rw [qr1]
    show own_Go _ _ _ _ s₁ (mkF m 7 #[.val (.int ip0), .val (.int ip1), .unset, .unset, .unset, .unset, .unset] [(.int (0 : Int32))])
    refine own_st (fun t k => XS.istoreN X0.here hx rfl (hb hby at_7) rfl (l' := #[.val (.int ip0), .val (.int ip1), .val (.int (0 : Int32)), .unset, .unset, .unset, .unset]) rfl k) ?_
    show own_Go _ _ _ _ s₁ (mkF m 8 #[.val (.int ip0), .val (.int ip1), .val (.int (0 : Int32)), .unset, .unset, .unset, .unset] [])
    refine own_st (fun t k => XS.iloadN X0.here hx rfl (hb hby at_8) rfl k) ?_
    show own_Go _ _ _ _ s₁ (mkF m 9 #[.val (.int ip0), .val (.int ip1), .val (.int (0 : Int32)), .unset, .unset, .unset, .unset] [(.int (0 : Int32))])
    obtain ⟨_, _, ⟨T2, L2, k2, n2⟩, -, X2, ⟨Lc2, hQ2, l2, y2, z2⟩, st2⟩ := Jvm.LawKit.callS X0 hx (y := (⟨"com/example/gird/gird/core/AttributeAlwaysRunsInTransactionPinLaw", "pick", "(I)Lcom/example/gird/gird/core/Attribute;"⟩ : MethodName)) hown (mvT hZ (own_w hw 1 rfl)) (mvT hZ (own_w hw 2 rfl)) (mvT hZ (own_w hw 3 rfl)) (mvT hZ (own_w hw 4 rfl)) (by decide) (backOf (W := 0) (own_rm1 l Z a0 hw [] (0 : Int32) w_MANDATORY w_REQUIRED w_REQUIRES_NEW w_SUPPORTS w_NOT_SUPPORTED w_NEVER h0 n0 Z0 S_MANDATORY S_REQUIRED S_REQUIRES_NEW S_SUPPORTS S_NOT_SUPPORTED S_NEVER) hZ (own_w hw 4 rfl) (own_w hw 3 rfl) (by decide) (by decide)) (g := (mkF m 9 #[.val (.int ip0), .val (.int ip1), .val (.int (0 : Int32)), .unset, .unset, .unset, .unset] [(.int (0 : Int32))])) rfl (by rw [hml]; rfl) (argsL := [(.int (0 : Int32))]) (rest := []) (lenOf own_pd0 rfl) rfl (by show 2 * 0 + _ ≤ _; exact Nat.le_of_eq rfl) (hb hby at_9) (fun _ _ => ⟨rfl, e0, (by decide : 0 + 0 ≤ _), (by decide : 0 + 0 ≤ _)⟩)
    dsimp only [Pt.U, Pt.locs, Pt.cells, Pt.slots] at X2 l2 y2 z2 st2 hQ2
    subst l2 y2 z2
    obtain ⟨N2q, e2, hL2⟩ := hQ2
    have N2 := Fr.app N0 N2q
    rcases hL2 with ⟨rfl, hq2_0_0, -⟩ | ⟨rfl, hq2_1_0, hq2_1_1, -⟩ | ⟨rfl, hq2_2_0, hq2_2_1, hq2_2_2, -⟩ | ⟨rfl, hq2_3_0, hq2_3_1, hq2_3_2, hq2_3_3, -⟩ | ⟨rfl, hq2_4_0, hq2_4_1, hq2_4_2, hq2_4_3, hq2_4_4, -⟩ | ⟨rfl, hq2_5_0, hq2_5_1, hq2_5_2, hq2_5_3, hq2_5_4, -⟩
    · skip
      refine own_st st2 ?_
      show own_Go _ _ _ _ T2 (mkF m 12 #[.val (.int ip0), .val (.int ip1), .val (.int (0 : Int32)), .unset, .unset, .unset, .unset] [(.ref w_MANDATORY)])
      refine own_st (fun t k => XS.astoreN X2.here hx rfl (hb hby at_12) rfl rfl (l' := #[.val (.int ip0), .val (.int ip1), .val (.int (0 : Int32)), .val (.ref w_MANDATORY), .unset, .unset, .unset]) rfl k) ?_
      show own_Go _ _ _ _ T2 (mkF m 13 #[.val (.int ip0), .val (.int ip1), .val (.int (0 : Int32)), .val (.ref w_MANDATORY), .unset, .unset, .unset] [])
      refine own_st (fun t k => XS.iloadN X2.here hx rfl (hb hby at_13) rfl k) ?_
      show own_Go _ _ _ _ T2 (mkF m 14 #[.val (.int ip0), .val (.int ip1), .val (.int (0 : Int32)), .val (.ref w_MANDATORY), .unset, .unset, .unset] [(.int (0 : Int32))])
      refine own_st (fun t k => XS.iconst X2.here hx rfl (hb hby at_14) k) ?_
      show own_Go _ _ _ _ T2 (mkF m 15 #[.val (.int ip0), .val (.int ip1), .val (.int (0 : Int32)), .val (.ref w_MANDATORY), .unset, .unset, .unset] [(.int (2 : Int32)), (.int (0 : Int32))])
      refine own_st (fun t k => XS.icmpNo X2.here hx rfl (hb hby at_15) rfl (flt (by decide : ¬ ((2 : Int32) < (0 : Int32)))).2.2.1 k) ?_
      show own_Go _ _ _ _ T2 (mkF m 18 #[.val (.int ip0), .val (.int ip1), .val (.int (0 : Int32)), .val (.ref w_MANDATORY), .unset, .unset, .unset] [])
      refine own_st (fun t k => XS.iconst X2.here hx rfl (hb hby at_18) k) ?_
      show own_Go _ _ _ _ T2 (mkF m 19 #[.val (.int ip0), .val (.int ip1), .val (.int (0 : Int32)), .val (.ref w_MANDATORY), .unset, .unset, .unset] [(.int (1 : Int32))])
      refine own_st (fun t k => XS.goto X2.here hx rfl (pc0 := 19) (pc' := 23) rfl (hb hby at_19) (by decide) (by decide) k) ?_
      show own_Go _ _ _ _ T2 (mkF m 23 #[.val (.int ip0), .val (.int ip1), .val (.int (0 : Int32)), .val (.ref w_MANDATORY), .unset, .unset, .unset] [(.int (1 : Int32))])
      refine own_st (fun t k => XS.istore X2.here hx rfl (hb hby at_23) rfl (l' := #[.val (.int ip0), .val (.int ip1), .val (.int (0 : Int32)), .val (.ref w_MANDATORY), .val (.int (1 : Int32)), .unset, .unset]) rfl k) ?_
      show own_Go _ _ _ _ T2 (mkF m 25 #[.val (.int ip0), .val (.int ip1), .val (.int (0 : Int32)), .val (.ref w_MANDATORY), .val (.int (1 : Int32)), .unset, .unset] [])
      refine own_st (fun t k => XS.aloadN X2.here hx rfl (hb hby at_25) rfl rfl k) ?_
      show own_Go _ _ _ _ T2 (mkF m 26 #[.val (.int ip0), .val (.int ip1), .val (.int (0 : Int32)), .val (.ref w_MANDATORY), .val (.int (1 : Int32)), .unset, .unset] [(.ref w_MANDATORY)])
      obtain ⟨cq3, kq3, q3a, q3b, q3c⟩ := isOf hZ e2 E_w_MANDATORY
      obtain ⟨_, _, ⟨T3, L3, k3, n3⟩, -, X3, ⟨Lc3, hQ3, l3, y3, z3⟩, st3⟩ := X2.virtualBack hx (y := (⟨"com/example/gird/gird/core/Attribute", "alwaysRunsInTransaction", "()Z"⟩ : MethodName)) (z := (⟨"com/example/gird/gird/core/Attribute", "alwaysRunsInTransaction", "()Z"⟩ : MethodName)) hown (mvT hZ (own_w hw 8 rfl)) (mvT hZ (own_w hw 9 rfl)) (notFace_of_selects (args := #[]) (mvT hZ (own_w hw 11 rfl))) (mvT hZ (own_w hw 11 rfl)) (mvT hZ (own_w hw 10 rfl)) (by decide) (backOf (W := 0) (own_rm2 l Z a0 hw [] w_MANDATORY w_REFUSE_MISSING w_NONE w_CALLER h0 n0 Z0 F_withoutCallerTransaction_w_MANDATORY S_NONE F_withCallerTransaction_w_MANDATORY) hZ (own_w hw 12 rfl) (own_w hw 6 rfl) (by decide) (by decide)) q3a q3c (g := (mkF m 26 #[.val (.int ip0), .val (.int ip1), .val (.int (0 : Int32)), .val (.ref w_MANDATORY), .val (.int (1 : Int32)), .unset, .unset] [(.ref w_MANDATORY)])) rfl (by rw [hml]; rfl) (Steps.refl _) (argsL := []) (rest := []) (lenOf own_pd1 rfl) rfl (by show 2 * 0 + _ ≤ _; exact Nat.le_of_eq rfl) (hb hby at_26) (fun _ _ => ⟨rfl, e2, (by decide : 0 + 0 ≤ _), (by decide : 0 + 0 ≤ _)⟩)
      dsimp only [Pt.U, Pt.locs, Pt.cells, Pt.slots] at X3 l3 y3 z3 st3 hQ3
      subst l3 y3 z3
      obtain ⟨N3q, e3, hL3⟩ := hQ3
      have N3 := Fr.app N2 N3q
      rcases hL3 with ⟨rfl, hq3_0_0, -⟩ | ⟨rfl, hq3_1_0, hq3_1_1, -⟩ | ⟨rfl, hq3_2_0, hq3_2_1, -⟩
      · skip
        exact absurd hq3_0_0 (Fld.ne F_ordinal_w_REFUSE_MISSING F_ordinal_w_NONE (own_nei (by decide)))
      · skip
        exact absurd hq3_1_1 (Fld.ne F_ordinal_w_CALLER F_ordinal_w_NONE (own_nei (by decide)))
      · skip
        refine own_st (fun t k => st3.trans k) ?_
        show own_Go _ _ _ _ T3 (mkF m 29 #[.val (.int ip0), .val (.int ip1), .val (.int (0 : Int32)), .val (.ref w_MANDATORY), .val (.int (1 : Int32)), .unset, .unset] [(.int (1 : Int32))])
        refine own_st (fun t k => XS.istore X3.here hx rfl (hb hby at_29) rfl (l' := #[.val (.int ip0), .val (.int ip1), .val (.int (0 : Int32)), .val (.ref w_MANDATORY), .val (.int (1 : Int32)), .val (.int (1 : Int32)), .unset]) rfl k) ?_
        show own_Go _ _ _ _ T3 (mkF m 31 #[.val (.int ip0), .val (.int ip1), .val (.int (0 : Int32)), .val (.ref w_MANDATORY), .val (.int (1 : Int32)), .val (.int (1 : Int32)), .unset] [])
        refine own_st (fun t k => XS.aloadN X3.here hx rfl (hb hby at_31) rfl rfl k) ?_
        show own_Go _ _ _ _ T3 (mkF m 32 #[.val (.int ip0), .val (.int ip1), .val (.int (0 : Int32)), .val (.ref w_MANDATORY), .val (.int (1 : Int32)), .val (.int (1 : Int32)), .unset] [(.ref w_MANDATORY)])
        refine own_st (fun t k => XS.iloadN X3.here hx rfl (hb hby at_32) rfl k) ?_
        show own_Go _ _ _ _ T3 (mkF m 33 #[.val (.int ip0), .val (.int ip1), .val (.int (0 : Int32)), .val (.ref w_MANDATORY), .val (.int (1 : Int32)), .val (.int (1 : Int32)), .unset] [(.int ip1), (.ref w_MANDATORY)])
        refine own_st (fun t k => XS.iconst X3.here hx rfl (hb hby at_33) k) ?_
        show own_Go _ _ _ _ T3 (mkF m 34 #[.val (.int ip0), .val (.int ip1), .val (.int (0 : Int32)), .val (.ref w_MANDATORY), .val (.int (1 : Int32)), .val (.int (1 : Int32)), .unset] [(.int (1 : Int32)), (.int ip1), (.ref w_MANDATORY)])
        refine own_st (fun t k => XS.iand X3.here hx rfl (hb hby at_34) rfl k) ?_
        show own_Go _ _ _ _ T3 (mkF m 35 #[.val (.int ip0), .val (.int ip1), .val (.int (0 : Int32)), .val (.ref w_MANDATORY), .val (.int (1 : Int32)), .val (.int (1 : Int32)), .unset] [(.int (ip1 &&& (1 : Int32))), (.ref w_MANDATORY)])
        by_cases hc4 : (ip1 &&& (1 : Int32)) = (0 : Int32)
        · skip
          refine own_st (fun t k => XS.ifYes X3.here hx rfl (pc0 := 35) (pc' := 42) rfl (hb hby at_35) rfl ((if0 _ _).trans (teq hc4).1) (by decide) (by decide) k) ?_
          show own_Go _ _ _ _ T3 (mkF m 42 #[.val (.int ip0), .val (.int ip1), .val (.int (0 : Int32)), .val (.ref w_MANDATORY), .val (.int (1 : Int32)), .val (.int (1 : Int32)), .unset] [(.ref w_MANDATORY)])
          refine own_st (fun t k => XS.iconst X3.here hx rfl (hb hby at_42) k) ?_
          show own_Go _ _ _ _ T3 (mkF m 43 #[.val (.int ip0), .val (.int ip1), .val (.int (0 : Int32)), .val (.ref w_MANDATORY), .val (.int (1 : Int32)), .val (.int (1 : Int32)), .unset] [(.int (0 : Int32)), (.ref w_MANDATORY)])
          obtain ⟨cq5, kq5, q5a, q5b, q5c⟩ := isOf hZ e3 E_w_MANDATORY
          obtain ⟨_, _, ⟨T5, L5, k5, n5⟩, -, X5, ⟨Lc5, hQ5, l5, y5, z5⟩, st5⟩ := X3.virtualBack hx (y := (⟨"com/example/gird/gird/core/Attribute", "demarcation", "(Z)Lcom/example/gird/gird/core/Demarcation;"⟩ : MethodName)) (z := (⟨"com/example/gird/gird/core/Attribute", "demarcation", "(Z)Lcom/example/gird/gird/core/Demarcation;"⟩ : MethodName)) hown (mvT hZ (own_w hw 22 rfl)) (mvT hZ (own_w hw 23 rfl)) (notFace_of_selects (args := #[]) (mvT hZ (own_w hw 25 rfl))) (mvT hZ (own_w hw 25 rfl)) (mvT hZ (own_w hw 24 rfl)) (by decide) (backOf (W := 0) (own_rm3 l Z a0 hw [] w_MANDATORY (0 : Int32) w_REFUSE_MISSING w_CALLER h0 n0 Z0 F_withoutCallerTransaction_w_MANDATORY F_withCallerTransaction_w_MANDATORY) hZ (own_w hw 26 rfl) (own_w hw 6 rfl) (by decide) (by decide)) q5a q5c (g := (mkF m 43 #[.val (.int ip0), .val (.int ip1), .val (.int (0 : Int32)), .val (.ref w_MANDATORY), .val (.int (1 : Int32)), .val (.int (1 : Int32)), .unset] [(.int (0 : Int32)), (.ref w_MANDATORY)])) rfl (by rw [hml]; rfl) (Steps.refl _) (argsL := [(.int (0 : Int32))]) (rest := []) (lenOf own_pd2 rfl) rfl (by show 2 * 0 + _ ≤ _; exact Nat.le_of_eq rfl) (hb hby at_43) (fun _ _ => ⟨rfl, e3, (by decide : 0 + 0 ≤ _), (by decide : 0 + 0 ≤ _)⟩)
          dsimp only [Pt.U, Pt.locs, Pt.cells, Pt.slots] at X5 l5 y5 z5 st5 hQ5
          subst l5 y5 z5
          obtain ⟨N5q, e5, hL5⟩ := hQ5
          have N5 := Fr.app N3 N5q
          rcases hL5 with ⟨rfl, hq5_0_0, -⟩ | ⟨rfl, hq5_1_0, -⟩
          · skip
            refine own_st (fun t k => st5.trans k) ?_
            show own_Go _ _ _ _ T5 (mkF m 46 #[.val (.int ip0), .val (.int ip1), .val (.int (0 : Int32)), .val (.ref w_MANDATORY), .val (.int (1 : Int32)), .val (.int (1 : Int32)), .unset] [(.ref w_REFUSE_MISSING)])
            refine own_st (fun t k => XS.astore X5.here hx rfl (hb hby at_46) rfl rfl (l' := #[.val (.int ip0), .val (.int ip1), .val (.int (0 : Int32)), .val (.ref w_MANDATORY), .val (.int (1 : Int32)), .val (.int (1 : Int32)), .val (.ref w_REFUSE_MISSING)]) rfl k) ?_
            show own_Go _ _ _ _ T5 (mkF m 48 #[.val (.int ip0), .val (.int ip1), .val (.int (0 : Int32)), .val (.ref w_MANDATORY), .val (.int (1 : Int32)), .val (.int (1 : Int32)), .val (.ref w_REFUSE_MISSING)] [])
            refine own_st (fun t k => XS.iload X5.here hx rfl (hb hby at_48) rfl k) ?_
            show own_Go _ _ _ _ T5 (mkF m 50 #[.val (.int ip0), .val (.int ip1), .val (.int (0 : Int32)), .val (.ref w_MANDATORY), .val (.int (1 : Int32)), .val (.int (1 : Int32)), .val (.ref w_REFUSE_MISSING)] [(.int (1 : Int32))])
            refine own_st (fun t k => XS.iload X5.here hx rfl (hb hby at_50) rfl k) ?_
            show own_Go _ _ _ _ T5 (mkF m 52 #[.val (.int ip0), .val (.int ip1), .val (.int (0 : Int32)), .val (.ref w_MANDATORY), .val (.int (1 : Int32)), .val (.int (1 : Int32)), .val (.ref w_REFUSE_MISSING)] [(.int (1 : Int32)), (.int (1 : Int32))])
            refine own_st (fun t k => XS.icmpNo X5.here hx rfl (hb hby at_52) rfl (teq (by decide : (1 : Int32) = (1 : Int32))).2 k) ?_
            show own_Go _ _ _ _ T5 (mkF m 55 #[.val (.int ip0), .val (.int ip1), .val (.int (0 : Int32)), .val (.ref w_MANDATORY), .val (.int (1 : Int32)), .val (.int (1 : Int32)), .val (.ref w_REFUSE_MISSING)] [])
            refine own_st (fun t k => XS.iload X5.here hx rfl (hb hby at_55) rfl k) ?_
            show own_Go _ _ _ _ T5 (mkF m 57 #[.val (.int ip0), .val (.int ip1), .val (.int (0 : Int32)), .val (.ref w_MANDATORY), .val (.int (1 : Int32)), .val (.int (1 : Int32)), .val (.ref w_REFUSE_MISSING)] [(.int (1 : Int32))])
            refine own_st (fun t k => XS.ifNo X5.here hx rfl (hb hby at_57) rfl ((if0 _ _).trans (feq (by decide : ¬ ((1 : Int32) = (0 : Int32)))).1) k) ?_
            show own_Go _ _ _ _ T5 (mkF m 60 #[.val (.int ip0), .val (.int ip1), .val (.int (0 : Int32)), .val (.ref w_MANDATORY), .val (.int (1 : Int32)), .val (.int (1 : Int32)), .val (.ref w_REFUSE_MISSING)] [])
            refine own_st (fun t k => XS.aload X5.here hx rfl (hb hby at_60) rfl rfl k) ?_
            show own_Go _ _ _ _ T5 (mkF m 62 #[.val (.int ip0), .val (.int ip1), .val (.int (0 : Int32)), .val (.ref w_MANDATORY), .val (.int (1 : Int32)), .val (.int (1 : Int32)), .val (.ref w_REFUSE_MISSING)] [(.ref w_REFUSE_MISSING)])
            obtain ⟨T6, X6, e6, st6⟩ := getS2 X5 hx hZ hown (host := "") (Or.inl (own_w hw 27 rfl)) Via.refl e5 S_NONE (g := (mkF m 62 #[.val (.int ip0), .val (.int ip1), .val (.int (0 : Int32)), .val (.ref w_MANDATORY), .val (.int (1 : Int32)), .val (.int (1 : Int32)), .val (.ref w_REFUSE_MISSING)] [(.ref w_REFUSE_MISSING)])) rfl (hb hby at_62)
            refine own_st st6 ?_
            show own_Go _ _ _ _ T6 (mkF m 65 #[.val (.int ip0), .val (.int ip1), .val (.int (0 : Int32)), .val (.ref w_MANDATORY), .val (.int (1 : Int32)), .val (.int (1 : Int32)), .val (.ref w_REFUSE_MISSING)] [(.ref w_NONE), (.ref w_REFUSE_MISSING)])
            refine own_st (fun t k => Jvm.RoadKit.acmp (g := (mkF m 65 #[.val (.int ip0), .val (.int ip1), .val (.int (0 : Int32)), .val (.ref w_MANDATORY), .val (.int (1 : Int32)), .val (.int (1 : Int32)), .val (.ref w_REFUSE_MISSING)] [(.ref w_NONE), (.ref w_REFUSE_MISSING)])) X6 hx rfl rfl rfl (pc0 := 65) (pc' := 68) (same := false) rfl (hb hby at_65) rfl (decide_eq_false fun q => hq3_2_0 (Value.ref.inj q)) (by decide) (by decide) k) ?_
            show own_Go _ _ _ _ T6 (mkF m 68 #[.val (.int ip0), .val (.int ip1), .val (.int (0 : Int32)), .val (.ref w_MANDATORY), .val (.int (1 : Int32)), .val (.int (1 : Int32)), .val (.ref w_REFUSE_MISSING)] [])
            refine own_st (fun t k => XS.iconst X6.here hx rfl (hb hby at_68) k) ?_
            show own_Go _ _ _ _ T6 (mkF m 69 #[.val (.int ip0), .val (.int ip1), .val (.int (0 : Int32)), .val (.ref w_MANDATORY), .val (.int (1 : Int32)), .val (.int (1 : Int32)), .val (.ref w_REFUSE_MISSING)] [(.int (1 : Int32))])
            refine own_st (fun t k => XS.goto X6.here hx rfl (pc0 := 69) (pc' := 73) rfl (hb hby at_69) (by decide) (by decide) k) ?_
            show own_Go _ _ _ _ T6 (mkF m 73 #[.val (.int ip0), .val (.int ip1), .val (.int (0 : Int32)), .val (.ref w_MANDATORY), .val (.int (1 : Int32)), .val (.int (1 : Int32)), .val (.ref w_REFUSE_MISSING)] [(.int (1 : Int32))])
            exact own_retZ X6 hx hlk (t := .boolean) hret (by simp) (hb hby at_73) (by decide) (by decide) e6 ⟨rfl, N5⟩
          · skip
            exact absurd hq2_0_0 hq5_1_0
        · skip
          refine own_st (fun t k => XS.ifNo X3.here hx rfl (hb hby at_35) rfl ((if0 _ _).trans (feq hc4).1) k) ?_
          show own_Go _ _ _ _ T3 (mkF m 38 #[.val (.int ip0), .val (.int ip1), .val (.int (0 : Int32)), .val (.ref w_MANDATORY), .val (.int (1 : Int32)), .val (.int (1 : Int32)), .unset] [(.ref w_MANDATORY)])
          refine own_st (fun t k => XS.iconst X3.here hx rfl (hb hby at_38) k) ?_
          show own_Go _ _ _ _ T3 (mkF m 39 #[.val (.int ip0), .val (.int ip1), .val (.int (0 : Int32)), .val (.ref w_MANDATORY), .val (.int (1 : Int32)), .val (.int (1 : Int32)), .unset] [(.int (1 : Int32)), (.ref w_MANDATORY)])
          refine own_st (fun t k => XS.goto X3.here hx rfl (pc0 := 39) (pc' := 43) rfl (hb hby at_39) (by decide) (by decide) k) ?_
          show own_Go _ _ _ _ T3 (mkF m 43 #[.val (.int ip0), .val (.int ip1), .val (.int (0 : Int32)), .val (.ref w_MANDATORY), .val (.int (1 : Int32)), .val (.int (1 : Int32)), .unset] [(.int (1 : Int32)), (.ref w_MANDATORY)])
          obtain ⟨cq7, kq7, q7a, q7b, q7c⟩ := isOf hZ e3 E_w_MANDATORY
          obtain ⟨_, _, ⟨T7, L7, k7, n7⟩, -, X7, ⟨Lc7, hQ7, l7, y7, z7⟩, st7⟩ := X3.virtualBack hx (y := (⟨"com/example/gird/gird/core/Attribute", "demarcation", "(Z)Lcom/example/gird/gird/core/Demarcation;"⟩ : MethodName)) (z := (⟨"com/example/gird/gird/core/Attribute", "demarcation", "(Z)Lcom/example/gird/gird/core/Demarcation;"⟩ : MethodName)) hown (mvT hZ (own_w hw 22 rfl)) (mvT hZ (own_w hw 23 rfl)) (notFace_of_selects (args := #[]) (mvT hZ (own_w hw 25 rfl))) (mvT hZ (own_w hw 25 rfl)) (mvT hZ (own_w hw 24 rfl)) (by decide) (backOf (W := 0) (own_rm3 l Z a0 hw [] w_MANDATORY (1 : Int32) w_REFUSE_MISSING w_CALLER h0 n0 Z0 F_withoutCallerTransaction_w_MANDATORY F_withCallerTransaction_w_MANDATORY) hZ (own_w hw 26 rfl) (own_w hw 6 rfl) (by decide) (by decide)) q7a q7c (g := (mkF m 43 #[.val (.int ip0), .val (.int ip1), .val (.int (0 : Int32)), .val (.ref w_MANDATORY), .val (.int (1 : Int32)), .val (.int (1 : Int32)), .unset] [(.int (1 : Int32)), (.ref w_MANDATORY)])) rfl (by rw [hml]; rfl) (Steps.refl _) (argsL := [(.int (1 : Int32))]) (rest := []) (lenOf own_pd2 rfl) rfl (by show 2 * 0 + _ ≤ _; exact Nat.le_of_eq rfl) (hb hby at_43) (fun _ _ => ⟨rfl, e3, (by decide : 0 + 0 ≤ _), (by decide : 0 + 0 ≤ _)⟩)
          dsimp only [Pt.U, Pt.locs, Pt.cells, Pt.slots] at X7 l7 y7 z7 st7 hQ7
          subst l7 y7 z7
          obtain ⟨N7q, e7, hL7⟩ := hQ7
          have N7 := Fr.app N3 N7q
          rcases hL7 with ⟨rfl, hq7_0_0, -⟩ | ⟨rfl, hq7_1_0, -⟩
          · skip
            exact absurd hq7_0_0 (by decide : ¬ ((1 : Int32) = (0 : Int32)))
          · skip
            refine own_st (fun t k => st7.trans k) ?_
            show own_Go _ _ _ _ T7 (mkF m 46 #[.val (.int ip0), .val (.int ip1), .val (.int (0 : Int32)), .val (.ref w_MANDATORY), .val (.int (1 : Int32)), .val (.int (1 : Int32)), .unset] [(.ref w_CALLER)])
            refine own_st (fun t k => XS.astore X7.here hx rfl (hb hby at_46) rfl rfl (l' := #[.val (.int ip0), .val (.int ip1), .val (.int (0 : Int32)), .val (.ref w_MANDATORY), .val (.int (1 : Int32)), .val (.int (1 : Int32)), .val (.ref w_CALLER)]) rfl k) ?_
            show own_Go _ _ _ _ T7 (mkF m 48 #[.val (.int ip0), .val (.int ip1), .val (.int (0 : Int32)), .val (.ref w_MANDATORY), .val (.int (1 : Int32)), .val (.int (1 : Int32)), .val (.ref w_CALLER)] [])
            refine own_st (fun t k => XS.iload X7.here hx rfl (hb hby at_48) rfl k) ?_
            show own_Go _ _ _ _ T7 (mkF m 50 #[.val (.int ip0), .val (.int ip1), .val (.int (0 : Int32)), .val (.ref w_MANDATORY), .val (.int (1 : Int32)), .val (.int (1 : Int32)), .val (.ref w_CALLER)] [(.int (1 : Int32))])
            refine own_st (fun t k => XS.iload X7.here hx rfl (hb hby at_50) rfl k) ?_
            show own_Go _ _ _ _ T7 (mkF m 52 #[.val (.int ip0), .val (.int ip1), .val (.int (0 : Int32)), .val (.ref w_MANDATORY), .val (.int (1 : Int32)), .val (.int (1 : Int32)), .val (.ref w_CALLER)] [(.int (1 : Int32)), (.int (1 : Int32))])
            refine own_st (fun t k => XS.icmpNo X7.here hx rfl (hb hby at_52) rfl (teq (by decide : (1 : Int32) = (1 : Int32))).2 k) ?_
            show own_Go _ _ _ _ T7 (mkF m 55 #[.val (.int ip0), .val (.int ip1), .val (.int (0 : Int32)), .val (.ref w_MANDATORY), .val (.int (1 : Int32)), .val (.int (1 : Int32)), .val (.ref w_CALLER)] [])
            refine own_st (fun t k => XS.iload X7.here hx rfl (hb hby at_55) rfl k) ?_
            show own_Go _ _ _ _ T7 (mkF m 57 #[.val (.int ip0), .val (.int ip1), .val (.int (0 : Int32)), .val (.ref w_MANDATORY), .val (.int (1 : Int32)), .val (.int (1 : Int32)), .val (.ref w_CALLER)] [(.int (1 : Int32))])
            refine own_st (fun t k => XS.ifNo X7.here hx rfl (hb hby at_57) rfl ((if0 _ _).trans (feq hq7_1_0).1) k) ?_
            show own_Go _ _ _ _ T7 (mkF m 60 #[.val (.int ip0), .val (.int ip1), .val (.int (0 : Int32)), .val (.ref w_MANDATORY), .val (.int (1 : Int32)), .val (.int (1 : Int32)), .val (.ref w_CALLER)] [])
            refine own_st (fun t k => XS.aload X7.here hx rfl (hb hby at_60) rfl rfl k) ?_
            show own_Go _ _ _ _ T7 (mkF m 62 #[.val (.int ip0), .val (.int ip1), .val (.int (0 : Int32)), .val (.ref w_MANDATORY), .val (.int (1 : Int32)), .val (.int (1 : Int32)), .val (.ref w_CALLER)] [(.ref w_CALLER)])
            obtain ⟨T8, X8, e8, st8⟩ := getS2 X7 hx hZ hown (host := "") (Or.inl (own_w hw 27 rfl)) Via.refl e7 S_NONE (g := (mkF m 62 #[.val (.int ip0), .val (.int ip1), .val (.int (0 : Int32)), .val (.ref w_MANDATORY), .val (.int (1 : Int32)), .val (.int (1 : Int32)), .val (.ref w_CALLER)] [(.ref w_CALLER)])) rfl (hb hby at_62)
            refine own_st st8 ?_
            show own_Go _ _ _ _ T8 (mkF m 65 #[.val (.int ip0), .val (.int ip1), .val (.int (0 : Int32)), .val (.ref w_MANDATORY), .val (.int (1 : Int32)), .val (.int (1 : Int32)), .val (.ref w_CALLER)] [(.ref w_NONE), (.ref w_CALLER)])
            refine own_st (fun t k => Jvm.RoadKit.acmp (g := (mkF m 65 #[.val (.int ip0), .val (.int ip1), .val (.int (0 : Int32)), .val (.ref w_MANDATORY), .val (.int (1 : Int32)), .val (.int (1 : Int32)), .val (.ref w_CALLER)] [(.ref w_NONE), (.ref w_CALLER)])) X8 hx rfl rfl rfl (pc0 := 65) (pc' := 68) (same := false) rfl (hb hby at_65) rfl (decide_eq_false fun q => hq3_2_1 (Value.ref.inj q)) (by decide) (by decide) k) ?_
            show own_Go _ _ _ _ T8 (mkF m 68 #[.val (.int ip0), .val (.int ip1), .val (.int (0 : Int32)), .val (.ref w_MANDATORY), .val (.int (1 : Int32)), .val (.int (1 : Int32)), .val (.ref w_CALLER)] [])
            refine own_st (fun t k => XS.iconst X8.here hx rfl (hb hby at_68) k) ?_
            show own_Go _ _ _ _ T8 (mkF m 69 #[.val (.int ip0), .val (.int ip1), .val (.int (0 : Int32)), .val (.ref w_MANDATORY), .val (.int (1 : Int32)), .val (.int (1 : Int32)), .val (.ref w_CALLER)] [(.int (1 : Int32))])
            refine own_st (fun t k => XS.goto X8.here hx rfl (pc0 := 69) (pc' := 73) rfl (hb hby at_69) (by decide) (by decide) k) ?_
            show own_Go _ _ _ _ T8 (mkF m 73 #[.val (.int ip0), .val (.int ip1), .val (.int (0 : Int32)), .val (.ref w_MANDATORY), .val (.int (1 : Int32)), .val (.int (1 : Int32)), .val (.ref w_CALLER)] [(.int (1 : Int32))])
            exact own_retZ X8 hx hlk (t := .boolean) hret (by simp) (hb hby at_73) (by decide) (by decide) e8 ⟨rfl, N7⟩
    · skip
      exact absurd (by decide : (0 : Int32) = (0 : Int32)) hq2_1_0
    · skip
      exact absurd (by decide : (0 : Int32) = (0 : Int32)) hq2_2_0
    · skip
      exact absurd (by decide : (0 : Int32) = (0 : Int32)) hq2_3_0
    · skip
      exact absurd (by decide : (0 : Int32) = (0 : Int32)) hq2_4_0
    · skip
      exact absurd (by decide : (0 : Int32) = (0 : Int32)) hq2_5_0
  · rw [qr1]
    show own_Go _ _ _ _ s₁ (mkF m 7 #[.val (.int ip0), .val (.int ip1), .unset, .unset, .unset, .unset, .unset] [(.int (1 : Int32))])
    refine own_st (fun t k => XS.istoreN X0.here hx rfl (hb hby at_7) rfl (l' := #[.val (.int ip0), .val (.int ip1), .val (.int (1 : Int32)), .unset, .unset, .unset, .unset]) rfl k) ?_
    show own_Go _ _ _ _ s₁ (mkF m 8 #[.val (.int ip0), .val (.int ip1), .val (.int (1 : Int32)), .unset, .unset, .unset, .unset] [])
    refine own_st (fun t k => XS.iloadN X0.here hx rfl (hb hby at_8) rfl k) ?_
    show own_Go _ _ _ _ s₁ (mkF m 9 #[.val (.int ip0), .val (.int ip1), .val (.int (1 : Int32)), .unset, .unset, .unset, .unset] [(.int (1 : Int32))])
    obtain ⟨_, _, ⟨T9, L9, k9, n9⟩, -, X9, ⟨Lc9, hQ9, l9, y9, z9⟩, st9⟩ := Jvm.LawKit.callS X0 hx (y := (⟨"com/example/gird/gird/core/AttributeAlwaysRunsInTransactionPinLaw", "pick", "(I)Lcom/example/gird/gird/core/Attribute;"⟩ : MethodName)) hown (mvT hZ (own_w hw 1 rfl)) (mvT hZ (own_w hw 2 rfl)) (mvT hZ (own_w hw 3 rfl)) (mvT hZ (own_w hw 4 rfl)) (by decide) (backOf (W := 0) (own_rm1 l Z a0 hw [] (1 : Int32) w_MANDATORY w_REQUIRED w_REQUIRES_NEW w_SUPPORTS w_NOT_SUPPORTED w_NEVER h0 n0 Z0 S_MANDATORY S_REQUIRED S_REQUIRES_NEW S_SUPPORTS S_NOT_SUPPORTED S_NEVER) hZ (own_w hw 4 rfl) (own_w hw 3 rfl) (by decide) (by decide)) (g := (mkF m 9 #[.val (.int ip0), .val (.int ip1), .val (.int (1 : Int32)), .unset, .unset, .unset, .unset] [(.int (1 : Int32))])) rfl (by rw [hml]; rfl) (argsL := [(.int (1 : Int32))]) (rest := []) (lenOf own_pd0 rfl) rfl (by show 2 * 0 + _ ≤ _; exact Nat.le_of_eq rfl) (hb hby at_9) (fun _ _ => ⟨rfl, e0, (by decide : 0 + 0 ≤ _), (by decide : 0 + 0 ≤ _)⟩)
    dsimp only [Pt.U, Pt.locs, Pt.cells, Pt.slots] at X9 l9 y9 z9 st9 hQ9
    subst l9 y9 z9
    obtain ⟨N9q, e9, hL9⟩ := hQ9
    have N9 := Fr.app N0 N9q
    rcases hL9 with ⟨rfl, hq9_0_0, -⟩ | ⟨rfl, hq9_1_0, hq9_1_1, -⟩ | ⟨rfl, hq9_2_0, hq9_2_1, hq9_2_2, -⟩ | ⟨rfl, hq9_3_0, hq9_3_1, hq9_3_2, hq9_3_3, -⟩ | ⟨rfl, hq9_4_0, hq9_4_1, hq9_4_2, hq9_4_3, hq9_4_4, -⟩ | ⟨rfl, hq9_5_0, hq9_5_1, hq9_5_2, hq9_5_3, hq9_5_4, -⟩
    · skip
      exact absurd hq9_0_0 (by decide : ¬ ((1 : Int32) = (0 : Int32)))
    · skip
      refine own_st st9 ?_
      show own_Go _ _ _ _ T9 (mkF m 12 #[.val (.int ip0), .val (.int ip1), .val (.int (1 : Int32)), .unset, .unset, .unset, .unset] [(.ref w_REQUIRED)])
      refine own_st (fun t k => XS.astoreN X9.here hx rfl (hb hby at_12) rfl rfl (l' := #[.val (.int ip0), .val (.int ip1), .val (.int (1 : Int32)), .val (.ref w_REQUIRED), .unset, .unset, .unset]) rfl k) ?_
      show own_Go _ _ _ _ T9 (mkF m 13 #[.val (.int ip0), .val (.int ip1), .val (.int (1 : Int32)), .val (.ref w_REQUIRED), .unset, .unset, .unset] [])
      refine own_st (fun t k => XS.iloadN X9.here hx rfl (hb hby at_13) rfl k) ?_
      show own_Go _ _ _ _ T9 (mkF m 14 #[.val (.int ip0), .val (.int ip1), .val (.int (1 : Int32)), .val (.ref w_REQUIRED), .unset, .unset, .unset] [(.int (1 : Int32))])
      refine own_st (fun t k => XS.iconst X9.here hx rfl (hb hby at_14) k) ?_
      show own_Go _ _ _ _ T9 (mkF m 15 #[.val (.int ip0), .val (.int ip1), .val (.int (1 : Int32)), .val (.ref w_REQUIRED), .unset, .unset, .unset] [(.int (2 : Int32)), (.int (1 : Int32))])
      refine own_st (fun t k => XS.icmpNo X9.here hx rfl (hb hby at_15) rfl (flt (by decide : ¬ ((2 : Int32) < (1 : Int32)))).2.2.1 k) ?_
      show own_Go _ _ _ _ T9 (mkF m 18 #[.val (.int ip0), .val (.int ip1), .val (.int (1 : Int32)), .val (.ref w_REQUIRED), .unset, .unset, .unset] [])
      refine own_st (fun t k => XS.iconst X9.here hx rfl (hb hby at_18) k) ?_
      show own_Go _ _ _ _ T9 (mkF m 19 #[.val (.int ip0), .val (.int ip1), .val (.int (1 : Int32)), .val (.ref w_REQUIRED), .unset, .unset, .unset] [(.int (1 : Int32))])
      refine own_st (fun t k => XS.goto X9.here hx rfl (pc0 := 19) (pc' := 23) rfl (hb hby at_19) (by decide) (by decide) k) ?_
      show own_Go _ _ _ _ T9 (mkF m 23 #[.val (.int ip0), .val (.int ip1), .val (.int (1 : Int32)), .val (.ref w_REQUIRED), .unset, .unset, .unset] [(.int (1 : Int32))])
      refine own_st (fun t k => XS.istore X9.here hx rfl (hb hby at_23) rfl (l' := #[.val (.int ip0), .val (.int ip1), .val (.int (1 : Int32)), .val (.ref w_REQUIRED), .val (.int (1 : Int32)), .unset, .unset]) rfl k) ?_
      show own_Go _ _ _ _ T9 (mkF m 25 #[.val (.int ip0), .val (.int ip1), .val (.int (1 : Int32)), .val (.ref w_REQUIRED), .val (.int (1 : Int32)), .unset, .unset] [])
      refine own_st (fun t k => XS.aloadN X9.here hx rfl (hb hby at_25) rfl rfl k) ?_
      show own_Go _ _ _ _ T9 (mkF m 26 #[.val (.int ip0), .val (.int ip1), .val (.int (1 : Int32)), .val (.ref w_REQUIRED), .val (.int (1 : Int32)), .unset, .unset] [(.ref w_REQUIRED)])
      obtain ⟨cq10, kq10, q10a, q10b, q10c⟩ := isOf hZ e9 E_w_REQUIRED
      obtain ⟨_, _, ⟨T10, L10, k10, n10⟩, -, X10, ⟨Lc10, hQ10, l10, y10, z10⟩, st10⟩ := X9.virtualBack hx (y := (⟨"com/example/gird/gird/core/Attribute", "alwaysRunsInTransaction", "()Z"⟩ : MethodName)) (z := (⟨"com/example/gird/gird/core/Attribute", "alwaysRunsInTransaction", "()Z"⟩ : MethodName)) hown (mvT hZ (own_w hw 8 rfl)) (mvT hZ (own_w hw 9 rfl)) (notFace_of_selects (args := #[]) (mvT hZ (own_w hw 11 rfl))) (mvT hZ (own_w hw 11 rfl)) (mvT hZ (own_w hw 10 rfl)) (by decide) (backOf (W := 0) (own_rm2 l Z a0 hw [] w_REQUIRED w_NEW w_NONE w_CALLER h0 n0 Z0 F_withoutCallerTransaction_w_REQUIRED S_NONE F_withCallerTransaction_w_REQUIRED) hZ (own_w hw 12 rfl) (own_w hw 6 rfl) (by decide) (by decide)) q10a q10c (g := (mkF m 26 #[.val (.int ip0), .val (.int ip1), .val (.int (1 : Int32)), .val (.ref w_REQUIRED), .val (.int (1 : Int32)), .unset, .unset] [(.ref w_REQUIRED)])) rfl (by rw [hml]; rfl) (Steps.refl _) (argsL := []) (rest := []) (lenOf own_pd1 rfl) rfl (by show 2 * 0 + _ ≤ _; exact Nat.le_of_eq rfl) (hb hby at_26) (fun _ _ => ⟨rfl, e9, (by decide : 0 + 0 ≤ _), (by decide : 0 + 0 ≤ _)⟩)
      dsimp only [Pt.U, Pt.locs, Pt.cells, Pt.slots] at X10 l10 y10 z10 st10 hQ10
      subst l10 y10 z10
      obtain ⟨N10q, e10, hL10⟩ := hQ10
      have N10 := Fr.app N9 N10q
      rcases hL10 with ⟨rfl, hq10_0_0, -⟩ | ⟨rfl, hq10_1_0, hq10_1_1, -⟩ | ⟨rfl, hq10_2_0, hq10_2_1, -⟩
      · skip
        exact absurd hq10_0_0 (Fld.ne F_ordinal_w_NEW F_ordinal_w_NONE (own_nei (by decide)))
      · skip
        exact absurd hq10_1_1 (Fld.ne F_ordinal_w_CALLER F_ordinal_w_NONE (own_nei (by decide)))
      · skip
        refine own_st (fun t k => st10.trans k) ?_
        show own_Go _ _ _ _ T10 (mkF m 29 #[.val (.int ip0), .val (.int ip1), .val (.int (1 : Int32)), .val (.ref w_REQUIRED), .val (.int (1 : Int32)), .unset, .unset] [(.int (1 : Int32))])
        refine own_st (fun t k => XS.istore X10.here hx rfl (hb hby at_29) rfl (l' := #[.val (.int ip0), .val (.int ip1), .val (.int (1 : Int32)), .val (.ref w_REQUIRED), .val (.int (1 : Int32)), .val (.int (1 : Int32)), .unset]) rfl k) ?_
        show own_Go _ _ _ _ T10 (mkF m 31 #[.val (.int ip0), .val (.int ip1), .val (.int (1 : Int32)), .val (.ref w_REQUIRED), .val (.int (1 : Int32)), .val (.int (1 : Int32)), .unset] [])
        refine own_st (fun t k => XS.aloadN X10.here hx rfl (hb hby at_31) rfl rfl k) ?_
        show own_Go _ _ _ _ T10 (mkF m 32 #[.val (.int ip0), .val (.int ip1), .val (.int (1 : Int32)), .val (.ref w_REQUIRED), .val (.int (1 : Int32)), .val (.int (1 : Int32)), .unset] [(.ref w_REQUIRED)])
        refine own_st (fun t k => XS.iloadN X10.here hx rfl (hb hby at_32) rfl k) ?_
        show own_Go _ _ _ _ T10 (mkF m 33 #[.val (.int ip0), .val (.int ip1), .val (.int (1 : Int32)), .val (.ref w_REQUIRED), .val (.int (1 : Int32)), .val (.int (1 : Int32)), .unset] [(.int ip1), (.ref w_REQUIRED)])
        refine own_st (fun t k => XS.iconst X10.here hx rfl (hb hby at_33) k) ?_
        show own_Go _ _ _ _ T10 (mkF m 34 #[.val (.int ip0), .val (.int ip1), .val (.int (1 : Int32)), .val (.ref w_REQUIRED), .val (.int (1 : Int32)), .val (.int (1 : Int32)), .unset] [(.int (1 : Int32)), (.int ip1), (.ref w_REQUIRED)])
        refine own_st (fun t k => XS.iand X10.here hx rfl (hb hby at_34) rfl k) ?_
        show own_Go _ _ _ _ T10 (mkF m 35 #[.val (.int ip0), .val (.int ip1), .val (.int (1 : Int32)), .val (.ref w_REQUIRED), .val (.int (1 : Int32)), .val (.int (1 : Int32)), .unset] [(.int (ip1 &&& (1 : Int32))), (.ref w_REQUIRED)])
        by_cases hc11 : (ip1 &&& (1 : Int32)) = (0 : Int32)
        · skip
          refine own_st (fun t k => XS.ifYes X10.here hx rfl (pc0 := 35) (pc' := 42) rfl (hb hby at_35) rfl ((if0 _ _).trans (teq hc11).1) (by decide) (by decide) k) ?_
          show own_Go _ _ _ _ T10 (mkF m 42 #[.val (.int ip0), .val (.int ip1), .val (.int (1 : Int32)), .val (.ref w_REQUIRED), .val (.int (1 : Int32)), .val (.int (1 : Int32)), .unset] [(.ref w_REQUIRED)])
          refine own_st (fun t k => XS.iconst X10.here hx rfl (hb hby at_42) k) ?_
          show own_Go _ _ _ _ T10 (mkF m 43 #[.val (.int ip0), .val (.int ip1), .val (.int (1 : Int32)), .val (.ref w_REQUIRED), .val (.int (1 : Int32)), .val (.int (1 : Int32)), .unset] [(.int (0 : Int32)), (.ref w_REQUIRED)])
          obtain ⟨cq12, kq12, q12a, q12b, q12c⟩ := isOf hZ e10 E_w_REQUIRED
          obtain ⟨_, _, ⟨T12, L12, k12, n12⟩, -, X12, ⟨Lc12, hQ12, l12, y12, z12⟩, st12⟩ := X10.virtualBack hx (y := (⟨"com/example/gird/gird/core/Attribute", "demarcation", "(Z)Lcom/example/gird/gird/core/Demarcation;"⟩ : MethodName)) (z := (⟨"com/example/gird/gird/core/Attribute", "demarcation", "(Z)Lcom/example/gird/gird/core/Demarcation;"⟩ : MethodName)) hown (mvT hZ (own_w hw 22 rfl)) (mvT hZ (own_w hw 23 rfl)) (notFace_of_selects (args := #[]) (mvT hZ (own_w hw 25 rfl))) (mvT hZ (own_w hw 25 rfl)) (mvT hZ (own_w hw 24 rfl)) (by decide) (backOf (W := 0) (own_rm3 l Z a0 hw [] w_REQUIRED (0 : Int32) w_NEW w_CALLER h0 n0 Z0 F_withoutCallerTransaction_w_REQUIRED F_withCallerTransaction_w_REQUIRED) hZ (own_w hw 26 rfl) (own_w hw 6 rfl) (by decide) (by decide)) q12a q12c (g := (mkF m 43 #[.val (.int ip0), .val (.int ip1), .val (.int (1 : Int32)), .val (.ref w_REQUIRED), .val (.int (1 : Int32)), .val (.int (1 : Int32)), .unset] [(.int (0 : Int32)), (.ref w_REQUIRED)])) rfl (by rw [hml]; rfl) (Steps.refl _) (argsL := [(.int (0 : Int32))]) (rest := []) (lenOf own_pd2 rfl) rfl (by show 2 * 0 + _ ≤ _; exact Nat.le_of_eq rfl) (hb hby at_43) (fun _ _ => ⟨rfl, e10, (by decide : 0 + 0 ≤ _), (by decide : 0 + 0 ≤ _)⟩)
          dsimp only [Pt.U, Pt.locs, Pt.cells, Pt.slots] at X12 l12 y12 z12 st12 hQ12
          subst l12 y12 z12
          obtain ⟨N12q, e12, hL12⟩ := hQ12
          have N12 := Fr.app N10 N12q
          rcases hL12 with ⟨rfl, hq12_0_0, -⟩ | ⟨rfl, hq12_1_0, -⟩
          · skip
            refine own_st (fun t k => st12.trans k) ?_
            show own_Go _ _ _ _ T12 (mkF m 46 #[.val (.int ip0), .val (.int ip1), .val (.int (1 : Int32)), .val (.ref w_REQUIRED), .val (.int (1 : Int32)), .val (.int (1 : Int32)), .unset] [(.ref w_NEW)])
            refine own_st (fun t k => XS.astore X12.here hx rfl (hb hby at_46) rfl rfl (l' := #[.val (.int ip0), .val (.int ip1), .val (.int (1 : Int32)), .val (.ref w_REQUIRED), .val (.int (1 : Int32)), .val (.int (1 : Int32)), .val (.ref w_NEW)]) rfl k) ?_
            show own_Go _ _ _ _ T12 (mkF m 48 #[.val (.int ip0), .val (.int ip1), .val (.int (1 : Int32)), .val (.ref w_REQUIRED), .val (.int (1 : Int32)), .val (.int (1 : Int32)), .val (.ref w_NEW)] [])
            refine own_st (fun t k => XS.iload X12.here hx rfl (hb hby at_48) rfl k) ?_
            show own_Go _ _ _ _ T12 (mkF m 50 #[.val (.int ip0), .val (.int ip1), .val (.int (1 : Int32)), .val (.ref w_REQUIRED), .val (.int (1 : Int32)), .val (.int (1 : Int32)), .val (.ref w_NEW)] [(.int (1 : Int32))])
            refine own_st (fun t k => XS.iload X12.here hx rfl (hb hby at_50) rfl k) ?_
            show own_Go _ _ _ _ T12 (mkF m 52 #[.val (.int ip0), .val (.int ip1), .val (.int (1 : Int32)), .val (.ref w_REQUIRED), .val (.int (1 : Int32)), .val (.int (1 : Int32)), .val (.ref w_NEW)] [(.int (1 : Int32)), (.int (1 : Int32))])
            refine own_st (fun t k => XS.icmpNo X12.here hx rfl (hb hby at_52) rfl (teq hq9_1_1).2 k) ?_
            show own_Go _ _ _ _ T12 (mkF m 55 #[.val (.int ip0), .val (.int ip1), .val (.int (1 : Int32)), .val (.ref w_REQUIRED), .val (.int (1 : Int32)), .val (.int (1 : Int32)), .val (.ref w_NEW)] [])
            refine own_st (fun t k => XS.iload X12.here hx rfl (hb hby at_55) rfl k) ?_
            show own_Go _ _ _ _ T12 (mkF m 57 #[.val (.int ip0), .val (.int ip1), .val (.int (1 : Int32)), .val (.ref w_REQUIRED), .val (.int (1 : Int32)), .val (.int (1 : Int32)), .val (.ref w_NEW)] [(.int (1 : Int32))])
            refine own_st (fun t k => XS.ifNo X12.here hx rfl (hb hby at_57) rfl ((if0 _ _).trans (feq hq9_1_0).1) k) ?_
            show own_Go _ _ _ _ T12 (mkF m 60 #[.val (.int ip0), .val (.int ip1), .val (.int (1 : Int32)), .val (.ref w_REQUIRED), .val (.int (1 : Int32)), .val (.int (1 : Int32)), .val (.ref w_NEW)] [])
            refine own_st (fun t k => XS.aload X12.here hx rfl (hb hby at_60) rfl rfl k) ?_
            show own_Go _ _ _ _ T12 (mkF m 62 #[.val (.int ip0), .val (.int ip1), .val (.int (1 : Int32)), .val (.ref w_REQUIRED), .val (.int (1 : Int32)), .val (.int (1 : Int32)), .val (.ref w_NEW)] [(.ref w_NEW)])
            obtain ⟨T13, X13, e13, st13⟩ := getS2 X12 hx hZ hown (host := "") (Or.inl (own_w hw 27 rfl)) Via.refl e12 S_NONE (g := (mkF m 62 #[.val (.int ip0), .val (.int ip1), .val (.int (1 : Int32)), .val (.ref w_REQUIRED), .val (.int (1 : Int32)), .val (.int (1 : Int32)), .val (.ref w_NEW)] [(.ref w_NEW)])) rfl (hb hby at_62)
            refine own_st st13 ?_
            show own_Go _ _ _ _ T13 (mkF m 65 #[.val (.int ip0), .val (.int ip1), .val (.int (1 : Int32)), .val (.ref w_REQUIRED), .val (.int (1 : Int32)), .val (.int (1 : Int32)), .val (.ref w_NEW)] [(.ref w_NONE), (.ref w_NEW)])
            refine own_st (fun t k => Jvm.RoadKit.acmp (g := (mkF m 65 #[.val (.int ip0), .val (.int ip1), .val (.int (1 : Int32)), .val (.ref w_REQUIRED), .val (.int (1 : Int32)), .val (.int (1 : Int32)), .val (.ref w_NEW)] [(.ref w_NONE), (.ref w_NEW)])) X13 hx rfl rfl rfl (pc0 := 65) (pc' := 68) (same := false) rfl (hb hby at_65) rfl (decide_eq_false fun q => hq10_2_0 (Value.ref.inj q)) (by decide) (by decide) k) ?_
            show own_Go _ _ _ _ T13 (mkF m 68 #[.val (.int ip0), .val (.int ip1), .val (.int (1 : Int32)), .val (.ref w_REQUIRED), .val (.int (1 : Int32)), .val (.int (1 : Int32)), .val (.ref w_NEW)] [])
            refine own_st (fun t k => XS.iconst X13.here hx rfl (hb hby at_68) k) ?_
            show own_Go _ _ _ _ T13 (mkF m 69 #[.val (.int ip0), .val (.int ip1), .val (.int (1 : Int32)), .val (.ref w_REQUIRED), .val (.int (1 : Int32)), .val (.int (1 : Int32)), .val (.ref w_NEW)] [(.int (1 : Int32))])
            refine own_st (fun t k => XS.goto X13.here hx rfl (pc0 := 69) (pc' := 73) rfl (hb hby at_69) (by decide) (by decide) k) ?_
            show own_Go _ _ _ _ T13 (mkF m 73 #[.val (.int ip0), .val (.int ip1), .val (.int (1 : Int32)), .val (.ref w_REQUIRED), .val (.int (1 : Int32)), .val (.int (1 : Int32)), .val (.ref w_NEW)] [(.int (1 : Int32))])
            exact own_retZ X13 hx hlk (t := .boolean) hret (by simp) (hb hby at_73) (by decide) (by decide) e13 ⟨rfl, N12⟩
          · skip
            exact absurd (by decide : (0 : Int32) = (0 : Int32)) hq12_1_0
        · skip
          refine own_st (fun t k => XS.ifNo X10.here hx rfl (hb hby at_35) rfl ((if0 _ _).trans (feq hc11).1) k) ?_
          show own_Go _ _ _ _ T10 (mkF m 38 #[.val (.int ip0), .val (.int ip1), .val (.int (1 : Int32)), .val (.ref w_REQUIRED), .val (.int (1 : Int32)), .val (.int (1 : Int32)), .unset] [(.ref w_REQUIRED)])
          refine own_st (fun t k => XS.iconst X10.here hx rfl (hb hby at_38) k) ?_
          show own_Go _ _ _ _ T10 (mkF m 39 #[.val (.int ip0), .val (.int ip1), .val (.int (1 : Int32)), .val (.ref w_REQUIRED), .val (.int (1 : Int32)), .val (.int (1 : Int32)), .unset] [(.int (1 : Int32)), (.ref w_REQUIRED)])
          refine own_st (fun t k => XS.goto X10.here hx rfl (pc0 := 39) (pc' := 43) rfl (hb hby at_39) (by decide) (by decide) k) ?_
          show own_Go _ _ _ _ T10 (mkF m 43 #[.val (.int ip0), .val (.int ip1), .val (.int (1 : Int32)), .val (.ref w_REQUIRED), .val (.int (1 : Int32)), .val (.int (1 : Int32)), .unset] [(.int (1 : Int32)), (.ref w_REQUIRED)])
          obtain ⟨cq14, kq14, q14a, q14b, q14c⟩ := isOf hZ e10 E_w_REQUIRED
          obtain ⟨_, _, ⟨T14, L14, k14, n14⟩, -, X14, ⟨Lc14, hQ14, l14, y14, z14⟩, st14⟩ := X10.virtualBack hx (y := (⟨"com/example/gird/gird/core/Attribute", "demarcation", "(Z)Lcom/example/gird/gird/core/Demarcation;"⟩ : MethodName)) (z := (⟨"com/example/gird/gird/core/Attribute", "demarcation", "(Z)Lcom/example/gird/gird/core/Demarcation;"⟩ : MethodName)) hown (mvT hZ (own_w hw 22 rfl)) (mvT hZ (own_w hw 23 rfl)) (notFace_of_selects (args := #[]) (mvT hZ (own_w hw 25 rfl))) (mvT hZ (own_w hw 25 rfl)) (mvT hZ (own_w hw 24 rfl)) (by decide) (backOf (W := 0) (own_rm3 l Z a0 hw [] w_REQUIRED (1 : Int32) w_NEW w_CALLER h0 n0 Z0 F_withoutCallerTransaction_w_REQUIRED F_withCallerTransaction_w_REQUIRED) hZ (own_w hw 26 rfl) (own_w hw 6 rfl) (by decide) (by decide)) q14a q14c (g := (mkF m 43 #[.val (.int ip0), .val (.int ip1), .val (.int (1 : Int32)), .val (.ref w_REQUIRED), .val (.int (1 : Int32)), .val (.int (1 : Int32)), .unset] [(.int (1 : Int32)), (.ref w_REQUIRED)])) rfl (by rw [hml]; rfl) (Steps.refl _) (argsL := [(.int (1 : Int32))]) (rest := []) (lenOf own_pd2 rfl) rfl (by show 2 * 0 + _ ≤ _; exact Nat.le_of_eq rfl) (hb hby at_43) (fun _ _ => ⟨rfl, e10, (by decide : 0 + 0 ≤ _), (by decide : 0 + 0 ≤ _)⟩)
          dsimp only [Pt.U, Pt.locs, Pt.cells, Pt.slots] at X14 l14 y14 z14 st14 hQ14
          subst l14 y14 z14
          obtain ⟨N14q, e14, hL14⟩ := hQ14
          have N14 := Fr.app N10 N14q
          rcases hL14 with ⟨rfl, hq14_0_0, -⟩ | ⟨rfl, hq14_1_0, -⟩
          · skip
            exact absurd hq14_0_0 hq9_1_0
          · skip
            refine own_st (fun t k => st14.trans k) ?_
            show own_Go _ _ _ _ T14 (mkF m 46 #[.val (.int ip0), .val (.int ip1), .val (.int (1 : Int32)), .val (.ref w_REQUIRED), .val (.int (1 : Int32)), .val (.int (1 : Int32)), .unset] [(.ref w_CALLER)])
            refine own_st (fun t k => XS.astore X14.here hx rfl (hb hby at_46) rfl rfl (l' := #[.val (.int ip0), .val (.int ip1), .val (.int (1 : Int32)), .val (.ref w_REQUIRED), .val (.int (1 : Int32)), .val (.int (1 : Int32)), .val (.ref w_CALLER)]) rfl k) ?_
            show own_Go _ _ _ _ T14 (mkF m 48 #[.val (.int ip0), .val (.int ip1), .val (.int (1 : Int32)), .val (.ref w_REQUIRED), .val (.int (1 : Int32)), .val (.int (1 : Int32)), .val (.ref w_CALLER)] [])
            refine own_st (fun t k => XS.iload X14.here hx rfl (hb hby at_48) rfl k) ?_
            show own_Go _ _ _ _ T14 (mkF m 50 #[.val (.int ip0), .val (.int ip1), .val (.int (1 : Int32)), .val (.ref w_REQUIRED), .val (.int (1 : Int32)), .val (.int (1 : Int32)), .val (.ref w_CALLER)] [(.int (1 : Int32))])
            refine own_st (fun t k => XS.iload X14.here hx rfl (hb hby at_50) rfl k) ?_
            show own_Go _ _ _ _ T14 (mkF m 52 #[.val (.int ip0), .val (.int ip1), .val (.int (1 : Int32)), .val (.ref w_REQUIRED), .val (.int (1 : Int32)), .val (.int (1 : Int32)), .val (.ref w_CALLER)] [(.int (1 : Int32)), (.int (1 : Int32))])
            refine own_st (fun t k => XS.icmpNo X14.here hx rfl (hb hby at_52) rfl (teq hq9_1_1).2 k) ?_
            show own_Go _ _ _ _ T14 (mkF m 55 #[.val (.int ip0), .val (.int ip1), .val (.int (1 : Int32)), .val (.ref w_REQUIRED), .val (.int (1 : Int32)), .val (.int (1 : Int32)), .val (.ref w_CALLER)] [])
            refine own_st (fun t k => XS.iload X14.here hx rfl (hb hby at_55) rfl k) ?_
            show own_Go _ _ _ _ T14 (mkF m 57 #[.val (.int ip0), .val (.int ip1), .val (.int (1 : Int32)), .val (.ref w_REQUIRED), .val (.int (1 : Int32)), .val (.int (1 : Int32)), .val (.ref w_CALLER)] [(.int (1 : Int32))])
            refine own_st (fun t k => XS.ifNo X14.here hx rfl (hb hby at_57) rfl ((if0 _ _).trans (feq hq9_1_0).1) k) ?_
            show own_Go _ _ _ _ T14 (mkF m 60 #[.val (.int ip0), .val (.int ip1), .val (.int (1 : Int32)), .val (.ref w_REQUIRED), .val (.int (1 : Int32)), .val (.int (1 : Int32)), .val (.ref w_CALLER)] [])
            refine own_st (fun t k => XS.aload X14.here hx rfl (hb hby at_60) rfl rfl k) ?_
            show own_Go _ _ _ _ T14 (mkF m 62 #[.val (.int ip0), .val (.int ip1), .val (.int (1 : Int32)), .val (.ref w_REQUIRED), .val (.int (1 : Int32)), .val (.int (1 : Int32)), .val (.ref w_CALLER)] [(.ref w_CALLER)])
            obtain ⟨T15, X15, e15, st15⟩ := getS2 X14 hx hZ hown (host := "") (Or.inl (own_w hw 27 rfl)) Via.refl e14 S_NONE (g := (mkF m 62 #[.val (.int ip0), .val (.int ip1), .val (.int (1 : Int32)), .val (.ref w_REQUIRED), .val (.int (1 : Int32)), .val (.int (1 : Int32)), .val (.ref w_CALLER)] [(.ref w_CALLER)])) rfl (hb hby at_62)
            refine own_st st15 ?_
            show own_Go _ _ _ _ T15 (mkF m 65 #[.val (.int ip0), .val (.int ip1), .val (.int (1 : Int32)), .val (.ref w_REQUIRED), .val (.int (1 : Int32)), .val (.int (1 : Int32)), .val (.ref w_CALLER)] [(.ref w_NONE), (.ref w_CALLER)])
            refine own_st (fun t k => Jvm.RoadKit.acmp (g := (mkF m 65 #[.val (.int ip0), .val (.int ip1), .val (.int (1 : Int32)), .val (.ref w_REQUIRED), .val (.int (1 : Int32)), .val (.int (1 : Int32)), .val (.ref w_CALLER)] [(.ref w_NONE), (.ref w_CALLER)])) X15 hx rfl rfl rfl (pc0 := 65) (pc' := 68) (same := false) rfl (hb hby at_65) rfl (decide_eq_false fun q => hq10_2_1 (Value.ref.inj q)) (by decide) (by decide) k) ?_
            show own_Go _ _ _ _ T15 (mkF m 68 #[.val (.int ip0), .val (.int ip1), .val (.int (1 : Int32)), .val (.ref w_REQUIRED), .val (.int (1 : Int32)), .val (.int (1 : Int32)), .val (.ref w_CALLER)] [])
            refine own_st (fun t k => XS.iconst X15.here hx rfl (hb hby at_68) k) ?_
            show own_Go _ _ _ _ T15 (mkF m 69 #[.val (.int ip0), .val (.int ip1), .val (.int (1 : Int32)), .val (.ref w_REQUIRED), .val (.int (1 : Int32)), .val (.int (1 : Int32)), .val (.ref w_CALLER)] [(.int (1 : Int32))])
            refine own_st (fun t k => XS.goto X15.here hx rfl (pc0 := 69) (pc' := 73) rfl (hb hby at_69) (by decide) (by decide) k) ?_
            show own_Go _ _ _ _ T15 (mkF m 73 #[.val (.int ip0), .val (.int ip1), .val (.int (1 : Int32)), .val (.ref w_REQUIRED), .val (.int (1 : Int32)), .val (.int (1 : Int32)), .val (.ref w_CALLER)] [(.int (1 : Int32))])
            exact own_retZ X15 hx hlk (t := .boolean) hret (by simp) (hb hby at_73) (by decide) (by decide) e15 ⟨rfl, N14⟩
    · skip
      exact absurd (by decide : (1 : Int32) = (1 : Int32)) hq9_2_1
    · skip
      exact absurd (by decide : (1 : Int32) = (1 : Int32)) hq9_3_1
    · skip
      exact absurd (by decide : (1 : Int32) = (1 : Int32)) hq9_4_1
    · skip
      exact absurd (by decide : (1 : Int32) = (1 : Int32)) hq9_5_1
  · rw [qr1]
    show own_Go _ _ _ _ s₁ (mkF m 7 #[.val (.int ip0), .val (.int ip1), .unset, .unset, .unset, .unset, .unset] [(.int (2 : Int32))])
    refine own_st (fun t k => XS.istoreN X0.here hx rfl (hb hby at_7) rfl (l' := #[.val (.int ip0), .val (.int ip1), .val (.int (2 : Int32)), .unset, .unset, .unset, .unset]) rfl k) ?_
    show own_Go _ _ _ _ s₁ (mkF m 8 #[.val (.int ip0), .val (.int ip1), .val (.int (2 : Int32)), .unset, .unset, .unset, .unset] [])
    refine own_st (fun t k => XS.iloadN X0.here hx rfl (hb hby at_8) rfl k) ?_
    show own_Go _ _ _ _ s₁ (mkF m 9 #[.val (.int ip0), .val (.int ip1), .val (.int (2 : Int32)), .unset, .unset, .unset, .unset] [(.int (2 : Int32))])
    obtain ⟨_, _, ⟨T16, L16, k16, n16⟩, -, X16, ⟨Lc16, hQ16, l16, y16, z16⟩, st16⟩ := Jvm.LawKit.callS X0 hx (y := (⟨"com/example/gird/gird/core/AttributeAlwaysRunsInTransactionPinLaw", "pick", "(I)Lcom/example/gird/gird/core/Attribute;"⟩ : MethodName)) hown (mvT hZ (own_w hw 1 rfl)) (mvT hZ (own_w hw 2 rfl)) (mvT hZ (own_w hw 3 rfl)) (mvT hZ (own_w hw 4 rfl)) (by decide) (backOf (W := 0) (own_rm1 l Z a0 hw [] (2 : Int32) w_MANDATORY w_REQUIRED w_REQUIRES_NEW w_SUPPORTS w_NOT_SUPPORTED w_NEVER h0 n0 Z0 S_MANDATORY S_REQUIRED S_REQUIRES_NEW S_SUPPORTS S_NOT_SUPPORTED S_NEVER) hZ (own_w hw 4 rfl) (own_w hw 3 rfl) (by decide) (by decide)) (g := (mkF m 9 #[.val (.int ip0), .val (.int ip1), .val (.int (2 : Int32)), .unset, .unset, .unset, .unset] [(.int (2 : Int32))])) rfl (by rw [hml]; rfl) (argsL := [(.int (2 : Int32))]) (rest := []) (lenOf own_pd0 rfl) rfl (by show 2 * 0 + _ ≤ _; exact Nat.le_of_eq rfl) (hb hby at_9) (fun _ _ => ⟨rfl, e0, (by decide : 0 + 0 ≤ _), (by decide : 0 + 0 ≤ _)⟩)
    dsimp only [Pt.U, Pt.locs, Pt.cells, Pt.slots] at X16 l16 y16 z16 st16 hQ16
    subst l16 y16 z16
    obtain ⟨N16q, e16, hL16⟩ := hQ16
    have N16 := Fr.app N0 N16q
    rcases hL16 with ⟨rfl, hq16_0_0, -⟩ | ⟨rfl, hq16_1_0, hq16_1_1, -⟩ | ⟨rfl, hq16_2_0, hq16_2_1, hq16_2_2, -⟩ | ⟨rfl, hq16_3_0, hq16_3_1, hq16_3_2, hq16_3_3, -⟩ | ⟨rfl, hq16_4_0, hq16_4_1, hq16_4_2, hq16_4_3, hq16_4_4, -⟩ | ⟨rfl, hq16_5_0, hq16_5_1, hq16_5_2, hq16_5_3, hq16_5_4, -⟩
    · skip
      exact absurd hq16_0_0 (by decide : ¬ ((2 : Int32) = (0 : Int32)))
    · skip
      exact absurd hq16_1_1 (by decide : ¬ ((2 : Int32) = (1 : Int32)))
    · skip
      refine own_st st16 ?_
      show own_Go _ _ _ _ T16 (mkF m 12 #[.val (.int ip0), .val (.int ip1), .val (.int (2 : Int32)), .unset, .unset, .unset, .unset] [(.ref w_REQUIRES_NEW)])
      refine own_st (fun t k => XS.astoreN X16.here hx rfl (hb hby at_12) rfl rfl (l' := #[.val (.int ip0), .val (.int ip1), .val (.int (2 : Int32)), .val (.ref w_REQUIRES_NEW), .unset, .unset, .unset]) rfl k) ?_
      show own_Go _ _ _ _ T16 (mkF m 13 #[.val (.int ip0), .val (.int ip1), .val (.int (2 : Int32)), .val (.ref w_REQUIRES_NEW), .unset, .unset, .unset] [])
      refine own_st (fun t k => XS.iloadN X16.here hx rfl (hb hby at_13) rfl k) ?_
      show own_Go _ _ _ _ T16 (mkF m 14 #[.val (.int ip0), .val (.int ip1), .val (.int (2 : Int32)), .val (.ref w_REQUIRES_NEW), .unset, .unset, .unset] [(.int (2 : Int32))])
      refine own_st (fun t k => XS.iconst X16.here hx rfl (hb hby at_14) k) ?_
      show own_Go _ _ _ _ T16 (mkF m 15 #[.val (.int ip0), .val (.int ip1), .val (.int (2 : Int32)), .val (.ref w_REQUIRES_NEW), .unset, .unset, .unset] [(.int (2 : Int32)), (.int (2 : Int32))])
      refine own_st (fun t k => XS.icmpNo X16.here hx rfl (hb hby at_15) rfl (flt (by decide : ¬ ((2 : Int32) < (2 : Int32)))).2.2.1 k) ?_
      show own_Go _ _ _ _ T16 (mkF m 18 #[.val (.int ip0), .val (.int ip1), .val (.int (2 : Int32)), .val (.ref w_REQUIRES_NEW), .unset, .unset, .unset] [])
      refine own_st (fun t k => XS.iconst X16.here hx rfl (hb hby at_18) k) ?_
      show own_Go _ _ _ _ T16 (mkF m 19 #[.val (.int ip0), .val (.int ip1), .val (.int (2 : Int32)), .val (.ref w_REQUIRES_NEW), .unset, .unset, .unset] [(.int (1 : Int32))])
      refine own_st (fun t k => XS.goto X16.here hx rfl (pc0 := 19) (pc' := 23) rfl (hb hby at_19) (by decide) (by decide) k) ?_
      show own_Go _ _ _ _ T16 (mkF m 23 #[.val (.int ip0), .val (.int ip1), .val (.int (2 : Int32)), .val (.ref w_REQUIRES_NEW), .unset, .unset, .unset] [(.int (1 : Int32))])
      refine own_st (fun t k => XS.istore X16.here hx rfl (hb hby at_23) rfl (l' := #[.val (.int ip0), .val (.int ip1), .val (.int (2 : Int32)), .val (.ref w_REQUIRES_NEW), .val (.int (1 : Int32)), .unset, .unset]) rfl k) ?_
      show own_Go _ _ _ _ T16 (mkF m 25 #[.val (.int ip0), .val (.int ip1), .val (.int (2 : Int32)), .val (.ref w_REQUIRES_NEW), .val (.int (1 : Int32)), .unset, .unset] [])
      refine own_st (fun t k => XS.aloadN X16.here hx rfl (hb hby at_25) rfl rfl k) ?_
      show own_Go _ _ _ _ T16 (mkF m 26 #[.val (.int ip0), .val (.int ip1), .val (.int (2 : Int32)), .val (.ref w_REQUIRES_NEW), .val (.int (1 : Int32)), .unset, .unset] [(.ref w_REQUIRES_NEW)])
      obtain ⟨cq17, kq17, q17a, q17b, q17c⟩ := isOf hZ e16 E_w_REQUIRES_NEW
      obtain ⟨_, _, ⟨T17, L17, k17, n17⟩, -, X17, ⟨Lc17, hQ17, l17, y17, z17⟩, st17⟩ := X16.virtualBack hx (y := (⟨"com/example/gird/gird/core/Attribute", "alwaysRunsInTransaction", "()Z"⟩ : MethodName)) (z := (⟨"com/example/gird/gird/core/Attribute", "alwaysRunsInTransaction", "()Z"⟩ : MethodName)) hown (mvT hZ (own_w hw 8 rfl)) (mvT hZ (own_w hw 9 rfl)) (notFace_of_selects (args := #[]) (mvT hZ (own_w hw 11 rfl))) (mvT hZ (own_w hw 11 rfl)) (mvT hZ (own_w hw 10 rfl)) (by decide) (backOf (W := 0) (own_rm2 l Z a0 hw [] w_REQUIRES_NEW w_NEW w_NONE w_NEW h0 n0 Z0 F_withoutCallerTransaction_w_REQUIRES_NEW S_NONE F_withCallerTransaction_w_REQUIRES_NEW) hZ (own_w hw 12 rfl) (own_w hw 6 rfl) (by decide) (by decide)) q17a q17c (g := (mkF m 26 #[.val (.int ip0), .val (.int ip1), .val (.int (2 : Int32)), .val (.ref w_REQUIRES_NEW), .val (.int (1 : Int32)), .unset, .unset] [(.ref w_REQUIRES_NEW)])) rfl (by rw [hml]; rfl) (Steps.refl _) (argsL := []) (rest := []) (lenOf own_pd1 rfl) rfl (by show 2 * 0 + _ ≤ _; exact Nat.le_of_eq rfl) (hb hby at_26) (fun _ _ => ⟨rfl, e16, (by decide : 0 + 0 ≤ _), (by decide : 0 + 0 ≤ _)⟩)
      dsimp only [Pt.U, Pt.locs, Pt.cells, Pt.slots] at X17 l17 y17 z17 st17 hQ17
      subst l17 y17 z17
      obtain ⟨N17q, e17, hL17⟩ := hQ17
      have N17 := Fr.app N16 N17q
      rcases hL17 with ⟨rfl, hq17_0_0, -⟩ | ⟨rfl, hq17_1_0, hq17_1_1, -⟩ | ⟨rfl, hq17_2_0, hq17_2_1, -⟩
      · skip
        exact absurd hq17_0_0 (Fld.ne F_ordinal_w_NEW F_ordinal_w_NONE (own_nei (by decide)))
      · skip
        exact absurd hq17_1_1 hq17_1_0
      · skip
        refine own_st (fun t k => st17.trans k) ?_
        show own_Go _ _ _ _ T17 (mkF m 29 #[.val (.int ip0), .val (.int ip1), .val (.int (2 : Int32)), .val (.ref w_REQUIRES_NEW), .val (.int (1 : Int32)), .unset, .unset] [(.int (1 : Int32))])
        refine own_st (fun t k => XS.istore X17.here hx rfl (hb hby at_29) rfl (l' := #[.val (.int ip0), .val (.int ip1), .val (.int (2 : Int32)), .val (.ref w_REQUIRES_NEW), .val (.int (1 : Int32)), .val (.int (1 : Int32)), .unset]) rfl k) ?_
        show own_Go _ _ _ _ T17 (mkF m 31 #[.val (.int ip0), .val (.int ip1), .val (.int (2 : Int32)), .val (.ref w_REQUIRES_NEW), .val (.int (1 : Int32)), .val (.int (1 : Int32)), .unset] [])
        refine own_st (fun t k => XS.aloadN X17.here hx rfl (hb hby at_31) rfl rfl k) ?_
        show own_Go _ _ _ _ T17 (mkF m 32 #[.val (.int ip0), .val (.int ip1), .val (.int (2 : Int32)), .val (.ref w_REQUIRES_NEW), .val (.int (1 : Int32)), .val (.int (1 : Int32)), .unset] [(.ref w_REQUIRES_NEW)])
        refine own_st (fun t k => XS.iloadN X17.here hx rfl (hb hby at_32) rfl k) ?_
        show own_Go _ _ _ _ T17 (mkF m 33 #[.val (.int ip0), .val (.int ip1), .val (.int (2 : Int32)), .val (.ref w_REQUIRES_NEW), .val (.int (1 : Int32)), .val (.int (1 : Int32)), .unset] [(.int ip1), (.ref w_REQUIRES_NEW)])
        refine own_st (fun t k => XS.iconst X17.here hx rfl (hb hby at_33) k) ?_
        show own_Go _ _ _ _ T17 (mkF m 34 #[.val (.int ip0), .val (.int ip1), .val (.int (2 : Int32)), .val (.ref w_REQUIRES_NEW), .val (.int (1 : Int32)), .val (.int (1 : Int32)), .unset] [(.int (1 : Int32)), (.int ip1), (.ref w_REQUIRES_NEW)])
        refine own_st (fun t k => XS.iand X17.here hx rfl (hb hby at_34) rfl k) ?_
        show own_Go _ _ _ _ T17 (mkF m 35 #[.val (.int ip0), .val (.int ip1), .val (.int (2 : Int32)), .val (.ref w_REQUIRES_NEW), .val (.int (1 : Int32)), .val (.int (1 : Int32)), .unset] [(.int (ip1 &&& (1 : Int32))), (.ref w_REQUIRES_NEW)])
        by_cases hc18 : (ip1 &&& (1 : Int32)) = (0 : Int32)
        · skip
          refine own_st (fun t k => XS.ifYes X17.here hx rfl (pc0 := 35) (pc' := 42) rfl (hb hby at_35) rfl ((if0 _ _).trans (teq hc18).1) (by decide) (by decide) k) ?_
          show own_Go _ _ _ _ T17 (mkF m 42 #[.val (.int ip0), .val (.int ip1), .val (.int (2 : Int32)), .val (.ref w_REQUIRES_NEW), .val (.int (1 : Int32)), .val (.int (1 : Int32)), .unset] [(.ref w_REQUIRES_NEW)])
          refine own_st (fun t k => XS.iconst X17.here hx rfl (hb hby at_42) k) ?_
          show own_Go _ _ _ _ T17 (mkF m 43 #[.val (.int ip0), .val (.int ip1), .val (.int (2 : Int32)), .val (.ref w_REQUIRES_NEW), .val (.int (1 : Int32)), .val (.int (1 : Int32)), .unset] [(.int (0 : Int32)), (.ref w_REQUIRES_NEW)])
          obtain ⟨cq19, kq19, q19a, q19b, q19c⟩ := isOf hZ e17 E_w_REQUIRES_NEW
          obtain ⟨_, _, ⟨T19, L19, k19, n19⟩, -, X19, ⟨Lc19, hQ19, l19, y19, z19⟩, st19⟩ := X17.virtualBack hx (y := (⟨"com/example/gird/gird/core/Attribute", "demarcation", "(Z)Lcom/example/gird/gird/core/Demarcation;"⟩ : MethodName)) (z := (⟨"com/example/gird/gird/core/Attribute", "demarcation", "(Z)Lcom/example/gird/gird/core/Demarcation;"⟩ : MethodName)) hown (mvT hZ (own_w hw 22 rfl)) (mvT hZ (own_w hw 23 rfl)) (notFace_of_selects (args := #[]) (mvT hZ (own_w hw 25 rfl))) (mvT hZ (own_w hw 25 rfl)) (mvT hZ (own_w hw 24 rfl)) (by decide) (backOf (W := 0) (own_rm3 l Z a0 hw [] w_REQUIRES_NEW (0 : Int32) w_NEW w_NEW h0 n0 Z0 F_withoutCallerTransaction_w_REQUIRES_NEW F_withCallerTransaction_w_REQUIRES_NEW) hZ (own_w hw 26 rfl) (own_w hw 6 rfl) (by decide) (by decide)) q19a q19c (g := (mkF m 43 #[.val (.int ip0), .val (.int ip1), .val (.int (2 : Int32)), .val (.ref w_REQUIRES_NEW), .val (.int (1 : Int32)), .val (.int (1 : Int32)), .unset] [(.int (0 : Int32)), (.ref w_REQUIRES_NEW)])) rfl (by rw [hml]; rfl) (Steps.refl _) (argsL := [(.int (0 : Int32))]) (rest := []) (lenOf own_pd2 rfl) rfl (by show 2 * 0 + _ ≤ _; exact Nat.le_of_eq rfl) (hb hby at_43) (fun _ _ => ⟨rfl, e17, (by decide : 0 + 0 ≤ _), (by decide : 0 + 0 ≤ _)⟩)
          dsimp only [Pt.U, Pt.locs, Pt.cells, Pt.slots] at X19 l19 y19 z19 st19 hQ19
          subst l19 y19 z19
          obtain ⟨N19q, e19, hL19⟩ := hQ19
          have N19 := Fr.app N17 N19q
          rcases hL19 with ⟨rfl, hq19_0_0, -⟩ | ⟨rfl, hq19_1_0, -⟩
          · skip
            refine own_st (fun t k => st19.trans k) ?_
            show own_Go _ _ _ _ T19 (mkF m 46 #[.val (.int ip0), .val (.int ip1), .val (.int (2 : Int32)), .val (.ref w_REQUIRES_NEW), .val (.int (1 : Int32)), .val (.int (1 : Int32)), .unset] [(.ref w_NEW)])
            refine own_st (fun t k => XS.astore X19.here hx rfl (hb hby at_46) rfl rfl (l' := #[.val (.int ip0), .val (.int ip1), .val (.int (2 : Int32)), .val (.ref w_REQUIRES_NEW), .val (.int (1 : Int32)), .val (.int (1 : Int32)), .val (.ref w_NEW)]) rfl k) ?_
            show own_Go _ _ _ _ T19 (mkF m 48 #[.val (.int ip0), .val (.int ip1), .val (.int (2 : Int32)), .val (.ref w_REQUIRES_NEW), .val (.int (1 : Int32)), .val (.int (1 : Int32)), .val (.ref w_NEW)] [])
            refine own_st (fun t k => XS.iload X19.here hx rfl (hb hby at_48) rfl k) ?_
            show own_Go _ _ _ _ T19 (mkF m 50 #[.val (.int ip0), .val (.int ip1), .val (.int (2 : Int32)), .val (.ref w_REQUIRES_NEW), .val (.int (1 : Int32)), .val (.int (1 : Int32)), .val (.ref w_NEW)] [(.int (1 : Int32))])
            refine own_st (fun t k => XS.iload X19.here hx rfl (hb hby at_50) rfl k) ?_
            show own_Go _ _ _ _ T19 (mkF m 52 #[.val (.int ip0), .val (.int ip1), .val (.int (2 : Int32)), .val (.ref w_REQUIRES_NEW), .val (.int (1 : Int32)), .val (.int (1 : Int32)), .val (.ref w_NEW)] [(.int (1 : Int32)), (.int (1 : Int32))])
            refine own_st (fun t k => XS.icmpNo X19.here hx rfl (hb hby at_52) rfl (teq (by decide : (1 : Int32) = (1 : Int32))).2 k) ?_
            show own_Go _ _ _ _ T19 (mkF m 55 #[.val (.int ip0), .val (.int ip1), .val (.int (2 : Int32)), .val (.ref w_REQUIRES_NEW), .val (.int (1 : Int32)), .val (.int (1 : Int32)), .val (.ref w_NEW)] [])
            refine own_st (fun t k => XS.iload X19.here hx rfl (hb hby at_55) rfl k) ?_
            show own_Go _ _ _ _ T19 (mkF m 57 #[.val (.int ip0), .val (.int ip1), .val (.int (2 : Int32)), .val (.ref w_REQUIRES_NEW), .val (.int (1 : Int32)), .val (.int (1 : Int32)), .val (.ref w_NEW)] [(.int (1 : Int32))])
            refine own_st (fun t k => XS.ifNo X19.here hx rfl (hb hby at_57) rfl ((if0 _ _).trans (feq (by decide : ¬ ((1 : Int32) = (0 : Int32)))).1) k) ?_
            show own_Go _ _ _ _ T19 (mkF m 60 #[.val (.int ip0), .val (.int ip1), .val (.int (2 : Int32)), .val (.ref w_REQUIRES_NEW), .val (.int (1 : Int32)), .val (.int (1 : Int32)), .val (.ref w_NEW)] [])
            refine own_st (fun t k => XS.aload X19.here hx rfl (hb hby at_60) rfl rfl k) ?_
            show own_Go _ _ _ _ T19 (mkF m 62 #[.val (.int ip0), .val (.int ip1), .val (.int (2 : Int32)), .val (.ref w_REQUIRES_NEW), .val (.int (1 : Int32)), .val (.int (1 : Int32)), .val (.ref w_NEW)] [(.ref w_NEW)])
            obtain ⟨T20, X20, e20, st20⟩ := getS2 X19 hx hZ hown (host := "") (Or.inl (own_w hw 27 rfl)) Via.refl e19 S_NONE (g := (mkF m 62 #[.val (.int ip0), .val (.int ip1), .val (.int (2 : Int32)), .val (.ref w_REQUIRES_NEW), .val (.int (1 : Int32)), .val (.int (1 : Int32)), .val (.ref w_NEW)] [(.ref w_NEW)])) rfl (hb hby at_62)
            refine own_st st20 ?_
            show own_Go _ _ _ _ T20 (mkF m 65 #[.val (.int ip0), .val (.int ip1), .val (.int (2 : Int32)), .val (.ref w_REQUIRES_NEW), .val (.int (1 : Int32)), .val (.int (1 : Int32)), .val (.ref w_NEW)] [(.ref w_NONE), (.ref w_NEW)])
            refine own_st (fun t k => Jvm.RoadKit.acmp (g := (mkF m 65 #[.val (.int ip0), .val (.int ip1), .val (.int (2 : Int32)), .val (.ref w_REQUIRES_NEW), .val (.int (1 : Int32)), .val (.int (1 : Int32)), .val (.ref w_NEW)] [(.ref w_NONE), (.ref w_NEW)])) X20 hx rfl rfl rfl (pc0 := 65) (pc' := 68) (same := false) rfl (hb hby at_65) rfl (decide_eq_false fun q => hq17_2_0 (Value.ref.inj q)) (by decide) (by decide) k) ?_
            show own_Go _ _ _ _ T20 (mkF m 68 #[.val (.int ip0), .val (.int ip1), .val (.int (2 : Int32)), .val (.ref w_REQUIRES_NEW), .val (.int (1 : Int32)), .val (.int (1 : Int32)), .val (.ref w_NEW)] [])
            refine own_st (fun t k => XS.iconst X20.here hx rfl (hb hby at_68) k) ?_
            show own_Go _ _ _ _ T20 (mkF m 69 #[.val (.int ip0), .val (.int ip1), .val (.int (2 : Int32)), .val (.ref w_REQUIRES_NEW), .val (.int (1 : Int32)), .val (.int (1 : Int32)), .val (.ref w_NEW)] [(.int (1 : Int32))])
            refine own_st (fun t k => XS.goto X20.here hx rfl (pc0 := 69) (pc' := 73) rfl (hb hby at_69) (by decide) (by decide) k) ?_
            show own_Go _ _ _ _ T20 (mkF m 73 #[.val (.int ip0), .val (.int ip1), .val (.int (2 : Int32)), .val (.ref w_REQUIRES_NEW), .val (.int (1 : Int32)), .val (.int (1 : Int32)), .val (.ref w_NEW)] [(.int (1 : Int32))])
            exact own_retZ X20 hx hlk (t := .boolean) hret (by simp) (hb hby at_73) (by decide) (by decide) e20 ⟨rfl, N19⟩
          · skip
            exact absurd (by decide : (0 : Int32) = (0 : Int32)) hq19_1_0
        · skip
          refine own_st (fun t k => XS.ifNo X17.here hx rfl (hb hby at_35) rfl ((if0 _ _).trans (feq hc18).1) k) ?_
          show own_Go _ _ _ _ T17 (mkF m 38 #[.val (.int ip0), .val (.int ip1), .val (.int (2 : Int32)), .val (.ref w_REQUIRES_NEW), .val (.int (1 : Int32)), .val (.int (1 : Int32)), .unset] [(.ref w_REQUIRES_NEW)])
          refine own_st (fun t k => XS.iconst X17.here hx rfl (hb hby at_38) k) ?_
          show own_Go _ _ _ _ T17 (mkF m 39 #[.val (.int ip0), .val (.int ip1), .val (.int (2 : Int32)), .val (.ref w_REQUIRES_NEW), .val (.int (1 : Int32)), .val (.int (1 : Int32)), .unset] [(.int (1 : Int32)), (.ref w_REQUIRES_NEW)])
          refine own_st (fun t k => XS.goto X17.here hx rfl (pc0 := 39) (pc' := 43) rfl (hb hby at_39) (by decide) (by decide) k) ?_
          show own_Go _ _ _ _ T17 (mkF m 43 #[.val (.int ip0), .val (.int ip1), .val (.int (2 : Int32)), .val (.ref w_REQUIRES_NEW), .val (.int (1 : Int32)), .val (.int (1 : Int32)), .unset] [(.int (1 : Int32)), (.ref w_REQUIRES_NEW)])
          obtain ⟨cq21, kq21, q21a, q21b, q21c⟩ := isOf hZ e17 E_w_REQUIRES_NEW
          obtain ⟨_, _, ⟨T21, L21, k21, n21⟩, -, X21, ⟨Lc21, hQ21, l21, y21, z21⟩, st21⟩ := X17.virtualBack hx (y := (⟨"com/example/gird/gird/core/Attribute", "demarcation", "(Z)Lcom/example/gird/gird/core/Demarcation;"⟩ : MethodName)) (z := (⟨"com/example/gird/gird/core/Attribute", "demarcation", "(Z)Lcom/example/gird/gird/core/Demarcation;"⟩ : MethodName)) hown (mvT hZ (own_w hw 22 rfl)) (mvT hZ (own_w hw 23 rfl)) (notFace_of_selects (args := #[]) (mvT hZ (own_w hw 25 rfl))) (mvT hZ (own_w hw 25 rfl)) (mvT hZ (own_w hw 24 rfl)) (by decide) (backOf (W := 0) (own_rm3 l Z a0 hw [] w_REQUIRES_NEW (1 : Int32) w_NEW w_NEW h0 n0 Z0 F_withoutCallerTransaction_w_REQUIRES_NEW F_withCallerTransaction_w_REQUIRES_NEW) hZ (own_w hw 26 rfl) (own_w hw 6 rfl) (by decide) (by decide)) q21a q21c (g := (mkF m 43 #[.val (.int ip0), .val (.int ip1), .val (.int (2 : Int32)), .val (.ref w_REQUIRES_NEW), .val (.int (1 : Int32)), .val (.int (1 : Int32)), .unset] [(.int (1 : Int32)), (.ref w_REQUIRES_NEW)])) rfl (by rw [hml]; rfl) (Steps.refl _) (argsL := [(.int (1 : Int32))]) (rest := []) (lenOf own_pd2 rfl) rfl (by show 2 * 0 + _ ≤ _; exact Nat.le_of_eq rfl) (hb hby at_43) (fun _ _ => ⟨rfl, e17, (by decide : 0 + 0 ≤ _), (by decide : 0 + 0 ≤ _)⟩)
          dsimp only [Pt.U, Pt.locs, Pt.cells, Pt.slots] at X21 l21 y21 z21 st21 hQ21
          subst l21 y21 z21
          obtain ⟨N21q, e21, hL21⟩ := hQ21
          have N21 := Fr.app N17 N21q
          rcases hL21 with ⟨rfl, hq21_0_0, -⟩ | ⟨rfl, hq21_1_0, -⟩
          · skip
            exact absurd hq21_0_0 (by decide : ¬ ((1 : Int32) = (0 : Int32)))
          · skip
            refine own_st (fun t k => st21.trans k) ?_
            show own_Go _ _ _ _ T21 (mkF m 46 #[.val (.int ip0), .val (.int ip1), .val (.int (2 : Int32)), .val (.ref w_REQUIRES_NEW), .val (.int (1 : Int32)), .val (.int (1 : Int32)), .unset] [(.ref w_NEW)])
            refine own_st (fun t k => XS.astore X21.here hx rfl (hb hby at_46) rfl rfl (l' := #[.val (.int ip0), .val (.int ip1), .val (.int (2 : Int32)), .val (.ref w_REQUIRES_NEW), .val (.int (1 : Int32)), .val (.int (1 : Int32)), .val (.ref w_NEW)]) rfl k) ?_
            show own_Go _ _ _ _ T21 (mkF m 48 #[.val (.int ip0), .val (.int ip1), .val (.int (2 : Int32)), .val (.ref w_REQUIRES_NEW), .val (.int (1 : Int32)), .val (.int (1 : Int32)), .val (.ref w_NEW)] [])
            refine own_st (fun t k => XS.iload X21.here hx rfl (hb hby at_48) rfl k) ?_
            show own_Go _ _ _ _ T21 (mkF m 50 #[.val (.int ip0), .val (.int ip1), .val (.int (2 : Int32)), .val (.ref w_REQUIRES_NEW), .val (.int (1 : Int32)), .val (.int (1 : Int32)), .val (.ref w_NEW)] [(.int (1 : Int32))])
            refine own_st (fun t k => XS.iload X21.here hx rfl (hb hby at_50) rfl k) ?_
            show own_Go _ _ _ _ T21 (mkF m 52 #[.val (.int ip0), .val (.int ip1), .val (.int (2 : Int32)), .val (.ref w_REQUIRES_NEW), .val (.int (1 : Int32)), .val (.int (1 : Int32)), .val (.ref w_NEW)] [(.int (1 : Int32)), (.int (1 : Int32))])
            refine own_st (fun t k => XS.icmpNo X21.here hx rfl (hb hby at_52) rfl (teq (by decide : (1 : Int32) = (1 : Int32))).2 k) ?_
            show own_Go _ _ _ _ T21 (mkF m 55 #[.val (.int ip0), .val (.int ip1), .val (.int (2 : Int32)), .val (.ref w_REQUIRES_NEW), .val (.int (1 : Int32)), .val (.int (1 : Int32)), .val (.ref w_NEW)] [])
            refine own_st (fun t k => XS.iload X21.here hx rfl (hb hby at_55) rfl k) ?_
            show own_Go _ _ _ _ T21 (mkF m 57 #[.val (.int ip0), .val (.int ip1), .val (.int (2 : Int32)), .val (.ref w_REQUIRES_NEW), .val (.int (1 : Int32)), .val (.int (1 : Int32)), .val (.ref w_NEW)] [(.int (1 : Int32))])
            refine own_st (fun t k => XS.ifNo X21.here hx rfl (hb hby at_57) rfl ((if0 _ _).trans (feq hq21_1_0).1) k) ?_
            show own_Go _ _ _ _ T21 (mkF m 60 #[.val (.int ip0), .val (.int ip1), .val (.int (2 : Int32)), .val (.ref w_REQUIRES_NEW), .val (.int (1 : Int32)), .val (.int (1 : Int32)), .val (.ref w_NEW)] [])
            refine own_st (fun t k => XS.aload X21.here hx rfl (hb hby at_60) rfl rfl k) ?_
            show own_Go _ _ _ _ T21 (mkF m 62 #[.val (.int ip0), .val (.int ip1), .val (.int (2 : Int32)), .val (.ref w_REQUIRES_NEW), .val (.int (1 : Int32)), .val (.int (1 : Int32)), .val (.ref w_NEW)] [(.ref w_NEW)])
            obtain ⟨T22, X22, e22, st22⟩ := getS2 X21 hx hZ hown (host := "") (Or.inl (own_w hw 27 rfl)) Via.refl e21 S_NONE (g := (mkF m 62 #[.val (.int ip0), .val (.int ip1), .val (.int (2 : Int32)), .val (.ref w_REQUIRES_NEW), .val (.int (1 : Int32)), .val (.int (1 : Int32)), .val (.ref w_NEW)] [(.ref w_NEW)])) rfl (hb hby at_62)
            refine own_st st22 ?_
            show own_Go _ _ _ _ T22 (mkF m 65 #[.val (.int ip0), .val (.int ip1), .val (.int (2 : Int32)), .val (.ref w_REQUIRES_NEW), .val (.int (1 : Int32)), .val (.int (1 : Int32)), .val (.ref w_NEW)] [(.ref w_NONE), (.ref w_NEW)])
            refine own_st (fun t k => Jvm.RoadKit.acmp (g := (mkF m 65 #[.val (.int ip0), .val (.int ip1), .val (.int (2 : Int32)), .val (.ref w_REQUIRES_NEW), .val (.int (1 : Int32)), .val (.int (1 : Int32)), .val (.ref w_NEW)] [(.ref w_NONE), (.ref w_NEW)])) X22 hx rfl rfl rfl (pc0 := 65) (pc' := 68) (same := false) rfl (hb hby at_65) rfl (decide_eq_false fun q => hq17_2_0 (Value.ref.inj q)) (by decide) (by decide) k) ?_
            show own_Go _ _ _ _ T22 (mkF m 68 #[.val (.int ip0), .val (.int ip1), .val (.int (2 : Int32)), .val (.ref w_REQUIRES_NEW), .val (.int (1 : Int32)), .val (.int (1 : Int32)), .val (.ref w_NEW)] [])
            refine own_st (fun t k => XS.iconst X22.here hx rfl (hb hby at_68) k) ?_
            show own_Go _ _ _ _ T22 (mkF m 69 #[.val (.int ip0), .val (.int ip1), .val (.int (2 : Int32)), .val (.ref w_REQUIRES_NEW), .val (.int (1 : Int32)), .val (.int (1 : Int32)), .val (.ref w_NEW)] [(.int (1 : Int32))])
            refine own_st (fun t k => XS.goto X22.here hx rfl (pc0 := 69) (pc' := 73) rfl (hb hby at_69) (by decide) (by decide) k) ?_
            show own_Go _ _ _ _ T22 (mkF m 73 #[.val (.int ip0), .val (.int ip1), .val (.int (2 : Int32)), .val (.ref w_REQUIRES_NEW), .val (.int (1 : Int32)), .val (.int (1 : Int32)), .val (.ref w_NEW)] [(.int (1 : Int32))])
            exact own_retZ X22 hx hlk (t := .boolean) hret (by simp) (hb hby at_73) (by decide) (by decide) e22 ⟨rfl, N21⟩
    · skip
      exact absurd (by decide : (2 : Int32) = (2 : Int32)) hq16_3_2
    · skip
      exact absurd (by decide : (2 : Int32) = (2 : Int32)) hq16_4_2
    · skip
      exact absurd (by decide : (2 : Int32) = (2 : Int32)) hq16_5_2
  · rw [qr1]
    show own_Go _ _ _ _ s₁ (mkF m 7 #[.val (.int ip0), .val (.int ip1), .unset, .unset, .unset, .unset, .unset] [(.int (3 : Int32))])
    refine own_st (fun t k => XS.istoreN X0.here hx rfl (hb hby at_7) rfl (l' := #[.val (.int ip0), .val (.int ip1), .val (.int (3 : Int32)), .unset, .unset, .unset, .unset]) rfl k) ?_
    show own_Go _ _ _ _ s₁ (mkF m 8 #[.val (.int ip0), .val (.int ip1), .val (.int (3 : Int32)), .unset, .unset, .unset, .unset] [])
    refine own_st (fun t k => XS.iloadN X0.here hx rfl (hb hby at_8) rfl k) ?_
    show own_Go _ _ _ _ s₁ (mkF m 9 #[.val (.int ip0), .val (.int ip1), .val (.int (3 : Int32)), .unset, .unset, .unset, .unset] [(.int (3 : Int32))])
    obtain ⟨_, _, ⟨T23, L23, k23, n23⟩, -, X23, ⟨Lc23, hQ23, l23, y23, z23⟩, st23⟩ := Jvm.LawKit.callS X0 hx (y := (⟨"com/example/gird/gird/core/AttributeAlwaysRunsInTransactionPinLaw", "pick", "(I)Lcom/example/gird/gird/core/Attribute;"⟩ : MethodName)) hown (mvT hZ (own_w hw 1 rfl)) (mvT hZ (own_w hw 2 rfl)) (mvT hZ (own_w hw 3 rfl)) (mvT hZ (own_w hw 4 rfl)) (by decide) (backOf (W := 0) (own_rm1 l Z a0 hw [] (3 : Int32) w_MANDATORY w_REQUIRED w_REQUIRES_NEW w_SUPPORTS w_NOT_SUPPORTED w_NEVER h0 n0 Z0 S_MANDATORY S_REQUIRED S_REQUIRES_NEW S_SUPPORTS S_NOT_SUPPORTED S_NEVER) hZ (own_w hw 4 rfl) (own_w hw 3 rfl) (by decide) (by decide)) (g := (mkF m 9 #[.val (.int ip0), .val (.int ip1), .val (.int (3 : Int32)), .unset, .unset, .unset, .unset] [(.int (3 : Int32))])) rfl (by rw [hml]; rfl) (argsL := [(.int (3 : Int32))]) (rest := []) (lenOf own_pd0 rfl) rfl (by show 2 * 0 + _ ≤ _; exact Nat.le_of_eq rfl) (hb hby at_9) (fun _ _ => ⟨rfl, e0, (by decide : 0 + 0 ≤ _), (by decide : 0 + 0 ≤ _)⟩)
    dsimp only [Pt.U, Pt.locs, Pt.cells, Pt.slots] at X23 l23 y23 z23 st23 hQ23
    subst l23 y23 z23
    obtain ⟨N23q, e23, hL23⟩ := hQ23
    have N23 := Fr.app N0 N23q
    rcases hL23 with ⟨rfl, hq23_0_0, -⟩ | ⟨rfl, hq23_1_0, hq23_1_1, -⟩ | ⟨rfl, hq23_2_0, hq23_2_1, hq23_2_2, -⟩ | ⟨rfl, hq23_3_0, hq23_3_1, hq23_3_2, hq23_3_3, -⟩ | ⟨rfl, hq23_4_0, hq23_4_1, hq23_4_2, hq23_4_3, hq23_4_4, -⟩ | ⟨rfl, hq23_5_0, hq23_5_1, hq23_5_2, hq23_5_3, hq23_5_4, -⟩
    · skip
      exact absurd hq23_0_0 (by decide : ¬ ((3 : Int32) = (0 : Int32)))
    · skip
      exact absurd hq23_1_1 (by decide : ¬ ((3 : Int32) = (1 : Int32)))
    · skip
      exact absurd hq23_2_2 (by decide : ¬ ((3 : Int32) = (2 : Int32)))
    · skip
      refine own_st st23 ?_
      show own_Go _ _ _ _ T23 (mkF m 12 #[.val (.int ip0), .val (.int ip1), .val (.int (3 : Int32)), .unset, .unset, .unset, .unset] [(.ref w_SUPPORTS)])
      refine own_st (fun t k => XS.astoreN X23.here hx rfl (hb hby at_12) rfl rfl (l' := #[.val (.int ip0), .val (.int ip1), .val (.int (3 : Int32)), .val (.ref w_SUPPORTS), .unset, .unset, .unset]) rfl k) ?_
      show own_Go _ _ _ _ T23 (mkF m 13 #[.val (.int ip0), .val (.int ip1), .val (.int (3 : Int32)), .val (.ref w_SUPPORTS), .unset, .unset, .unset] [])
      refine own_st (fun t k => XS.iloadN X23.here hx rfl (hb hby at_13) rfl k) ?_
      show own_Go _ _ _ _ T23 (mkF m 14 #[.val (.int ip0), .val (.int ip1), .val (.int (3 : Int32)), .val (.ref w_SUPPORTS), .unset, .unset, .unset] [(.int (3 : Int32))])
      refine own_st (fun t k => XS.iconst X23.here hx rfl (hb hby at_14) k) ?_
      show own_Go _ _ _ _ T23 (mkF m 15 #[.val (.int ip0), .val (.int ip1), .val (.int (3 : Int32)), .val (.ref w_SUPPORTS), .unset, .unset, .unset] [(.int (2 : Int32)), (.int (3 : Int32))])
      refine own_st (fun t k => XS.icmpYes X23.here hx rfl (pc0 := 15) (pc' := 22) rfl (hb hby at_15) rfl (tlt (by decide : (2 : Int32) < (3 : Int32))).2.2.1 (by decide) (by decide) k) ?_
      show own_Go _ _ _ _ T23 (mkF m 22 #[.val (.int ip0), .val (.int ip1), .val (.int (3 : Int32)), .val (.ref w_SUPPORTS), .unset, .unset, .unset] [])
      refine own_st (fun t k => XS.iconst X23.here hx rfl (hb hby at_22) k) ?_
      show own_Go _ _ _ _ T23 (mkF m 23 #[.val (.int ip0), .val (.int ip1), .val (.int (3 : Int32)), .val (.ref w_SUPPORTS), .unset, .unset, .unset] [(.int (0 : Int32))])
      refine own_st (fun t k => XS.istore X23.here hx rfl (hb hby at_23) rfl (l' := #[.val (.int ip0), .val (.int ip1), .val (.int (3 : Int32)), .val (.ref w_SUPPORTS), .val (.int (0 : Int32)), .unset, .unset]) rfl k) ?_
      show own_Go _ _ _ _ T23 (mkF m 25 #[.val (.int ip0), .val (.int ip1), .val (.int (3 : Int32)), .val (.ref w_SUPPORTS), .val (.int (0 : Int32)), .unset, .unset] [])
      refine own_st (fun t k => XS.aloadN X23.here hx rfl (hb hby at_25) rfl rfl k) ?_
      show own_Go _ _ _ _ T23 (mkF m 26 #[.val (.int ip0), .val (.int ip1), .val (.int (3 : Int32)), .val (.ref w_SUPPORTS), .val (.int (0 : Int32)), .unset, .unset] [(.ref w_SUPPORTS)])
      obtain ⟨cq24, kq24, q24a, q24b, q24c⟩ := isOf hZ e23 E_w_SUPPORTS
      obtain ⟨_, _, ⟨T24, L24, k24, n24⟩, -, X24, ⟨Lc24, hQ24, l24, y24, z24⟩, st24⟩ := X23.virtualBack hx (y := (⟨"com/example/gird/gird/core/Attribute", "alwaysRunsInTransaction", "()Z"⟩ : MethodName)) (z := (⟨"com/example/gird/gird/core/Attribute", "alwaysRunsInTransaction", "()Z"⟩ : MethodName)) hown (mvT hZ (own_w hw 8 rfl)) (mvT hZ (own_w hw 9 rfl)) (notFace_of_selects (args := #[]) (mvT hZ (own_w hw 11 rfl))) (mvT hZ (own_w hw 11 rfl)) (mvT hZ (own_w hw 10 rfl)) (by decide) (backOf (W := 0) (own_rm2 l Z a0 hw [] w_SUPPORTS w_NONE w_NONE w_CALLER h0 n0 Z0 F_withoutCallerTransaction_w_SUPPORTS S_NONE F_withCallerTransaction_w_SUPPORTS) hZ (own_w hw 12 rfl) (own_w hw 6 rfl) (by decide) (by decide)) q24a q24c (g := (mkF m 26 #[.val (.int ip0), .val (.int ip1), .val (.int (3 : Int32)), .val (.ref w_SUPPORTS), .val (.int (0 : Int32)), .unset, .unset] [(.ref w_SUPPORTS)])) rfl (by rw [hml]; rfl) (Steps.refl _) (argsL := []) (rest := []) (lenOf own_pd1 rfl) rfl (by show 2 * 0 + _ ≤ _; exact Nat.le_of_eq rfl) (hb hby at_26) (fun _ _ => ⟨rfl, e23, (by decide : 0 + 0 ≤ _), (by decide : 0 + 0 ≤ _)⟩)
      dsimp only [Pt.U, Pt.locs, Pt.cells, Pt.slots] at X24 l24 y24 z24 st24 hQ24
      subst l24 y24 z24
      obtain ⟨N24q, e24, hL24⟩ := hQ24
      have N24 := Fr.app N23 N24q
      rcases hL24 with ⟨rfl, hq24_0_0, -⟩ | ⟨rfl, hq24_1_0, hq24_1_1, -⟩ | ⟨rfl, hq24_2_0, hq24_2_1, -⟩
      · skip
        refine own_st (fun t k => st24.trans k) ?_
        show own_Go _ _ _ _ T24 (mkF m 29 #[.val (.int ip0), .val (.int ip1), .val (.int (3 : Int32)), .val (.ref w_SUPPORTS), .val (.int (0 : Int32)), .unset, .unset] [(.int (0 : Int32))])
        refine own_st (fun t k => XS.istore X24.here hx rfl (hb hby at_29) rfl (l' := #[.val (.int ip0), .val (.int ip1), .val (.int (3 : Int32)), .val (.ref w_SUPPORTS), .val (.int (0 : Int32)), .val (.int (0 : Int32)), .unset]) rfl k) ?_
        show own_Go _ _ _ _ T24 (mkF m 31 #[.val (.int ip0), .val (.int ip1), .val (.int (3 : Int32)), .val (.ref w_SUPPORTS), .val (.int (0 : Int32)), .val (.int (0 : Int32)), .unset] [])
        refine own_st (fun t k => XS.aloadN X24.here hx rfl (hb hby at_31) rfl rfl k) ?_
        show own_Go _ _ _ _ T24 (mkF m 32 #[.val (.int ip0), .val (.int ip1), .val (.int (3 : Int32)), .val (.ref w_SUPPORTS), .val (.int (0 : Int32)), .val (.int (0 : Int32)), .unset] [(.ref w_SUPPORTS)])
        refine own_st (fun t k => XS.iloadN X24.here hx rfl (hb hby at_32) rfl k) ?_
        show own_Go _ _ _ _ T24 (mkF m 33 #[.val (.int ip0), .val (.int ip1), .val (.int (3 : Int32)), .val (.ref w_SUPPORTS), .val (.int (0 : Int32)), .val (.int (0 : Int32)), .unset] [(.int ip1), (.ref w_SUPPORTS)])
        refine own_st (fun t k => XS.iconst X24.here hx rfl (hb hby at_33) k) ?_
        show own_Go _ _ _ _ T24 (mkF m 34 #[.val (.int ip0), .val (.int ip1), .val (.int (3 : Int32)), .val (.ref w_SUPPORTS), .val (.int (0 : Int32)), .val (.int (0 : Int32)), .unset] [(.int (1 : Int32)), (.int ip1), (.ref w_SUPPORTS)])
        refine own_st (fun t k => XS.iand X24.here hx rfl (hb hby at_34) rfl k) ?_
        show own_Go _ _ _ _ T24 (mkF m 35 #[.val (.int ip0), .val (.int ip1), .val (.int (3 : Int32)), .val (.ref w_SUPPORTS), .val (.int (0 : Int32)), .val (.int (0 : Int32)), .unset] [(.int (ip1 &&& (1 : Int32))), (.ref w_SUPPORTS)])
        by_cases hc25 : (ip1 &&& (1 : Int32)) = (0 : Int32)
        · skip
          refine own_st (fun t k => XS.ifYes X24.here hx rfl (pc0 := 35) (pc' := 42) rfl (hb hby at_35) rfl ((if0 _ _).trans (teq hc25).1) (by decide) (by decide) k) ?_
          show own_Go _ _ _ _ T24 (mkF m 42 #[.val (.int ip0), .val (.int ip1), .val (.int (3 : Int32)), .val (.ref w_SUPPORTS), .val (.int (0 : Int32)), .val (.int (0 : Int32)), .unset] [(.ref w_SUPPORTS)])
          refine own_st (fun t k => XS.iconst X24.here hx rfl (hb hby at_42) k) ?_
          show own_Go _ _ _ _ T24 (mkF m 43 #[.val (.int ip0), .val (.int ip1), .val (.int (3 : Int32)), .val (.ref w_SUPPORTS), .val (.int (0 : Int32)), .val (.int (0 : Int32)), .unset] [(.int (0 : Int32)), (.ref w_SUPPORTS)])
          obtain ⟨cq26, kq26, q26a, q26b, q26c⟩ := isOf hZ e24 E_w_SUPPORTS
          obtain ⟨_, _, ⟨T26, L26, k26, n26⟩, -, X26, ⟨Lc26, hQ26, l26, y26, z26⟩, st26⟩ := X24.virtualBack hx (y := (⟨"com/example/gird/gird/core/Attribute", "demarcation", "(Z)Lcom/example/gird/gird/core/Demarcation;"⟩ : MethodName)) (z := (⟨"com/example/gird/gird/core/Attribute", "demarcation", "(Z)Lcom/example/gird/gird/core/Demarcation;"⟩ : MethodName)) hown (mvT hZ (own_w hw 22 rfl)) (mvT hZ (own_w hw 23 rfl)) (notFace_of_selects (args := #[]) (mvT hZ (own_w hw 25 rfl))) (mvT hZ (own_w hw 25 rfl)) (mvT hZ (own_w hw 24 rfl)) (by decide) (backOf (W := 0) (own_rm3 l Z a0 hw [] w_SUPPORTS (0 : Int32) w_NONE w_CALLER h0 n0 Z0 F_withoutCallerTransaction_w_SUPPORTS F_withCallerTransaction_w_SUPPORTS) hZ (own_w hw 26 rfl) (own_w hw 6 rfl) (by decide) (by decide)) q26a q26c (g := (mkF m 43 #[.val (.int ip0), .val (.int ip1), .val (.int (3 : Int32)), .val (.ref w_SUPPORTS), .val (.int (0 : Int32)), .val (.int (0 : Int32)), .unset] [(.int (0 : Int32)), (.ref w_SUPPORTS)])) rfl (by rw [hml]; rfl) (Steps.refl _) (argsL := [(.int (0 : Int32))]) (rest := []) (lenOf own_pd2 rfl) rfl (by show 2 * 0 + _ ≤ _; exact Nat.le_of_eq rfl) (hb hby at_43) (fun _ _ => ⟨rfl, e24, (by decide : 0 + 0 ≤ _), (by decide : 0 + 0 ≤ _)⟩)
          dsimp only [Pt.U, Pt.locs, Pt.cells, Pt.slots] at X26 l26 y26 z26 st26 hQ26
          subst l26 y26 z26
          obtain ⟨N26q, e26, hL26⟩ := hQ26
          have N26 := Fr.app N24 N26q
          rcases hL26 with ⟨rfl, hq26_0_0, -⟩ | ⟨rfl, hq26_1_0, -⟩
          · skip
            refine own_st (fun t k => st26.trans k) ?_
            show own_Go _ _ _ _ T26 (mkF m 46 #[.val (.int ip0), .val (.int ip1), .val (.int (3 : Int32)), .val (.ref w_SUPPORTS), .val (.int (0 : Int32)), .val (.int (0 : Int32)), .unset] [(.ref w_NONE)])
            refine own_st (fun t k => XS.astore X26.here hx rfl (hb hby at_46) rfl rfl (l' := #[.val (.int ip0), .val (.int ip1), .val (.int (3 : Int32)), .val (.ref w_SUPPORTS), .val (.int (0 : Int32)), .val (.int (0 : Int32)), .val (.ref w_NONE)]) rfl k) ?_
            show own_Go _ _ _ _ T26 (mkF m 48 #[.val (.int ip0), .val (.int ip1), .val (.int (3 : Int32)), .val (.ref w_SUPPORTS), .val (.int (0 : Int32)), .val (.int (0 : Int32)), .val (.ref w_NONE)] [])
            refine own_st (fun t k => XS.iload X26.here hx rfl (hb hby at_48) rfl k) ?_
            show own_Go _ _ _ _ T26 (mkF m 50 #[.val (.int ip0), .val (.int ip1), .val (.int (3 : Int32)), .val (.ref w_SUPPORTS), .val (.int (0 : Int32)), .val (.int (0 : Int32)), .val (.ref w_NONE)] [(.int (0 : Int32))])
            refine own_st (fun t k => XS.iload X26.here hx rfl (hb hby at_50) rfl k) ?_
            show own_Go _ _ _ _ T26 (mkF m 52 #[.val (.int ip0), .val (.int ip1), .val (.int (3 : Int32)), .val (.ref w_SUPPORTS), .val (.int (0 : Int32)), .val (.int (0 : Int32)), .val (.ref w_NONE)] [(.int (0 : Int32)), (.int (0 : Int32))])
            refine own_st (fun t k => XS.icmpNo X26.here hx rfl (hb hby at_52) rfl (teq hq26_0_0).2 k) ?_
            show own_Go _ _ _ _ T26 (mkF m 55 #[.val (.int ip0), .val (.int ip1), .val (.int (3 : Int32)), .val (.ref w_SUPPORTS), .val (.int (0 : Int32)), .val (.int (0 : Int32)), .val (.ref w_NONE)] [])
            refine own_st (fun t k => XS.iload X26.here hx rfl (hb hby at_55) rfl k) ?_
            show own_Go _ _ _ _ T26 (mkF m 57 #[.val (.int ip0), .val (.int ip1), .val (.int (3 : Int32)), .val (.ref w_SUPPORTS), .val (.int (0 : Int32)), .val (.int (0 : Int32)), .val (.ref w_NONE)] [(.int (0 : Int32))])
            refine own_st (fun t k => XS.ifYes X26.here hx rfl (pc0 := 57) (pc' := 68) rfl (hb hby at_57) rfl ((if0 _ _).trans (teq hq26_0_0).1) (by decide) (by decide) k) ?_
            show own_Go _ _ _ _ T26 (mkF m 68 #[.val (.int ip0), .val (.int ip1), .val (.int (3 : Int32)), .val (.ref w_SUPPORTS), .val (.int (0 : Int32)), .val (.int (0 : Int32)), .val (.ref w_NONE)] [])
            refine own_st (fun t k => XS.iconst X26.here hx rfl (hb hby at_68) k) ?_
            show own_Go _ _ _ _ T26 (mkF m 69 #[.val (.int ip0), .val (.int ip1), .val (.int (3 : Int32)), .val (.ref w_SUPPORTS), .val (.int (0 : Int32)), .val (.int (0 : Int32)), .val (.ref w_NONE)] [(.int (1 : Int32))])
            refine own_st (fun t k => XS.goto X26.here hx rfl (pc0 := 69) (pc' := 73) rfl (hb hby at_69) (by decide) (by decide) k) ?_
            show own_Go _ _ _ _ T26 (mkF m 73 #[.val (.int ip0), .val (.int ip1), .val (.int (3 : Int32)), .val (.ref w_SUPPORTS), .val (.int (0 : Int32)), .val (.int (0 : Int32)), .val (.ref w_NONE)] [(.int (1 : Int32))])
            exact own_retZ X26 hx hlk (t := .boolean) hret (by simp) (hb hby at_73) (by decide) (by decide) e26 ⟨rfl, N26⟩
          · skip
            exact absurd (by decide : (0 : Int32) = (0 : Int32)) hq26_1_0
        · skip
          refine own_st (fun t k => XS.ifNo X24.here hx rfl (hb hby at_35) rfl ((if0 _ _).trans (feq hc25).1) k) ?_
          show own_Go _ _ _ _ T24 (mkF m 38 #[.val (.int ip0), .val (.int ip1), .val (.int (3 : Int32)), .val (.ref w_SUPPORTS), .val (.int (0 : Int32)), .val (.int (0 : Int32)), .unset] [(.ref w_SUPPORTS)])
          refine own_st (fun t k => XS.iconst X24.here hx rfl (hb hby at_38) k) ?_
          show own_Go _ _ _ _ T24 (mkF m 39 #[.val (.int ip0), .val (.int ip1), .val (.int (3 : Int32)), .val (.ref w_SUPPORTS), .val (.int (0 : Int32)), .val (.int (0 : Int32)), .unset] [(.int (1 : Int32)), (.ref w_SUPPORTS)])
          refine own_st (fun t k => XS.goto X24.here hx rfl (pc0 := 39) (pc' := 43) rfl (hb hby at_39) (by decide) (by decide) k) ?_
          show own_Go _ _ _ _ T24 (mkF m 43 #[.val (.int ip0), .val (.int ip1), .val (.int (3 : Int32)), .val (.ref w_SUPPORTS), .val (.int (0 : Int32)), .val (.int (0 : Int32)), .unset] [(.int (1 : Int32)), (.ref w_SUPPORTS)])
          obtain ⟨cq27, kq27, q27a, q27b, q27c⟩ := isOf hZ e24 E_w_SUPPORTS
          obtain ⟨_, _, ⟨T27, L27, k27, n27⟩, -, X27, ⟨Lc27, hQ27, l27, y27, z27⟩, st27⟩ := X24.virtualBack hx (y := (⟨"com/example/gird/gird/core/Attribute", "demarcation", "(Z)Lcom/example/gird/gird/core/Demarcation;"⟩ : MethodName)) (z := (⟨"com/example/gird/gird/core/Attribute", "demarcation", "(Z)Lcom/example/gird/gird/core/Demarcation;"⟩ : MethodName)) hown (mvT hZ (own_w hw 22 rfl)) (mvT hZ (own_w hw 23 rfl)) (notFace_of_selects (args := #[]) (mvT hZ (own_w hw 25 rfl))) (mvT hZ (own_w hw 25 rfl)) (mvT hZ (own_w hw 24 rfl)) (by decide) (backOf (W := 0) (own_rm3 l Z a0 hw [] w_SUPPORTS (1 : Int32) w_NONE w_CALLER h0 n0 Z0 F_withoutCallerTransaction_w_SUPPORTS F_withCallerTransaction_w_SUPPORTS) hZ (own_w hw 26 rfl) (own_w hw 6 rfl) (by decide) (by decide)) q27a q27c (g := (mkF m 43 #[.val (.int ip0), .val (.int ip1), .val (.int (3 : Int32)), .val (.ref w_SUPPORTS), .val (.int (0 : Int32)), .val (.int (0 : Int32)), .unset] [(.int (1 : Int32)), (.ref w_SUPPORTS)])) rfl (by rw [hml]; rfl) (Steps.refl _) (argsL := [(.int (1 : Int32))]) (rest := []) (lenOf own_pd2 rfl) rfl (by show 2 * 0 + _ ≤ _; exact Nat.le_of_eq rfl) (hb hby at_43) (fun _ _ => ⟨rfl, e24, (by decide : 0 + 0 ≤ _), (by decide : 0 + 0 ≤ _)⟩)
          dsimp only [Pt.U, Pt.locs, Pt.cells, Pt.slots] at X27 l27 y27 z27 st27 hQ27
          subst l27 y27 z27
          obtain ⟨N27q, e27, hL27⟩ := hQ27
          have N27 := Fr.app N24 N27q
          rcases hL27 with ⟨rfl, hq27_0_0, -⟩ | ⟨rfl, hq27_1_0, -⟩
          · skip
            exact absurd hq27_0_0 (by decide : ¬ ((1 : Int32) = (0 : Int32)))
          · skip
            refine own_st (fun t k => st27.trans k) ?_
            show own_Go _ _ _ _ T27 (mkF m 46 #[.val (.int ip0), .val (.int ip1), .val (.int (3 : Int32)), .val (.ref w_SUPPORTS), .val (.int (0 : Int32)), .val (.int (0 : Int32)), .unset] [(.ref w_CALLER)])
            refine own_st (fun t k => XS.astore X27.here hx rfl (hb hby at_46) rfl rfl (l' := #[.val (.int ip0), .val (.int ip1), .val (.int (3 : Int32)), .val (.ref w_SUPPORTS), .val (.int (0 : Int32)), .val (.int (0 : Int32)), .val (.ref w_CALLER)]) rfl k) ?_
            show own_Go _ _ _ _ T27 (mkF m 48 #[.val (.int ip0), .val (.int ip1), .val (.int (3 : Int32)), .val (.ref w_SUPPORTS), .val (.int (0 : Int32)), .val (.int (0 : Int32)), .val (.ref w_CALLER)] [])
            refine own_st (fun t k => XS.iload X27.here hx rfl (hb hby at_48) rfl k) ?_
            show own_Go _ _ _ _ T27 (mkF m 50 #[.val (.int ip0), .val (.int ip1), .val (.int (3 : Int32)), .val (.ref w_SUPPORTS), .val (.int (0 : Int32)), .val (.int (0 : Int32)), .val (.ref w_CALLER)] [(.int (0 : Int32))])
            refine own_st (fun t k => XS.iload X27.here hx rfl (hb hby at_50) rfl k) ?_
            show own_Go _ _ _ _ T27 (mkF m 52 #[.val (.int ip0), .val (.int ip1), .val (.int (3 : Int32)), .val (.ref w_SUPPORTS), .val (.int (0 : Int32)), .val (.int (0 : Int32)), .val (.ref w_CALLER)] [(.int (0 : Int32)), (.int (0 : Int32))])
            refine own_st (fun t k => XS.icmpNo X27.here hx rfl (hb hby at_52) rfl (teq (by decide : (0 : Int32) = (0 : Int32))).2 k) ?_
            show own_Go _ _ _ _ T27 (mkF m 55 #[.val (.int ip0), .val (.int ip1), .val (.int (3 : Int32)), .val (.ref w_SUPPORTS), .val (.int (0 : Int32)), .val (.int (0 : Int32)), .val (.ref w_CALLER)] [])
            refine own_st (fun t k => XS.iload X27.here hx rfl (hb hby at_55) rfl k) ?_
            show own_Go _ _ _ _ T27 (mkF m 57 #[.val (.int ip0), .val (.int ip1), .val (.int (3 : Int32)), .val (.ref w_SUPPORTS), .val (.int (0 : Int32)), .val (.int (0 : Int32)), .val (.ref w_CALLER)] [(.int (0 : Int32))])
            refine own_st (fun t k => XS.ifYes X27.here hx rfl (pc0 := 57) (pc' := 68) rfl (hb hby at_57) rfl ((if0 _ _).trans (teq (by decide : (0 : Int32) = (0 : Int32))).1) (by decide) (by decide) k) ?_
            show own_Go _ _ _ _ T27 (mkF m 68 #[.val (.int ip0), .val (.int ip1), .val (.int (3 : Int32)), .val (.ref w_SUPPORTS), .val (.int (0 : Int32)), .val (.int (0 : Int32)), .val (.ref w_CALLER)] [])
            refine own_st (fun t k => XS.iconst X27.here hx rfl (hb hby at_68) k) ?_
            show own_Go _ _ _ _ T27 (mkF m 69 #[.val (.int ip0), .val (.int ip1), .val (.int (3 : Int32)), .val (.ref w_SUPPORTS), .val (.int (0 : Int32)), .val (.int (0 : Int32)), .val (.ref w_CALLER)] [(.int (1 : Int32))])
            refine own_st (fun t k => XS.goto X27.here hx rfl (pc0 := 69) (pc' := 73) rfl (hb hby at_69) (by decide) (by decide) k) ?_
            show own_Go _ _ _ _ T27 (mkF m 73 #[.val (.int ip0), .val (.int ip1), .val (.int (3 : Int32)), .val (.ref w_SUPPORTS), .val (.int (0 : Int32)), .val (.int (0 : Int32)), .val (.ref w_CALLER)] [(.int (1 : Int32))])
            exact own_retZ X27 hx hlk (t := .boolean) hret (by simp) (hb hby at_73) (by decide) (by decide) e27 ⟨rfl, N27⟩
      · skip
        exact absurd (rfl : w_NONE = w_NONE) hq24_1_0
      · skip
        exact absurd (rfl : w_NONE = w_NONE) hq24_2_0
    · skip
      exact absurd (by decide : (3 : Int32) = (3 : Int32)) hq23_4_3
    · skip
      exact absurd (by decide : (3 : Int32) = (3 : Int32)) hq23_5_3
  · rw [qr1]
    show own_Go _ _ _ _ s₁ (mkF m 7 #[.val (.int ip0), .val (.int ip1), .unset, .unset, .unset, .unset, .unset] [(.int (4 : Int32))])
    refine own_st (fun t k => XS.istoreN X0.here hx rfl (hb hby at_7) rfl (l' := #[.val (.int ip0), .val (.int ip1), .val (.int (4 : Int32)), .unset, .unset, .unset, .unset]) rfl k) ?_
    show own_Go _ _ _ _ s₁ (mkF m 8 #[.val (.int ip0), .val (.int ip1), .val (.int (4 : Int32)), .unset, .unset, .unset, .unset] [])
    refine own_st (fun t k => XS.iloadN X0.here hx rfl (hb hby at_8) rfl k) ?_
    show own_Go _ _ _ _ s₁ (mkF m 9 #[.val (.int ip0), .val (.int ip1), .val (.int (4 : Int32)), .unset, .unset, .unset, .unset] [(.int (4 : Int32))])
    obtain ⟨_, _, ⟨T28, L28, k28, n28⟩, -, X28, ⟨Lc28, hQ28, l28, y28, z28⟩, st28⟩ := Jvm.LawKit.callS X0 hx (y := (⟨"com/example/gird/gird/core/AttributeAlwaysRunsInTransactionPinLaw", "pick", "(I)Lcom/example/gird/gird/core/Attribute;"⟩ : MethodName)) hown (mvT hZ (own_w hw 1 rfl)) (mvT hZ (own_w hw 2 rfl)) (mvT hZ (own_w hw 3 rfl)) (mvT hZ (own_w hw 4 rfl)) (by decide) (backOf (W := 0) (own_rm1 l Z a0 hw [] (4 : Int32) w_MANDATORY w_REQUIRED w_REQUIRES_NEW w_SUPPORTS w_NOT_SUPPORTED w_NEVER h0 n0 Z0 S_MANDATORY S_REQUIRED S_REQUIRES_NEW S_SUPPORTS S_NOT_SUPPORTED S_NEVER) hZ (own_w hw 4 rfl) (own_w hw 3 rfl) (by decide) (by decide)) (g := (mkF m 9 #[.val (.int ip0), .val (.int ip1), .val (.int (4 : Int32)), .unset, .unset, .unset, .unset] [(.int (4 : Int32))])) rfl (by rw [hml]; rfl) (argsL := [(.int (4 : Int32))]) (rest := []) (lenOf own_pd0 rfl) rfl (by show 2 * 0 + _ ≤ _; exact Nat.le_of_eq rfl) (hb hby at_9) (fun _ _ => ⟨rfl, e0, (by decide : 0 + 0 ≤ _), (by decide : 0 + 0 ≤ _)⟩)
    dsimp only [Pt.U, Pt.locs, Pt.cells, Pt.slots] at X28 l28 y28 z28 st28 hQ28
    subst l28 y28 z28
    obtain ⟨N28q, e28, hL28⟩ := hQ28
    have N28 := Fr.app N0 N28q
    rcases hL28 with ⟨rfl, hq28_0_0, -⟩ | ⟨rfl, hq28_1_0, hq28_1_1, -⟩ | ⟨rfl, hq28_2_0, hq28_2_1, hq28_2_2, -⟩ | ⟨rfl, hq28_3_0, hq28_3_1, hq28_3_2, hq28_3_3, -⟩ | ⟨rfl, hq28_4_0, hq28_4_1, hq28_4_2, hq28_4_3, hq28_4_4, -⟩ | ⟨rfl, hq28_5_0, hq28_5_1, hq28_5_2, hq28_5_3, hq28_5_4, -⟩
    · skip
      exact absurd hq28_0_0 (by decide : ¬ ((4 : Int32) = (0 : Int32)))
    · skip
      exact absurd hq28_1_1 (by decide : ¬ ((4 : Int32) = (1 : Int32)))
    · skip
      exact absurd hq28_2_2 (by decide : ¬ ((4 : Int32) = (2 : Int32)))
    · skip
      exact absurd hq28_3_3 (by decide : ¬ ((4 : Int32) = (3 : Int32)))
    · skip
      refine own_st st28 ?_
      show own_Go _ _ _ _ T28 (mkF m 12 #[.val (.int ip0), .val (.int ip1), .val (.int (4 : Int32)), .unset, .unset, .unset, .unset] [(.ref w_NOT_SUPPORTED)])
      refine own_st (fun t k => XS.astoreN X28.here hx rfl (hb hby at_12) rfl rfl (l' := #[.val (.int ip0), .val (.int ip1), .val (.int (4 : Int32)), .val (.ref w_NOT_SUPPORTED), .unset, .unset, .unset]) rfl k) ?_
      show own_Go _ _ _ _ T28 (mkF m 13 #[.val (.int ip0), .val (.int ip1), .val (.int (4 : Int32)), .val (.ref w_NOT_SUPPORTED), .unset, .unset, .unset] [])
      refine own_st (fun t k => XS.iloadN X28.here hx rfl (hb hby at_13) rfl k) ?_
      show own_Go _ _ _ _ T28 (mkF m 14 #[.val (.int ip0), .val (.int ip1), .val (.int (4 : Int32)), .val (.ref w_NOT_SUPPORTED), .unset, .unset, .unset] [(.int (4 : Int32))])
      refine own_st (fun t k => XS.iconst X28.here hx rfl (hb hby at_14) k) ?_
      show own_Go _ _ _ _ T28 (mkF m 15 #[.val (.int ip0), .val (.int ip1), .val (.int (4 : Int32)), .val (.ref w_NOT_SUPPORTED), .unset, .unset, .unset] [(.int (2 : Int32)), (.int (4 : Int32))])
      refine own_st (fun t k => XS.icmpYes X28.here hx rfl (pc0 := 15) (pc' := 22) rfl (hb hby at_15) rfl (tlt (by decide : (2 : Int32) < (4 : Int32))).2.2.1 (by decide) (by decide) k) ?_
      show own_Go _ _ _ _ T28 (mkF m 22 #[.val (.int ip0), .val (.int ip1), .val (.int (4 : Int32)), .val (.ref w_NOT_SUPPORTED), .unset, .unset, .unset] [])
      refine own_st (fun t k => XS.iconst X28.here hx rfl (hb hby at_22) k) ?_
      show own_Go _ _ _ _ T28 (mkF m 23 #[.val (.int ip0), .val (.int ip1), .val (.int (4 : Int32)), .val (.ref w_NOT_SUPPORTED), .unset, .unset, .unset] [(.int (0 : Int32))])
      refine own_st (fun t k => XS.istore X28.here hx rfl (hb hby at_23) rfl (l' := #[.val (.int ip0), .val (.int ip1), .val (.int (4 : Int32)), .val (.ref w_NOT_SUPPORTED), .val (.int (0 : Int32)), .unset, .unset]) rfl k) ?_
      show own_Go _ _ _ _ T28 (mkF m 25 #[.val (.int ip0), .val (.int ip1), .val (.int (4 : Int32)), .val (.ref w_NOT_SUPPORTED), .val (.int (0 : Int32)), .unset, .unset] [])
      refine own_st (fun t k => XS.aloadN X28.here hx rfl (hb hby at_25) rfl rfl k) ?_
      show own_Go _ _ _ _ T28 (mkF m 26 #[.val (.int ip0), .val (.int ip1), .val (.int (4 : Int32)), .val (.ref w_NOT_SUPPORTED), .val (.int (0 : Int32)), .unset, .unset] [(.ref w_NOT_SUPPORTED)])
      obtain ⟨cq29, kq29, q29a, q29b, q29c⟩ := isOf hZ e28 E_w_NOT_SUPPORTED
      obtain ⟨_, _, ⟨T29, L29, k29, n29⟩, -, X29, ⟨Lc29, hQ29, l29, y29, z29⟩, st29⟩ := X28.virtualBack hx (y := (⟨"com/example/gird/gird/core/Attribute", "alwaysRunsInTransaction", "()Z"⟩ : MethodName)) (z := (⟨"com/example/gird/gird/core/Attribute", "alwaysRunsInTransaction", "()Z"⟩ : MethodName)) hown (mvT hZ (own_w hw 8 rfl)) (mvT hZ (own_w hw 9 rfl)) (notFace_of_selects (args := #[]) (mvT hZ (own_w hw 11 rfl))) (mvT hZ (own_w hw 11 rfl)) (mvT hZ (own_w hw 10 rfl)) (by decide) (backOf (W := 0) (own_rm2 l Z a0 hw [] w_NOT_SUPPORTED w_NONE w_NONE w_NONE h0 n0 Z0 F_withoutCallerTransaction_w_NOT_SUPPORTED S_NONE F_withCallerTransaction_w_NOT_SUPPORTED) hZ (own_w hw 12 rfl) (own_w hw 6 rfl) (by decide) (by decide)) q29a q29c (g := (mkF m 26 #[.val (.int ip0), .val (.int ip1), .val (.int (4 : Int32)), .val (.ref w_NOT_SUPPORTED), .val (.int (0 : Int32)), .unset, .unset] [(.ref w_NOT_SUPPORTED)])) rfl (by rw [hml]; rfl) (Steps.refl _) (argsL := []) (rest := []) (lenOf own_pd1 rfl) rfl (by show 2 * 0 + _ ≤ _; exact Nat.le_of_eq rfl) (hb hby at_26) (fun _ _ => ⟨rfl, e28, (by decide : 0 + 0 ≤ _), (by decide : 0 + 0 ≤ _)⟩)
      dsimp only [Pt.U, Pt.locs, Pt.cells, Pt.slots] at X29 l29 y29 z29 st29 hQ29
      subst l29 y29 z29
      obtain ⟨N29q, e29, hL29⟩ := hQ29
      have N29 := Fr.app N28 N29q
      rcases hL29 with ⟨rfl, hq29_0_0, -⟩ | ⟨rfl, hq29_1_0, hq29_1_1, -⟩ | ⟨rfl, hq29_2_0, hq29_2_1, -⟩
      · skip
        refine own_st (fun t k => st29.trans k) ?_
        show own_Go _ _ _ _ T29 (mkF m 29 #[.val (.int ip0), .val (.int ip1), .val (.int (4 : Int32)), .val (.ref w_NOT_SUPPORTED), .val (.int (0 : Int32)), .unset, .unset] [(.int (0 : Int32))])
        refine own_st (fun t k => XS.istore X29.here hx rfl (hb hby at_29) rfl (l' := #[.val (.int ip0), .val (.int ip1), .val (.int (4 : Int32)), .val (.ref w_NOT_SUPPORTED), .val (.int (0 : Int32)), .val (.int (0 : Int32)), .unset]) rfl k) ?_
        show own_Go _ _ _ _ T29 (mkF m 31 #[.val (.int ip0), .val (.int ip1), .val (.int (4 : Int32)), .val (.ref w_NOT_SUPPORTED), .val (.int (0 : Int32)), .val (.int (0 : Int32)), .unset] [])
        refine own_st (fun t k => XS.aloadN X29.here hx rfl (hb hby at_31) rfl rfl k) ?_
        show own_Go _ _ _ _ T29 (mkF m 32 #[.val (.int ip0), .val (.int ip1), .val (.int (4 : Int32)), .val (.ref w_NOT_SUPPORTED), .val (.int (0 : Int32)), .val (.int (0 : Int32)), .unset] [(.ref w_NOT_SUPPORTED)])
        refine own_st (fun t k => XS.iloadN X29.here hx rfl (hb hby at_32) rfl k) ?_
        show own_Go _ _ _ _ T29 (mkF m 33 #[.val (.int ip0), .val (.int ip1), .val (.int (4 : Int32)), .val (.ref w_NOT_SUPPORTED), .val (.int (0 : Int32)), .val (.int (0 : Int32)), .unset] [(.int ip1), (.ref w_NOT_SUPPORTED)])
        refine own_st (fun t k => XS.iconst X29.here hx rfl (hb hby at_33) k) ?_
        show own_Go _ _ _ _ T29 (mkF m 34 #[.val (.int ip0), .val (.int ip1), .val (.int (4 : Int32)), .val (.ref w_NOT_SUPPORTED), .val (.int (0 : Int32)), .val (.int (0 : Int32)), .unset] [(.int (1 : Int32)), (.int ip1), (.ref w_NOT_SUPPORTED)])
        refine own_st (fun t k => XS.iand X29.here hx rfl (hb hby at_34) rfl k) ?_
        show own_Go _ _ _ _ T29 (mkF m 35 #[.val (.int ip0), .val (.int ip1), .val (.int (4 : Int32)), .val (.ref w_NOT_SUPPORTED), .val (.int (0 : Int32)), .val (.int (0 : Int32)), .unset] [(.int (ip1 &&& (1 : Int32))), (.ref w_NOT_SUPPORTED)])
        by_cases hc30 : (ip1 &&& (1 : Int32)) = (0 : Int32)
        · skip
          refine own_st (fun t k => XS.ifYes X29.here hx rfl (pc0 := 35) (pc' := 42) rfl (hb hby at_35) rfl ((if0 _ _).trans (teq hc30).1) (by decide) (by decide) k) ?_
          show own_Go _ _ _ _ T29 (mkF m 42 #[.val (.int ip0), .val (.int ip1), .val (.int (4 : Int32)), .val (.ref w_NOT_SUPPORTED), .val (.int (0 : Int32)), .val (.int (0 : Int32)), .unset] [(.ref w_NOT_SUPPORTED)])
          refine own_st (fun t k => XS.iconst X29.here hx rfl (hb hby at_42) k) ?_
          show own_Go _ _ _ _ T29 (mkF m 43 #[.val (.int ip0), .val (.int ip1), .val (.int (4 : Int32)), .val (.ref w_NOT_SUPPORTED), .val (.int (0 : Int32)), .val (.int (0 : Int32)), .unset] [(.int (0 : Int32)), (.ref w_NOT_SUPPORTED)])
          obtain ⟨cq31, kq31, q31a, q31b, q31c⟩ := isOf hZ e29 E_w_NOT_SUPPORTED
          obtain ⟨_, _, ⟨T31, L31, k31, n31⟩, -, X31, ⟨Lc31, hQ31, l31, y31, z31⟩, st31⟩ := X29.virtualBack hx (y := (⟨"com/example/gird/gird/core/Attribute", "demarcation", "(Z)Lcom/example/gird/gird/core/Demarcation;"⟩ : MethodName)) (z := (⟨"com/example/gird/gird/core/Attribute", "demarcation", "(Z)Lcom/example/gird/gird/core/Demarcation;"⟩ : MethodName)) hown (mvT hZ (own_w hw 22 rfl)) (mvT hZ (own_w hw 23 rfl)) (notFace_of_selects (args := #[]) (mvT hZ (own_w hw 25 rfl))) (mvT hZ (own_w hw 25 rfl)) (mvT hZ (own_w hw 24 rfl)) (by decide) (backOf (W := 0) (own_rm3 l Z a0 hw [] w_NOT_SUPPORTED (0 : Int32) w_NONE w_NONE h0 n0 Z0 F_withoutCallerTransaction_w_NOT_SUPPORTED F_withCallerTransaction_w_NOT_SUPPORTED) hZ (own_w hw 26 rfl) (own_w hw 6 rfl) (by decide) (by decide)) q31a q31c (g := (mkF m 43 #[.val (.int ip0), .val (.int ip1), .val (.int (4 : Int32)), .val (.ref w_NOT_SUPPORTED), .val (.int (0 : Int32)), .val (.int (0 : Int32)), .unset] [(.int (0 : Int32)), (.ref w_NOT_SUPPORTED)])) rfl (by rw [hml]; rfl) (Steps.refl _) (argsL := [(.int (0 : Int32))]) (rest := []) (lenOf own_pd2 rfl) rfl (by show 2 * 0 + _ ≤ _; exact Nat.le_of_eq rfl) (hb hby at_43) (fun _ _ => ⟨rfl, e29, (by decide : 0 + 0 ≤ _), (by decide : 0 + 0 ≤ _)⟩)
          dsimp only [Pt.U, Pt.locs, Pt.cells, Pt.slots] at X31 l31 y31 z31 st31 hQ31
          subst l31 y31 z31
          obtain ⟨N31q, e31, hL31⟩ := hQ31
          have N31 := Fr.app N29 N31q
          rcases hL31 with ⟨rfl, hq31_0_0, -⟩ | ⟨rfl, hq31_1_0, -⟩
          · skip
            refine own_st (fun t k => st31.trans k) ?_
            show own_Go _ _ _ _ T31 (mkF m 46 #[.val (.int ip0), .val (.int ip1), .val (.int (4 : Int32)), .val (.ref w_NOT_SUPPORTED), .val (.int (0 : Int32)), .val (.int (0 : Int32)), .unset] [(.ref w_NONE)])
            refine own_st (fun t k => XS.astore X31.here hx rfl (hb hby at_46) rfl rfl (l' := #[.val (.int ip0), .val (.int ip1), .val (.int (4 : Int32)), .val (.ref w_NOT_SUPPORTED), .val (.int (0 : Int32)), .val (.int (0 : Int32)), .val (.ref w_NONE)]) rfl k) ?_
            show own_Go _ _ _ _ T31 (mkF m 48 #[.val (.int ip0), .val (.int ip1), .val (.int (4 : Int32)), .val (.ref w_NOT_SUPPORTED), .val (.int (0 : Int32)), .val (.int (0 : Int32)), .val (.ref w_NONE)] [])
            refine own_st (fun t k => XS.iload X31.here hx rfl (hb hby at_48) rfl k) ?_
            show own_Go _ _ _ _ T31 (mkF m 50 #[.val (.int ip0), .val (.int ip1), .val (.int (4 : Int32)), .val (.ref w_NOT_SUPPORTED), .val (.int (0 : Int32)), .val (.int (0 : Int32)), .val (.ref w_NONE)] [(.int (0 : Int32))])
            refine own_st (fun t k => XS.iload X31.here hx rfl (hb hby at_50) rfl k) ?_
            show own_Go _ _ _ _ T31 (mkF m 52 #[.val (.int ip0), .val (.int ip1), .val (.int (4 : Int32)), .val (.ref w_NOT_SUPPORTED), .val (.int (0 : Int32)), .val (.int (0 : Int32)), .val (.ref w_NONE)] [(.int (0 : Int32)), (.int (0 : Int32))])
            refine own_st (fun t k => XS.icmpNo X31.here hx rfl (hb hby at_52) rfl (teq hq31_0_0).2 k) ?_
            show own_Go _ _ _ _ T31 (mkF m 55 #[.val (.int ip0), .val (.int ip1), .val (.int (4 : Int32)), .val (.ref w_NOT_SUPPORTED), .val (.int (0 : Int32)), .val (.int (0 : Int32)), .val (.ref w_NONE)] [])
            refine own_st (fun t k => XS.iload X31.here hx rfl (hb hby at_55) rfl k) ?_
            show own_Go _ _ _ _ T31 (mkF m 57 #[.val (.int ip0), .val (.int ip1), .val (.int (4 : Int32)), .val (.ref w_NOT_SUPPORTED), .val (.int (0 : Int32)), .val (.int (0 : Int32)), .val (.ref w_NONE)] [(.int (0 : Int32))])
            refine own_st (fun t k => XS.ifYes X31.here hx rfl (pc0 := 57) (pc' := 68) rfl (hb hby at_57) rfl ((if0 _ _).trans (teq hq31_0_0).1) (by decide) (by decide) k) ?_
            show own_Go _ _ _ _ T31 (mkF m 68 #[.val (.int ip0), .val (.int ip1), .val (.int (4 : Int32)), .val (.ref w_NOT_SUPPORTED), .val (.int (0 : Int32)), .val (.int (0 : Int32)), .val (.ref w_NONE)] [])
            refine own_st (fun t k => XS.iconst X31.here hx rfl (hb hby at_68) k) ?_
            show own_Go _ _ _ _ T31 (mkF m 69 #[.val (.int ip0), .val (.int ip1), .val (.int (4 : Int32)), .val (.ref w_NOT_SUPPORTED), .val (.int (0 : Int32)), .val (.int (0 : Int32)), .val (.ref w_NONE)] [(.int (1 : Int32))])
            refine own_st (fun t k => XS.goto X31.here hx rfl (pc0 := 69) (pc' := 73) rfl (hb hby at_69) (by decide) (by decide) k) ?_
            show own_Go _ _ _ _ T31 (mkF m 73 #[.val (.int ip0), .val (.int ip1), .val (.int (4 : Int32)), .val (.ref w_NOT_SUPPORTED), .val (.int (0 : Int32)), .val (.int (0 : Int32)), .val (.ref w_NONE)] [(.int (1 : Int32))])
            exact own_retZ X31 hx hlk (t := .boolean) hret (by simp) (hb hby at_73) (by decide) (by decide) e31 ⟨rfl, N31⟩
          · skip
            exact absurd (by decide : (0 : Int32) = (0 : Int32)) hq31_1_0
        · skip
          refine own_st (fun t k => XS.ifNo X29.here hx rfl (hb hby at_35) rfl ((if0 _ _).trans (feq hc30).1) k) ?_
          show own_Go _ _ _ _ T29 (mkF m 38 #[.val (.int ip0), .val (.int ip1), .val (.int (4 : Int32)), .val (.ref w_NOT_SUPPORTED), .val (.int (0 : Int32)), .val (.int (0 : Int32)), .unset] [(.ref w_NOT_SUPPORTED)])
          refine own_st (fun t k => XS.iconst X29.here hx rfl (hb hby at_38) k) ?_
          show own_Go _ _ _ _ T29 (mkF m 39 #[.val (.int ip0), .val (.int ip1), .val (.int (4 : Int32)), .val (.ref w_NOT_SUPPORTED), .val (.int (0 : Int32)), .val (.int (0 : Int32)), .unset] [(.int (1 : Int32)), (.ref w_NOT_SUPPORTED)])
          refine own_st (fun t k => XS.goto X29.here hx rfl (pc0 := 39) (pc' := 43) rfl (hb hby at_39) (by decide) (by decide) k) ?_
          show own_Go _ _ _ _ T29 (mkF m 43 #[.val (.int ip0), .val (.int ip1), .val (.int (4 : Int32)), .val (.ref w_NOT_SUPPORTED), .val (.int (0 : Int32)), .val (.int (0 : Int32)), .unset] [(.int (1 : Int32)), (.ref w_NOT_SUPPORTED)])
          obtain ⟨cq32, kq32, q32a, q32b, q32c⟩ := isOf hZ e29 E_w_NOT_SUPPORTED
          obtain ⟨_, _, ⟨T32, L32, k32, n32⟩, -, X32, ⟨Lc32, hQ32, l32, y32, z32⟩, st32⟩ := X29.virtualBack hx (y := (⟨"com/example/gird/gird/core/Attribute", "demarcation", "(Z)Lcom/example/gird/gird/core/Demarcation;"⟩ : MethodName)) (z := (⟨"com/example/gird/gird/core/Attribute", "demarcation", "(Z)Lcom/example/gird/gird/core/Demarcation;"⟩ : MethodName)) hown (mvT hZ (own_w hw 22 rfl)) (mvT hZ (own_w hw 23 rfl)) (notFace_of_selects (args := #[]) (mvT hZ (own_w hw 25 rfl))) (mvT hZ (own_w hw 25 rfl)) (mvT hZ (own_w hw 24 rfl)) (by decide) (backOf (W := 0) (own_rm3 l Z a0 hw [] w_NOT_SUPPORTED (1 : Int32) w_NONE w_NONE h0 n0 Z0 F_withoutCallerTransaction_w_NOT_SUPPORTED F_withCallerTransaction_w_NOT_SUPPORTED) hZ (own_w hw 26 rfl) (own_w hw 6 rfl) (by decide) (by decide)) q32a q32c (g := (mkF m 43 #[.val (.int ip0), .val (.int ip1), .val (.int (4 : Int32)), .val (.ref w_NOT_SUPPORTED), .val (.int (0 : Int32)), .val (.int (0 : Int32)), .unset] [(.int (1 : Int32)), (.ref w_NOT_SUPPORTED)])) rfl (by rw [hml]; rfl) (Steps.refl _) (argsL := [(.int (1 : Int32))]) (rest := []) (lenOf own_pd2 rfl) rfl (by show 2 * 0 + _ ≤ _; exact Nat.le_of_eq rfl) (hb hby at_43) (fun _ _ => ⟨rfl, e29, (by decide : 0 + 0 ≤ _), (by decide : 0 + 0 ≤ _)⟩)
          dsimp only [Pt.U, Pt.locs, Pt.cells, Pt.slots] at X32 l32 y32 z32 st32 hQ32
          subst l32 y32 z32
          obtain ⟨N32q, e32, hL32⟩ := hQ32
          have N32 := Fr.app N29 N32q
          rcases hL32 with ⟨rfl, hq32_0_0, -⟩ | ⟨rfl, hq32_1_0, -⟩
          · skip
            exact absurd hq32_0_0 (by decide : ¬ ((1 : Int32) = (0 : Int32)))
          · skip
            refine own_st (fun t k => st32.trans k) ?_
            show own_Go _ _ _ _ T32 (mkF m 46 #[.val (.int ip0), .val (.int ip1), .val (.int (4 : Int32)), .val (.ref w_NOT_SUPPORTED), .val (.int (0 : Int32)), .val (.int (0 : Int32)), .unset] [(.ref w_NONE)])
            refine own_st (fun t k => XS.astore X32.here hx rfl (hb hby at_46) rfl rfl (l' := #[.val (.int ip0), .val (.int ip1), .val (.int (4 : Int32)), .val (.ref w_NOT_SUPPORTED), .val (.int (0 : Int32)), .val (.int (0 : Int32)), .val (.ref w_NONE)]) rfl k) ?_
            show own_Go _ _ _ _ T32 (mkF m 48 #[.val (.int ip0), .val (.int ip1), .val (.int (4 : Int32)), .val (.ref w_NOT_SUPPORTED), .val (.int (0 : Int32)), .val (.int (0 : Int32)), .val (.ref w_NONE)] [])
            refine own_st (fun t k => XS.iload X32.here hx rfl (hb hby at_48) rfl k) ?_
            show own_Go _ _ _ _ T32 (mkF m 50 #[.val (.int ip0), .val (.int ip1), .val (.int (4 : Int32)), .val (.ref w_NOT_SUPPORTED), .val (.int (0 : Int32)), .val (.int (0 : Int32)), .val (.ref w_NONE)] [(.int (0 : Int32))])
            refine own_st (fun t k => XS.iload X32.here hx rfl (hb hby at_50) rfl k) ?_
            show own_Go _ _ _ _ T32 (mkF m 52 #[.val (.int ip0), .val (.int ip1), .val (.int (4 : Int32)), .val (.ref w_NOT_SUPPORTED), .val (.int (0 : Int32)), .val (.int (0 : Int32)), .val (.ref w_NONE)] [(.int (0 : Int32)), (.int (0 : Int32))])
            refine own_st (fun t k => XS.icmpNo X32.here hx rfl (hb hby at_52) rfl (teq (by decide : (0 : Int32) = (0 : Int32))).2 k) ?_
            show own_Go _ _ _ _ T32 (mkF m 55 #[.val (.int ip0), .val (.int ip1), .val (.int (4 : Int32)), .val (.ref w_NOT_SUPPORTED), .val (.int (0 : Int32)), .val (.int (0 : Int32)), .val (.ref w_NONE)] [])
            refine own_st (fun t k => XS.iload X32.here hx rfl (hb hby at_55) rfl k) ?_
            show own_Go _ _ _ _ T32 (mkF m 57 #[.val (.int ip0), .val (.int ip1), .val (.int (4 : Int32)), .val (.ref w_NOT_SUPPORTED), .val (.int (0 : Int32)), .val (.int (0 : Int32)), .val (.ref w_NONE)] [(.int (0 : Int32))])
            refine own_st (fun t k => XS.ifYes X32.here hx rfl (pc0 := 57) (pc' := 68) rfl (hb hby at_57) rfl ((if0 _ _).trans (teq (by decide : (0 : Int32) = (0 : Int32))).1) (by decide) (by decide) k) ?_
            show own_Go _ _ _ _ T32 (mkF m 68 #[.val (.int ip0), .val (.int ip1), .val (.int (4 : Int32)), .val (.ref w_NOT_SUPPORTED), .val (.int (0 : Int32)), .val (.int (0 : Int32)), .val (.ref w_NONE)] [])
            refine own_st (fun t k => XS.iconst X32.here hx rfl (hb hby at_68) k) ?_
            show own_Go _ _ _ _ T32 (mkF m 69 #[.val (.int ip0), .val (.int ip1), .val (.int (4 : Int32)), .val (.ref w_NOT_SUPPORTED), .val (.int (0 : Int32)), .val (.int (0 : Int32)), .val (.ref w_NONE)] [(.int (1 : Int32))])
            refine own_st (fun t k => XS.goto X32.here hx rfl (pc0 := 69) (pc' := 73) rfl (hb hby at_69) (by decide) (by decide) k) ?_
            show own_Go _ _ _ _ T32 (mkF m 73 #[.val (.int ip0), .val (.int ip1), .val (.int (4 : Int32)), .val (.ref w_NOT_SUPPORTED), .val (.int (0 : Int32)), .val (.int (0 : Int32)), .val (.ref w_NONE)] [(.int (1 : Int32))])
            exact own_retZ X32 hx hlk (t := .boolean) hret (by simp) (hb hby at_73) (by decide) (by decide) e32 ⟨rfl, N32⟩
      · skip
        exact absurd (rfl : w_NONE = w_NONE) hq29_1_0
      · skip
        exact absurd (rfl : w_NONE = w_NONE) hq29_2_0
    · skip
      exact absurd (by decide : (4 : Int32) = (4 : Int32)) hq28_5_4
  · rw [qr1]
    show own_Go _ _ _ _ s₁ (mkF m 7 #[.val (.int ip0), .val (.int ip1), .unset, .unset, .unset, .unset, .unset] [(.int (5 : Int32))])
    refine own_st (fun t k => XS.istoreN X0.here hx rfl (hb hby at_7) rfl (l' := #[.val (.int ip0), .val (.int ip1), .val (.int (5 : Int32)), .unset, .unset, .unset, .unset]) rfl k) ?_
    show own_Go _ _ _ _ s₁ (mkF m 8 #[.val (.int ip0), .val (.int ip1), .val (.int (5 : Int32)), .unset, .unset, .unset, .unset] [])
    refine own_st (fun t k => XS.iloadN X0.here hx rfl (hb hby at_8) rfl k) ?_
    show own_Go _ _ _ _ s₁ (mkF m 9 #[.val (.int ip0), .val (.int ip1), .val (.int (5 : Int32)), .unset, .unset, .unset, .unset] [(.int (5 : Int32))])
    obtain ⟨_, _, ⟨T33, L33, k33, n33⟩, -, X33, ⟨Lc33, hQ33, l33, y33, z33⟩, st33⟩ := Jvm.LawKit.callS X0 hx (y := (⟨"com/example/gird/gird/core/AttributeAlwaysRunsInTransactionPinLaw", "pick", "(I)Lcom/example/gird/gird/core/Attribute;"⟩ : MethodName)) hown (mvT hZ (own_w hw 1 rfl)) (mvT hZ (own_w hw 2 rfl)) (mvT hZ (own_w hw 3 rfl)) (mvT hZ (own_w hw 4 rfl)) (by decide) (backOf (W := 0) (own_rm1 l Z a0 hw [] (5 : Int32) w_MANDATORY w_REQUIRED w_REQUIRES_NEW w_SUPPORTS w_NOT_SUPPORTED w_NEVER h0 n0 Z0 S_MANDATORY S_REQUIRED S_REQUIRES_NEW S_SUPPORTS S_NOT_SUPPORTED S_NEVER) hZ (own_w hw 4 rfl) (own_w hw 3 rfl) (by decide) (by decide)) (g := (mkF m 9 #[.val (.int ip0), .val (.int ip1), .val (.int (5 : Int32)), .unset, .unset, .unset, .unset] [(.int (5 : Int32))])) rfl (by rw [hml]; rfl) (argsL := [(.int (5 : Int32))]) (rest := []) (lenOf own_pd0 rfl) rfl (by show 2 * 0 + _ ≤ _; exact Nat.le_of_eq rfl) (hb hby at_9) (fun _ _ => ⟨rfl, e0, (by decide : 0 + 0 ≤ _), (by decide : 0 + 0 ≤ _)⟩)
    dsimp only [Pt.U, Pt.locs, Pt.cells, Pt.slots] at X33 l33 y33 z33 st33 hQ33
    subst l33 y33 z33
    obtain ⟨N33q, e33, hL33⟩ := hQ33
    have N33 := Fr.app N0 N33q
    rcases hL33 with ⟨rfl, hq33_0_0, -⟩ | ⟨rfl, hq33_1_0, hq33_1_1, -⟩ | ⟨rfl, hq33_2_0, hq33_2_1, hq33_2_2, -⟩ | ⟨rfl, hq33_3_0, hq33_3_1, hq33_3_2, hq33_3_3, -⟩ | ⟨rfl, hq33_4_0, hq33_4_1, hq33_4_2, hq33_4_3, hq33_4_4, -⟩ | ⟨rfl, hq33_5_0, hq33_5_1, hq33_5_2, hq33_5_3, hq33_5_4, -⟩
    · skip
      exact absurd hq33_0_0 (by decide : ¬ ((5 : Int32) = (0 : Int32)))
    · skip
      exact absurd hq33_1_1 (by decide : ¬ ((5 : Int32) = (1 : Int32)))
    · skip
      exact absurd hq33_2_2 (by decide : ¬ ((5 : Int32) = (2 : Int32)))
    · skip
      exact absurd hq33_3_3 (by decide : ¬ ((5 : Int32) = (3 : Int32)))
    · skip
      exact absurd hq33_4_4 (by decide : ¬ ((5 : Int32) = (4 : Int32)))
    · skip
      refine own_st st33 ?_
      show own_Go _ _ _ _ T33 (mkF m 12 #[.val (.int ip0), .val (.int ip1), .val (.int (5 : Int32)), .unset, .unset, .unset, .unset] [(.ref w_NEVER)])
      refine own_st (fun t k => XS.astoreN X33.here hx rfl (hb hby at_12) rfl rfl (l' := #[.val (.int ip0), .val (.int ip1), .val (.int (5 : Int32)), .val (.ref w_NEVER), .unset, .unset, .unset]) rfl k) ?_
      show own_Go _ _ _ _ T33 (mkF m 13 #[.val (.int ip0), .val (.int ip1), .val (.int (5 : Int32)), .val (.ref w_NEVER), .unset, .unset, .unset] [])
      refine own_st (fun t k => XS.iloadN X33.here hx rfl (hb hby at_13) rfl k) ?_
      show own_Go _ _ _ _ T33 (mkF m 14 #[.val (.int ip0), .val (.int ip1), .val (.int (5 : Int32)), .val (.ref w_NEVER), .unset, .unset, .unset] [(.int (5 : Int32))])
      refine own_st (fun t k => XS.iconst X33.here hx rfl (hb hby at_14) k) ?_
      show own_Go _ _ _ _ T33 (mkF m 15 #[.val (.int ip0), .val (.int ip1), .val (.int (5 : Int32)), .val (.ref w_NEVER), .unset, .unset, .unset] [(.int (2 : Int32)), (.int (5 : Int32))])
      refine own_st (fun t k => XS.icmpYes X33.here hx rfl (pc0 := 15) (pc' := 22) rfl (hb hby at_15) rfl (tlt (by decide : (2 : Int32) < (5 : Int32))).2.2.1 (by decide) (by decide) k) ?_
      show own_Go _ _ _ _ T33 (mkF m 22 #[.val (.int ip0), .val (.int ip1), .val (.int (5 : Int32)), .val (.ref w_NEVER), .unset, .unset, .unset] [])
      refine own_st (fun t k => XS.iconst X33.here hx rfl (hb hby at_22) k) ?_
      show own_Go _ _ _ _ T33 (mkF m 23 #[.val (.int ip0), .val (.int ip1), .val (.int (5 : Int32)), .val (.ref w_NEVER), .unset, .unset, .unset] [(.int (0 : Int32))])
      refine own_st (fun t k => XS.istore X33.here hx rfl (hb hby at_23) rfl (l' := #[.val (.int ip0), .val (.int ip1), .val (.int (5 : Int32)), .val (.ref w_NEVER), .val (.int (0 : Int32)), .unset, .unset]) rfl k) ?_
      show own_Go _ _ _ _ T33 (mkF m 25 #[.val (.int ip0), .val (.int ip1), .val (.int (5 : Int32)), .val (.ref w_NEVER), .val (.int (0 : Int32)), .unset, .unset] [])
      refine own_st (fun t k => XS.aloadN X33.here hx rfl (hb hby at_25) rfl rfl k) ?_
      show own_Go _ _ _ _ T33 (mkF m 26 #[.val (.int ip0), .val (.int ip1), .val (.int (5 : Int32)), .val (.ref w_NEVER), .val (.int (0 : Int32)), .unset, .unset] [(.ref w_NEVER)])
      obtain ⟨cq34, kq34, q34a, q34b, q34c⟩ := isOf hZ e33 E_w_NEVER
      obtain ⟨_, _, ⟨T34, L34, k34, n34⟩, -, X34, ⟨Lc34, hQ34, l34, y34, z34⟩, st34⟩ := X33.virtualBack hx (y := (⟨"com/example/gird/gird/core/Attribute", "alwaysRunsInTransaction", "()Z"⟩ : MethodName)) (z := (⟨"com/example/gird/gird/core/Attribute", "alwaysRunsInTransaction", "()Z"⟩ : MethodName)) hown (mvT hZ (own_w hw 8 rfl)) (mvT hZ (own_w hw 9 rfl)) (notFace_of_selects (args := #[]) (mvT hZ (own_w hw 11 rfl))) (mvT hZ (own_w hw 11 rfl)) (mvT hZ (own_w hw 10 rfl)) (by decide) (backOf (W := 0) (own_rm2 l Z a0 hw [] w_NEVER w_NONE w_NONE w_REFUSE_PRESENT h0 n0 Z0 F_withoutCallerTransaction_w_NEVER S_NONE F_withCallerTransaction_w_NEVER) hZ (own_w hw 12 rfl) (own_w hw 6 rfl) (by decide) (by decide)) q34a q34c (g := (mkF m 26 #[.val (.int ip0), .val (.int ip1), .val (.int (5 : Int32)), .val (.ref w_NEVER), .val (.int (0 : Int32)), .unset, .unset] [(.ref w_NEVER)])) rfl (by rw [hml]; rfl) (Steps.refl _) (argsL := []) (rest := []) (lenOf own_pd1 rfl) rfl (by show 2 * 0 + _ ≤ _; exact Nat.le_of_eq rfl) (hb hby at_26) (fun _ _ => ⟨rfl, e33, (by decide : 0 + 0 ≤ _), (by decide : 0 + 0 ≤ _)⟩)
      dsimp only [Pt.U, Pt.locs, Pt.cells, Pt.slots] at X34 l34 y34 z34 st34 hQ34
      subst l34 y34 z34
      obtain ⟨N34q, e34, hL34⟩ := hQ34
      have N34 := Fr.app N33 N34q
      rcases hL34 with ⟨rfl, hq34_0_0, -⟩ | ⟨rfl, hq34_1_0, hq34_1_1, -⟩ | ⟨rfl, hq34_2_0, hq34_2_1, -⟩
      · skip
        refine own_st (fun t k => st34.trans k) ?_
        show own_Go _ _ _ _ T34 (mkF m 29 #[.val (.int ip0), .val (.int ip1), .val (.int (5 : Int32)), .val (.ref w_NEVER), .val (.int (0 : Int32)), .unset, .unset] [(.int (0 : Int32))])
        refine own_st (fun t k => XS.istore X34.here hx rfl (hb hby at_29) rfl (l' := #[.val (.int ip0), .val (.int ip1), .val (.int (5 : Int32)), .val (.ref w_NEVER), .val (.int (0 : Int32)), .val (.int (0 : Int32)), .unset]) rfl k) ?_
        show own_Go _ _ _ _ T34 (mkF m 31 #[.val (.int ip0), .val (.int ip1), .val (.int (5 : Int32)), .val (.ref w_NEVER), .val (.int (0 : Int32)), .val (.int (0 : Int32)), .unset] [])
        refine own_st (fun t k => XS.aloadN X34.here hx rfl (hb hby at_31) rfl rfl k) ?_
        show own_Go _ _ _ _ T34 (mkF m 32 #[.val (.int ip0), .val (.int ip1), .val (.int (5 : Int32)), .val (.ref w_NEVER), .val (.int (0 : Int32)), .val (.int (0 : Int32)), .unset] [(.ref w_NEVER)])
        refine own_st (fun t k => XS.iloadN X34.here hx rfl (hb hby at_32) rfl k) ?_
        show own_Go _ _ _ _ T34 (mkF m 33 #[.val (.int ip0), .val (.int ip1), .val (.int (5 : Int32)), .val (.ref w_NEVER), .val (.int (0 : Int32)), .val (.int (0 : Int32)), .unset] [(.int ip1), (.ref w_NEVER)])
        refine own_st (fun t k => XS.iconst X34.here hx rfl (hb hby at_33) k) ?_
        show own_Go _ _ _ _ T34 (mkF m 34 #[.val (.int ip0), .val (.int ip1), .val (.int (5 : Int32)), .val (.ref w_NEVER), .val (.int (0 : Int32)), .val (.int (0 : Int32)), .unset] [(.int (1 : Int32)), (.int ip1), (.ref w_NEVER)])
        refine own_st (fun t k => XS.iand X34.here hx rfl (hb hby at_34) rfl k) ?_
        show own_Go _ _ _ _ T34 (mkF m 35 #[.val (.int ip0), .val (.int ip1), .val (.int (5 : Int32)), .val (.ref w_NEVER), .val (.int (0 : Int32)), .val (.int (0 : Int32)), .unset] [(.int (ip1 &&& (1 : Int32))), (.ref w_NEVER)])
        by_cases hc35 : (ip1 &&& (1 : Int32)) = (0 : Int32)
        · skip
          refine own_st (fun t k => XS.ifYes X34.here hx rfl (pc0 := 35) (pc' := 42) rfl (hb hby at_35) rfl ((if0 _ _).trans (teq hc35).1) (by decide) (by decide) k) ?_
          show own_Go _ _ _ _ T34 (mkF m 42 #[.val (.int ip0), .val (.int ip1), .val (.int (5 : Int32)), .val (.ref w_NEVER), .val (.int (0 : Int32)), .val (.int (0 : Int32)), .unset] [(.ref w_NEVER)])
          refine own_st (fun t k => XS.iconst X34.here hx rfl (hb hby at_42) k) ?_
          show own_Go _ _ _ _ T34 (mkF m 43 #[.val (.int ip0), .val (.int ip1), .val (.int (5 : Int32)), .val (.ref w_NEVER), .val (.int (0 : Int32)), .val (.int (0 : Int32)), .unset] [(.int (0 : Int32)), (.ref w_NEVER)])
          obtain ⟨cq36, kq36, q36a, q36b, q36c⟩ := isOf hZ e34 E_w_NEVER
          obtain ⟨_, _, ⟨T36, L36, k36, n36⟩, -, X36, ⟨Lc36, hQ36, l36, y36, z36⟩, st36⟩ := X34.virtualBack hx (y := (⟨"com/example/gird/gird/core/Attribute", "demarcation", "(Z)Lcom/example/gird/gird/core/Demarcation;"⟩ : MethodName)) (z := (⟨"com/example/gird/gird/core/Attribute", "demarcation", "(Z)Lcom/example/gird/gird/core/Demarcation;"⟩ : MethodName)) hown (mvT hZ (own_w hw 22 rfl)) (mvT hZ (own_w hw 23 rfl)) (notFace_of_selects (args := #[]) (mvT hZ (own_w hw 25 rfl))) (mvT hZ (own_w hw 25 rfl)) (mvT hZ (own_w hw 24 rfl)) (by decide) (backOf (W := 0) (own_rm3 l Z a0 hw [] w_NEVER (0 : Int32) w_NONE w_REFUSE_PRESENT h0 n0 Z0 F_withoutCallerTransaction_w_NEVER F_withCallerTransaction_w_NEVER) hZ (own_w hw 26 rfl) (own_w hw 6 rfl) (by decide) (by decide)) q36a q36c (g := (mkF m 43 #[.val (.int ip0), .val (.int ip1), .val (.int (5 : Int32)), .val (.ref w_NEVER), .val (.int (0 : Int32)), .val (.int (0 : Int32)), .unset] [(.int (0 : Int32)), (.ref w_NEVER)])) rfl (by rw [hml]; rfl) (Steps.refl _) (argsL := [(.int (0 : Int32))]) (rest := []) (lenOf own_pd2 rfl) rfl (by show 2 * 0 + _ ≤ _; exact Nat.le_of_eq rfl) (hb hby at_43) (fun _ _ => ⟨rfl, e34, (by decide : 0 + 0 ≤ _), (by decide : 0 + 0 ≤ _)⟩)
          dsimp only [Pt.U, Pt.locs, Pt.cells, Pt.slots] at X36 l36 y36 z36 st36 hQ36
          subst l36 y36 z36
          obtain ⟨N36q, e36, hL36⟩ := hQ36
          have N36 := Fr.app N34 N36q
          rcases hL36 with ⟨rfl, hq36_0_0, -⟩ | ⟨rfl, hq36_1_0, -⟩
          · skip
            refine own_st (fun t k => st36.trans k) ?_
            show own_Go _ _ _ _ T36 (mkF m 46 #[.val (.int ip0), .val (.int ip1), .val (.int (5 : Int32)), .val (.ref w_NEVER), .val (.int (0 : Int32)), .val (.int (0 : Int32)), .unset] [(.ref w_NONE)])
            refine own_st (fun t k => XS.astore X36.here hx rfl (hb hby at_46) rfl rfl (l' := #[.val (.int ip0), .val (.int ip1), .val (.int (5 : Int32)), .val (.ref w_NEVER), .val (.int (0 : Int32)), .val (.int (0 : Int32)), .val (.ref w_NONE)]) rfl k) ?_
            show own_Go _ _ _ _ T36 (mkF m 48 #[.val (.int ip0), .val (.int ip1), .val (.int (5 : Int32)), .val (.ref w_NEVER), .val (.int (0 : Int32)), .val (.int (0 : Int32)), .val (.ref w_NONE)] [])
            refine own_st (fun t k => XS.iload X36.here hx rfl (hb hby at_48) rfl k) ?_
            show own_Go _ _ _ _ T36 (mkF m 50 #[.val (.int ip0), .val (.int ip1), .val (.int (5 : Int32)), .val (.ref w_NEVER), .val (.int (0 : Int32)), .val (.int (0 : Int32)), .val (.ref w_NONE)] [(.int (0 : Int32))])
            refine own_st (fun t k => XS.iload X36.here hx rfl (hb hby at_50) rfl k) ?_
            show own_Go _ _ _ _ T36 (mkF m 52 #[.val (.int ip0), .val (.int ip1), .val (.int (5 : Int32)), .val (.ref w_NEVER), .val (.int (0 : Int32)), .val (.int (0 : Int32)), .val (.ref w_NONE)] [(.int (0 : Int32)), (.int (0 : Int32))])
            refine own_st (fun t k => XS.icmpNo X36.here hx rfl (hb hby at_52) rfl (teq hq36_0_0).2 k) ?_
            show own_Go _ _ _ _ T36 (mkF m 55 #[.val (.int ip0), .val (.int ip1), .val (.int (5 : Int32)), .val (.ref w_NEVER), .val (.int (0 : Int32)), .val (.int (0 : Int32)), .val (.ref w_NONE)] [])
            refine own_st (fun t k => XS.iload X36.here hx rfl (hb hby at_55) rfl k) ?_
            show own_Go _ _ _ _ T36 (mkF m 57 #[.val (.int ip0), .val (.int ip1), .val (.int (5 : Int32)), .val (.ref w_NEVER), .val (.int (0 : Int32)), .val (.int (0 : Int32)), .val (.ref w_NONE)] [(.int (0 : Int32))])
            refine own_st (fun t k => XS.ifYes X36.here hx rfl (pc0 := 57) (pc' := 68) rfl (hb hby at_57) rfl ((if0 _ _).trans (teq hq36_0_0).1) (by decide) (by decide) k) ?_
            show own_Go _ _ _ _ T36 (mkF m 68 #[.val (.int ip0), .val (.int ip1), .val (.int (5 : Int32)), .val (.ref w_NEVER), .val (.int (0 : Int32)), .val (.int (0 : Int32)), .val (.ref w_NONE)] [])
            refine own_st (fun t k => XS.iconst X36.here hx rfl (hb hby at_68) k) ?_
            show own_Go _ _ _ _ T36 (mkF m 69 #[.val (.int ip0), .val (.int ip1), .val (.int (5 : Int32)), .val (.ref w_NEVER), .val (.int (0 : Int32)), .val (.int (0 : Int32)), .val (.ref w_NONE)] [(.int (1 : Int32))])
            refine own_st (fun t k => XS.goto X36.here hx rfl (pc0 := 69) (pc' := 73) rfl (hb hby at_69) (by decide) (by decide) k) ?_
            show own_Go _ _ _ _ T36 (mkF m 73 #[.val (.int ip0), .val (.int ip1), .val (.int (5 : Int32)), .val (.ref w_NEVER), .val (.int (0 : Int32)), .val (.int (0 : Int32)), .val (.ref w_NONE)] [(.int (1 : Int32))])
            exact own_retZ X36 hx hlk (t := .boolean) hret (by simp) (hb hby at_73) (by decide) (by decide) e36 ⟨rfl, N36⟩
          · skip
            exact absurd (by decide : (0 : Int32) = (0 : Int32)) hq36_1_0
        · skip
          refine own_st (fun t k => XS.ifNo X34.here hx rfl (hb hby at_35) rfl ((if0 _ _).trans (feq hc35).1) k) ?_
          show own_Go _ _ _ _ T34 (mkF m 38 #[.val (.int ip0), .val (.int ip1), .val (.int (5 : Int32)), .val (.ref w_NEVER), .val (.int (0 : Int32)), .val (.int (0 : Int32)), .unset] [(.ref w_NEVER)])
          refine own_st (fun t k => XS.iconst X34.here hx rfl (hb hby at_38) k) ?_
          show own_Go _ _ _ _ T34 (mkF m 39 #[.val (.int ip0), .val (.int ip1), .val (.int (5 : Int32)), .val (.ref w_NEVER), .val (.int (0 : Int32)), .val (.int (0 : Int32)), .unset] [(.int (1 : Int32)), (.ref w_NEVER)])
          refine own_st (fun t k => XS.goto X34.here hx rfl (pc0 := 39) (pc' := 43) rfl (hb hby at_39) (by decide) (by decide) k) ?_
          show own_Go _ _ _ _ T34 (mkF m 43 #[.val (.int ip0), .val (.int ip1), .val (.int (5 : Int32)), .val (.ref w_NEVER), .val (.int (0 : Int32)), .val (.int (0 : Int32)), .unset] [(.int (1 : Int32)), (.ref w_NEVER)])
          obtain ⟨cq37, kq37, q37a, q37b, q37c⟩ := isOf hZ e34 E_w_NEVER
          obtain ⟨_, _, ⟨T37, L37, k37, n37⟩, -, X37, ⟨Lc37, hQ37, l37, y37, z37⟩, st37⟩ := X34.virtualBack hx (y := (⟨"com/example/gird/gird/core/Attribute", "demarcation", "(Z)Lcom/example/gird/gird/core/Demarcation;"⟩ : MethodName)) (z := (⟨"com/example/gird/gird/core/Attribute", "demarcation", "(Z)Lcom/example/gird/gird/core/Demarcation;"⟩ : MethodName)) hown (mvT hZ (own_w hw 22 rfl)) (mvT hZ (own_w hw 23 rfl)) (notFace_of_selects (args := #[]) (mvT hZ (own_w hw 25 rfl))) (mvT hZ (own_w hw 25 rfl)) (mvT hZ (own_w hw 24 rfl)) (by decide) (backOf (W := 0) (own_rm3 l Z a0 hw [] w_NEVER (1 : Int32) w_NONE w_REFUSE_PRESENT h0 n0 Z0 F_withoutCallerTransaction_w_NEVER F_withCallerTransaction_w_NEVER) hZ (own_w hw 26 rfl) (own_w hw 6 rfl) (by decide) (by decide)) q37a q37c (g := (mkF m 43 #[.val (.int ip0), .val (.int ip1), .val (.int (5 : Int32)), .val (.ref w_NEVER), .val (.int (0 : Int32)), .val (.int (0 : Int32)), .unset] [(.int (1 : Int32)), (.ref w_NEVER)])) rfl (by rw [hml]; rfl) (Steps.refl _) (argsL := [(.int (1 : Int32))]) (rest := []) (lenOf own_pd2 rfl) rfl (by show 2 * 0 + _ ≤ _; exact Nat.le_of_eq rfl) (hb hby at_43) (fun _ _ => ⟨rfl, e34, (by decide : 0 + 0 ≤ _), (by decide : 0 + 0 ≤ _)⟩)
          dsimp only [Pt.U, Pt.locs, Pt.cells, Pt.slots] at X37 l37 y37 z37 st37 hQ37
          subst l37 y37 z37
          obtain ⟨N37q, e37, hL37⟩ := hQ37
          have N37 := Fr.app N34 N37q
          rcases hL37 with ⟨rfl, hq37_0_0, -⟩ | ⟨rfl, hq37_1_0, -⟩
          · skip
            exact absurd hq37_0_0 (by decide : ¬ ((1 : Int32) = (0 : Int32)))
          · skip
            refine own_st (fun t k => st37.trans k) ?_
            show own_Go _ _ _ _ T37 (mkF m 46 #[.val (.int ip0), .val (.int ip1), .val (.int (5 : Int32)), .val (.ref w_NEVER), .val (.int (0 : Int32)), .val (.int (0 : Int32)), .unset] [(.ref w_REFUSE_PRESENT)])
            refine own_st (fun t k => XS.astore X37.here hx rfl (hb hby at_46) rfl rfl (l' := #[.val (.int ip0), .val (.int ip1), .val (.int (5 : Int32)), .val (.ref w_NEVER), .val (.int (0 : Int32)), .val (.int (0 : Int32)), .val (.ref w_REFUSE_PRESENT)]) rfl k) ?_
            show own_Go _ _ _ _ T37 (mkF m 48 #[.val (.int ip0), .val (.int ip1), .val (.int (5 : Int32)), .val (.ref w_NEVER), .val (.int (0 : Int32)), .val (.int (0 : Int32)), .val (.ref w_REFUSE_PRESENT)] [])
            refine own_st (fun t k => XS.iload X37.here hx rfl (hb hby at_48) rfl k) ?_
            show own_Go _ _ _ _ T37 (mkF m 50 #[.val (.int ip0), .val (.int ip1), .val (.int (5 : Int32)), .val (.ref w_NEVER), .val (.int (0 : Int32)), .val (.int (0 : Int32)), .val (.ref w_REFUSE_PRESENT)] [(.int (0 : Int32))])
            refine own_st (fun t k => XS.iload X37.here hx rfl (hb hby at_50) rfl k) ?_
            show own_Go _ _ _ _ T37 (mkF m 52 #[.val (.int ip0), .val (.int ip1), .val (.int (5 : Int32)), .val (.ref w_NEVER), .val (.int (0 : Int32)), .val (.int (0 : Int32)), .val (.ref w_REFUSE_PRESENT)] [(.int (0 : Int32)), (.int (0 : Int32))])
            refine own_st (fun t k => XS.icmpNo X37.here hx rfl (hb hby at_52) rfl (teq (by decide : (0 : Int32) = (0 : Int32))).2 k) ?_
            show own_Go _ _ _ _ T37 (mkF m 55 #[.val (.int ip0), .val (.int ip1), .val (.int (5 : Int32)), .val (.ref w_NEVER), .val (.int (0 : Int32)), .val (.int (0 : Int32)), .val (.ref w_REFUSE_PRESENT)] [])
            refine own_st (fun t k => XS.iload X37.here hx rfl (hb hby at_55) rfl k) ?_
            show own_Go _ _ _ _ T37 (mkF m 57 #[.val (.int ip0), .val (.int ip1), .val (.int (5 : Int32)), .val (.ref w_NEVER), .val (.int (0 : Int32)), .val (.int (0 : Int32)), .val (.ref w_REFUSE_PRESENT)] [(.int (0 : Int32))])
            refine own_st (fun t k => XS.ifYes X37.here hx rfl (pc0 := 57) (pc' := 68) rfl (hb hby at_57) rfl ((if0 _ _).trans (teq (by decide : (0 : Int32) = (0 : Int32))).1) (by decide) (by decide) k) ?_
            show own_Go _ _ _ _ T37 (mkF m 68 #[.val (.int ip0), .val (.int ip1), .val (.int (5 : Int32)), .val (.ref w_NEVER), .val (.int (0 : Int32)), .val (.int (0 : Int32)), .val (.ref w_REFUSE_PRESENT)] [])
            refine own_st (fun t k => XS.iconst X37.here hx rfl (hb hby at_68) k) ?_
            show own_Go _ _ _ _ T37 (mkF m 69 #[.val (.int ip0), .val (.int ip1), .val (.int (5 : Int32)), .val (.ref w_NEVER), .val (.int (0 : Int32)), .val (.int (0 : Int32)), .val (.ref w_REFUSE_PRESENT)] [(.int (1 : Int32))])
            refine own_st (fun t k => XS.goto X37.here hx rfl (pc0 := 69) (pc' := 73) rfl (hb hby at_69) (by decide) (by decide) k) ?_
            show own_Go _ _ _ _ T37 (mkF m 73 #[.val (.int ip0), .val (.int ip1), .val (.int (5 : Int32)), .val (.ref w_NEVER), .val (.int (0 : Int32)), .val (.int (0 : Int32)), .val (.ref w_REFUSE_PRESENT)] [(.int (1 : Int32))])
            exact own_retZ X37 hx hlk (t := .boolean) hret (by simp) (hb hby at_73) (by decide) (by decide) e37 ⟨rfl, N37⟩
      · skip
        exact absurd (rfl : w_NONE = w_NONE) hq34_1_0
      · skip
        exact absurd (rfl : w_NONE = w_NONE) hq34_2_0
set_option maxRecDepth 65536 in
set_option maxHeartbeats 40000000 in
theorem own_comes {Post : Tables → Env → Array Value → State → Outcome → State → Prop} (hpost : ∀ tb e args s v u, (limb_1_1.after args s (.returned v) u = true ∧ limb_1_2.after args s (.returned v) u = true ∧ True) → FrameEnd s (.returned v) u (Jvm.fieldLocs frame_1_writes args s ++ Jvm.arrayLocs frame_1_arrays args s ++ Jvm.staticLocs frame_1_statics s) 0 0 → Post tb e args s (.returned v) u) :
    ArmFor flags0 classFile x code maxLocals ret World_1 tables_1 room_1 Calls_1 rest_1 Pre_1 Post := by
  intro l hfl _ _ p e ha hc hk s m args below hf hA hF happ hP
  obtain ⟨hcalls, hrest, hpre⟩ := hP
  obtain ⟨-, -, -, hnamed, -, -, -, hat⟩ := (Spec.applies_iff hf).mp happ
  obtain ⟨hg, hn⟩ := and_e (Cond.before_iff.mp (show (Jvm.Cond.and given_1 narrow_1).before args s = true from hpre))
  obtain ⟨g53, g54⟩ := and_e hg
  obtain ⟨g55, g56⟩ := and_e g54
  obtain ⟨w0, w1, rfl⟩ : ∃ w0 w1 : Value, args = #[w0, w1] := by
    have hs : args.size = 2 := by simpa [Cond.value, given_1] using g53
    obtain ⟨L⟩ := args
    match L, hs with
    | [w0, w1], _ => exact ⟨w0, w1, rfl⟩
  have hw := fun d (hd : d ∈ tables_1) => atoms_spec (ws := Jvm.Cond.code x code maxLocals ret :: tables_1) hat d (List.mem_cons_of_mem _ hd)
  obtain ⟨i0, ei0⟩ := is_v g55
  obtain rfl : w0 = (.int i0) := Option.some.inj ei0
  obtain ⟨i1, ei1⟩ := is_v g56
  obtain rfl : w1 = (.int i1) := Option.some.inj ei1
  have hfit : Fit s := fun {y c} hc i hi => by
    obtain ⟨ha, rfl⟩ := Array.getElem?_eq_some_iff.mp hc
    have q := List.all_eq_true.mp ((Array.all_eq_true_iff_forall_mem.mp hF) _ (Array.getElem_mem ha)) i (List.mem_range.mpr hi)
    simpa [Array.getElem?_eq_getElem hi] using q
  obtain ⟨g1, g2⟩ := and_e hn
  obtain ⟨g3, g4⟩ := and_e g2
  obtain ⟨g5, g6⟩ := and_e g4
  obtain ⟨g7, g8⟩ := and_e g6
  obtain ⟨g9, g10⟩ := and_e g8
  obtain ⟨g11, g12⟩ := and_e g10
  obtain ⟨g13, g14⟩ := and_e g12
  obtain ⟨g15, g16⟩ := and_e g14
  obtain ⟨g17, g18⟩ := and_e g16
  obtain ⟨g19, g20⟩ := and_e g18
  obtain ⟨g21, g22⟩ := and_e g20
  obtain ⟨g23, g24⟩ := and_e g22
  obtain ⟨g25, g26⟩ := and_e g24
  obtain ⟨g27, g28⟩ := and_e g26
  obtain ⟨g29, g30⟩ := and_e g28
  obtain ⟨g31, g32⟩ := and_e g30
  obtain ⟨g33, g34⟩ := and_e g32
  obtain ⟨g35, g36⟩ := and_e g34
  obtain ⟨g37, g38⟩ := and_e g36
  obtain ⟨g39, g40⟩ := and_e g38
  obtain ⟨g41, g42⟩ := and_e g40
  obtain ⟨g43, g44⟩ := and_e g42
  obtain ⟨g45, g46⟩ := and_e g44
  obtain ⟨g47, g48⟩ := and_e g46
  obtain ⟨g49, g50⟩ := and_e g48
  obtain ⟨g51, g52⟩ := and_e g50
  obtain ⟨w_MANDATORY, ev_w_MANDATORY⟩ := exa_v g1
  have S_MANDATORY := Sta.start ev_w_MANDATORY (Or.inr ⟨(own_w hw 6 rfl), (own_w hw 7 rfl)⟩)
  have E_w_MANDATORY := Exa.start ev_w_MANDATORY g1
  obtain ⟨w_REFUSE_MISSING, ev_w_REFUSE_MISSING⟩ := exa_v g3
  have S_REFUSE_MISSING := Sta.start ev_w_REFUSE_MISSING (Or.inr ⟨(own_w hw 15 rfl), (own_w hw 16 rfl)⟩)
  have E_w_REFUSE_MISSING := Exa.start ev_w_REFUSE_MISSING g3
  obtain ⟨w_NONE, ev_w_NONE⟩ := exa_v g7
  have S_NONE := Sta.start ev_w_NONE (Or.inr ⟨(own_w hw 15 rfl), (own_w hw 18 rfl)⟩)
  have E_w_NONE := Exa.start ev_w_NONE g7
  obtain ⟨w_CALLER, ev_w_CALLER⟩ := exa_v g13
  have S_CALLER := Sta.start ev_w_CALLER (Or.inr ⟨(own_w hw 15 rfl), (own_w hw 21 rfl)⟩)
  have E_w_CALLER := Exa.start ev_w_CALLER g13
  obtain ⟨w_REQUIRES_NEW, ev_w_REQUIRES_NEW⟩ := exa_v g19
  have S_REQUIRES_NEW := Sta.start ev_w_REQUIRES_NEW (Or.inr ⟨(own_w hw 6 rfl), (own_w hw 29 rfl)⟩)
  have E_w_REQUIRES_NEW := Exa.start ev_w_REQUIRES_NEW g19
  obtain ⟨w_NEW, ev_w_NEW⟩ := exa_v g21
  have S_NEW := Sta.start ev_w_NEW (Or.inr ⟨(own_w hw 15 rfl), (own_w hw 30 rfl)⟩)
  have E_w_NEW := Exa.start ev_w_NEW g21
  obtain ⟨w_NOT_SUPPORTED, ev_w_NOT_SUPPORTED⟩ := exa_v g29
  have S_NOT_SUPPORTED := Sta.start ev_w_NOT_SUPPORTED (Or.inr ⟨(own_w hw 6 rfl), (own_w hw 32 rfl)⟩)
  have E_w_NOT_SUPPORTED := Exa.start ev_w_NOT_SUPPORTED g29
  obtain ⟨w_REQUIRED, ev_w_REQUIRED⟩ := exa_v g33
  have S_REQUIRED := Sta.start ev_w_REQUIRED (Or.inr ⟨(own_w hw 6 rfl), (own_w hw 34 rfl)⟩)
  have E_w_REQUIRED := Exa.start ev_w_REQUIRED g33
  obtain ⟨w_NEVER, ev_w_NEVER⟩ := exa_v g39
  have S_NEVER := Sta.start ev_w_NEVER (Or.inr ⟨(own_w hw 6 rfl), (own_w hw 36 rfl)⟩)
  have E_w_NEVER := Exa.start ev_w_NEVER g39
  obtain ⟨w_SUPPORTS, ev_w_SUPPORTS⟩ := exa_v g43
  have S_SUPPORTS := Sta.start ev_w_SUPPORTS (Or.inr ⟨(own_w hw 6 rfl), (own_w hw 38 rfl)⟩)
  have E_w_SUPPORTS := Exa.start ev_w_SUPPORTS g43
  obtain ⟨w_REFUSE_PRESENT, ev_w_REFUSE_PRESENT⟩ := exa_v g51
  have S_REFUSE_PRESENT := Sta.start ev_w_REFUSE_PRESENT (Or.inr ⟨(own_w hw 15 rfl), (own_w hw 39 rfl)⟩)
  have E_w_REFUSE_PRESENT := Exa.start ev_w_REFUSE_PRESENT g51
  have F_withoutCallerTransaction_w_MANDATORY := Fld.start ((fld_at ev_w_MANDATORY).symm.trans (own_eqR g5 ev_w_REFUSE_MISSING))
  have F_ordinal_w_REFUSE_MISSING := Fld.start ((fld_at ev_w_REFUSE_MISSING).symm.trans (own_eqI g9 (Term.int_eval _)))
  have F_ordinal_w_NONE := Fld.start ((fld_at ev_w_NONE).symm.trans (own_eqI g11 (Term.int_eval _)))
  have F_withCallerTransaction_w_MANDATORY := Fld.start ((fld_at ev_w_MANDATORY).symm.trans (own_eqR g15 ev_w_CALLER))
  have F_ordinal_w_CALLER := Fld.start ((fld_at ev_w_CALLER).symm.trans (own_eqI g17 (Term.int_eval _)))
  have F_withoutCallerTransaction_w_REQUIRES_NEW := Fld.start ((fld_at ev_w_REQUIRES_NEW).symm.trans (own_eqR g23 ev_w_NEW))
  have F_ordinal_w_NEW := Fld.start ((fld_at ev_w_NEW).symm.trans (own_eqI g25 (Term.int_eval _)))
  have F_withCallerTransaction_w_REQUIRES_NEW := Fld.start ((fld_at ev_w_REQUIRES_NEW).symm.trans (own_eqR g27 ev_w_NEW))
  have F_withoutCallerTransaction_w_NOT_SUPPORTED := Fld.start ((fld_at ev_w_NOT_SUPPORTED).symm.trans (own_eqR g31 ev_w_NONE))
  have F_withoutCallerTransaction_w_REQUIRED := Fld.start ((fld_at ev_w_REQUIRED).symm.trans (own_eqR g35 ev_w_NEW))
  have F_withCallerTransaction_w_REQUIRED := Fld.start ((fld_at ev_w_REQUIRED).symm.trans (own_eqR g37 ev_w_CALLER))
  have F_withoutCallerTransaction_w_NEVER := Fld.start ((fld_at ev_w_NEVER).symm.trans (own_eqR g41 ev_w_NONE))
  have F_withoutCallerTransaction_w_SUPPORTS := Fld.start ((fld_at ev_w_SUPPORTS).symm.trans (own_eqR g45 ev_w_NONE))
  have F_withCallerTransaction_w_SUPPORTS := Fld.start ((fld_at ev_w_SUPPORTS).symm.trans (own_eqR g47 ev_w_CALLER))
  have F_withCallerTransaction_w_NOT_SUPPORTED := Fld.start ((fld_at ev_w_NOT_SUPPORTED).symm.trans (own_eqR g49 ev_w_NONE))
  have F_withCallerTransaction_w_NEVER := Fld.start ((fld_at ev_w_NEVER).symm.trans (own_eqR g52 ev_w_REFUSE_PRESENT))
  obtain ⟨n, o, h1, h2, h3, _, L, rfl, ⟨rfl, N⟩, hq⟩ := own_rm0 l s _ hw tables_1 i0 i1 w_MANDATORY w_REFUSE_MISSING w_NONE w_CALLER w_REQUIRES_NEW w_NEW w_NOT_SUPPORTED w_REQUIRED w_NEVER w_SUPPORTS w_REFUSE_PRESENT s.heap s.heap.size (Nat.le_refl _) S_MANDATORY E_w_MANDATORY S_REFUSE_MISSING E_w_REFUSE_MISSING S_NONE E_w_NONE S_CALLER E_w_CALLER S_REQUIRES_NEW E_w_REQUIRES_NEW S_NEW E_w_NEW S_NOT_SUPPORTED E_w_NOT_SUPPORTED S_REQUIRED E_w_REQUIRED S_NEVER E_w_NEVER S_SUPPORTS E_w_SUPPORTS S_REFUSE_PRESENT E_w_REFUSE_PRESENT F_withoutCallerTransaction_w_MANDATORY F_ordinal_w_REFUSE_MISSING F_ordinal_w_NONE F_withCallerTransaction_w_MANDATORY F_ordinal_w_CALLER F_withoutCallerTransaction_w_REQUIRES_NEW F_ordinal_w_NEW F_withCallerTransaction_w_REQUIRES_NEW F_withoutCallerTransaction_w_NOT_SUPPORTED F_withoutCallerTransaction_w_REQUIRED F_withCallerTransaction_w_REQUIRED F_withoutCallerTransaction_w_NEVER F_withoutCallerTransaction_w_SUPPORTS F_withCallerTransaction_w_SUPPORTS F_withCallerTransaction_w_NOT_SUPPORTED F_withCallerTransaction_w_NEVER p e ha hc hk s m _ below hf ((Spec.applies_iff_loose hf).mp happ).1 ⟨rfl, State.Warmed39.refl s, rfl⟩ trivial
  exact ⟨n, _, h1, h2, h3, hpost _ _ _ _ _ _ ⟨Cond.after_iff.mpr rfl, Cond.after_iff.mpr (eq_i res_at (Term.int_eval (1)) rfl), trivial⟩ ⟨hq.1, hq.2.1, (hq.2.2.sift fun y hy => Or.inr (N y hy)).mono (by decide) (by decide)⟩⟩
theorem main_1_1 : Claimed_1_1 := own_comes fun _ _ _ _ _ _ h hF => ⟨h.1, hF⟩
theorem main_1_2 : Claimed_1_2 := own_comes fun _ _ _ _ _ _ h hF => ⟨h.2.1, hF⟩
end Jvm.Pilot.@@N@@
namespace Jvm.Pilot.@@N@@
open Jvm Jvm.ClassFile Sem Op Lib Jvm.Free Jvm.Stand Jvm.Pilot.@@N@@.Jvm.D
/-! MADE BY PROGRAM (witnessworld.py) out of the Statement's table words and the real class files: 13 classes; the members and pool entries that the words name. The judged class is class 1, her method 2. -/
namespace start1
open Jvm.ClassFile
def u (s : String) : CpInfo := .utf8 (stringToUtf16 s)
/-- a pool by its gaps: so many unusable entries, then the entry; so many at the end -/
def gap : Nat → List CpInfo → List CpInfo
  | 0, r => r
  | n + 1, r => .unusable :: gap n r
def poolList (es : List (Nat × CpInfo)) (last : Nat) : List CpInfo := es.foldr (fun e r => gap e.1 (e.2 :: r)) (gap last [])
def pool (es : List (Nat × CpInfo)) (last : Nat) : Array CpInfo := ⟨poolList es last⟩
def fileOf (pool : Array CpInfo) (this : Nat) (attrs : Array Attribute := #[]) (ms : Array MethodInfo := #[]) (fl : Nat := 33) (sup : Nat := 0) (ifs : Array Nat := #[]) (fds : Array FieldInfo := #[]) : ClassFile where
  minorVersion := 0
  majorVersion := 65
  constantPool := pool
  accessFlags := fl
  thisClass := this
  superClass := sup
  interfaces := ifs
  fields := fds
  methods := ms
  attributes := attrs
def plain (name : String) (sup : Option ClassId) : Class where
  name := name
  kind := .ordinary
  loader := none
  accessFlags := 33
  super := sup
  interfaces := #[]
  cf := none
  fields := #[]
  methods := #[]
  instanceTypes := #[]
  staticTypes := #[]
  resolved := #[]
  callSites := []
  init := .initialized
  statics := none
  mirror := none

def pool0 : Array CpInfo := pool [(5, u "<init>"), (0, u "()V"), (1, .class_ 10), (1, u "java/lang/Object")] 113

def k0m0 : Method := { name := "<init>", desc := "()V", sig := { parameters := [], returnType := none }, accessFlags := 1, code := none }
/-- java/lang/Object -/
def k0 : Class := { plain "java/lang/Object" none with
  accessFlags := 33
  interfaces := #[]
  cf := some (fileOf pool0 8 #[] #[{ accessFlags := 1, nameIndex := 5, descriptorIndex := 6, attributes := #[] }] 33 0 #[] #[])
  fields := #[]
  methods := #[k0m0]
  instanceTypes := #[]
  staticTypes := #[]
  resolved := Array.replicate 124 none
  statics := none }

def pool1 : Array CpInfo := pool [(2, .class_ 4), (1, u "java/lang/Object"), (0, u "<init>"), (0, u "()V"), (0, .fieldref 8 9), (0, .class_ 10), (0, .nameAndType 11 12), (0, u "com/example/gird/gird/core/Attribute"), (0, u "MANDATORY"), (0, u "Lcom/example/gird/gird/core/Attribute;"), (0, .fieldref 8 14), (0, .nameAndType 15 12), (0, u "REQUIRED"), (0, .fieldref 8 17), (0, .nameAndType 18 12), (0, u "REQUIRES_NEW"), (0, .fieldref 8 20), (0, .nameAndType 21 12), (0, u "SUPPORTS"), (0, .fieldref 8 23), (0, .nameAndType 24 12), (0, u "NOT_SUPPORTED"), (0, .fieldref 8 26), (0, .nameAndType 27 12), (0, u "NEVER"), (0, .integer 2147483647), (0, .methodref 30 31), (0, .class_ 32), (0, .nameAndType 33 34), (0, u "com/example/gird/gird/core/AttributeAlwaysRunsInTransactionPinLaw"), (0, u "pick"), (0, u "(I)Lcom/example/gird/gird/core/Attribute;"), (0, .methodref 8 36), (0, .nameAndType 37 38), (0, u "alwaysRunsInTransaction"), (0, u "()Z"), (0, .methodref 8 40), (0, .nameAndType 41 42), (0, u "demarcation"), (0, u "(Z)Lcom/example/gird/gird/core/Demarcation;"), (0, .fieldref 44 45), (0, .class_ 46), (0, .nameAndType 47 48), (0, u "com/example/gird/gird/core/Demarcation"), (0, u "NONE"), (0, u "Lcom/example/gird/gird/core/Demarcation;"), (3, u "law"), (0, u "(II)Z")] 2

def k1m0 : Method := { name := "<init>", desc := "()V", sig := { parameters := [], returnType := none }, accessFlags := 1, code := none }
def k1c1 : Code := { maxStack := 2, maxLocals := 1, code := method_2_code, exceptionTable := #[], attributes := #[] }
def k1m1 : Method := { name := "pick", desc := "(I)Lcom/example/gird/gird/core/Attribute;", sig := { parameters := [.int], returnType := some (.object "com/example/gird/gird/core/Attribute") }, accessFlags := 10, code := some k1c1 }
def k1c2 : Code := { maxStack := 3, maxLocals := 7, code := code, exceptionTable := #[], attributes := #[] }
def k1m2 : Method := { name := "law", desc := "(II)Z", sig := { parameters := [.int, .int], returnType := some .boolean }, accessFlags := 9, code := some k1c2 }
/-- com/example/gird/gird/core/AttributeAlwaysRunsInTransactionPinLaw -/
def k1 : Class := { plain "com/example/gird/gird/core/AttributeAlwaysRunsInTransactionPinLaw" (some 0) with
  accessFlags := 49
  interfaces := #[]
  cf := some (fileOf pool1 30 #[] #[{ accessFlags := 1, nameIndex := 5, descriptorIndex := 6, attributes := #[] }, { accessFlags := 10, nameIndex := 33, descriptorIndex := 34, attributes := #[] }, { accessFlags := 9, nameIndex := 52, descriptorIndex := 53, attributes := #[] }] 49 2 #[] #[])
  fields := #[]
  methods := #[k1m0, k1m1, k1m2]
  instanceTypes := #[]
  staticTypes := #[]
  resolved := Array.replicate 56 none
  statics := none }

def pool2 : Array CpInfo := pool [(1, .class_ 2), (0, u "java/lang/constant/Constable"), (0, .class_ 4), (0, u "java/lang/Object")] 6

/-- java/lang/constant/Constable -/
def k2 : Class := { plain "java/lang/constant/Constable" (some 0) with
  accessFlags := 1537
  interfaces := #[]
  cf := some (fileOf pool2 1 #[] #[] 1537 3 #[] #[])
  fields := #[]
  methods := #[]
  instanceTypes := #[]
  staticTypes := #[]
  resolved := Array.replicate 11 none
  statics := none }

def pool3 : Array CpInfo := pool [(1, .class_ 2), (0, u "java/lang/Comparable"), (0, .class_ 4), (0, u "java/lang/Object")] 7

/-- java/lang/Comparable -/
def k3 : Class := { plain "java/lang/Comparable" (some 0) with
  accessFlags := 1537
  interfaces := #[]
  cf := some (fileOf pool3 1 #[] #[] 1537 3 #[] #[])
  fields := #[]
  methods := #[]
  instanceTypes := #[]
  staticTypes := #[]
  resolved := Array.replicate 12 none
  statics := none }

def pool4 : Array CpInfo := pool [(1, .class_ 2), (0, u "java/io/Serializable"), (0, .class_ 4), (0, u "java/lang/Object")] 2

/-- java/io/Serializable -/
def k4 : Class := { plain "java/io/Serializable" (some 0) with
  accessFlags := 1537
  interfaces := #[]
  cf := some (fileOf pool4 1 #[] #[] 1537 3 #[] #[])
  fields := #[]
  methods := #[]
  instanceTypes := #[]
  staticTypes := #[]
  resolved := Array.replicate 7 none
  statics := none }

def pool5 : Array CpInfo := pool [(2, .class_ 4), (1, u "java/lang/Enum"), (0, u "name"), (0, u "Ljava/lang/String;"), (2, u "ordinal"), (0, u "I"), (1, .class_ 14), (1, u "java/lang/Object"), (4, u "hash"), (86, .class_ 108), (1, u "java/lang/Enum$EnumDesc"), (2, .class_ 112), (0, u "java/lang/constant/Constable"), (0, .class_ 114), (0, u "java/lang/Comparable"), (0, .class_ 116), (0, u "java/io/Serializable")] 87

/-- java/lang/Enum -/
def k5 : Class := { plain "java/lang/Enum" (some 0) with
  accessFlags := 1057
  interfaces := #[2, 3, 4]
  cf := some (fileOf pool5 2 #[.nestMembers #[106]] #[] 1057 12 #[111, 113, 115] #[{ accessFlags := 18, nameIndex := 5, descriptorIndex := 6, attributes := #[] }, { accessFlags := 18, nameIndex := 9, descriptorIndex := 10, attributes := #[] }, { accessFlags := 2, nameIndex := 19, descriptorIndex := 10, attributes := #[] }])
  fields := #[{ name := "name", type := (.object "java/lang/String"), accessFlags := 18, slot := 0, constantValue := 0 }, { name := "ordinal", type := .int, accessFlags := 18, slot := 1, constantValue := 0 }, { name := "hash", type := .int, accessFlags := 2, slot := 2, constantValue := 0 }]
  methods := #[]
  instanceTypes := #[(.object "java/lang/String"), .int, .int]
  staticTypes := #[]
  resolved := Array.replicate 204 none
  statics := none }

def pool6 : Array CpInfo := pool [(1, .class_ 2), (0, u "com/example/gird/gird/core/Attribute"), (2, u "MANDATORY"), (0, u "Lcom/example/gird/gird/core/Attribute;"), (2, u "REQUIRED"), (2, u "REQUIRES_NEW"), (2, u "SUPPORTS"), (2, u "NOT_SUPPORTED"), (2, u "NEVER"), (2, u "$VALUES"), (0, u "[Lcom/example/gird/gird/core/Attribute;"), (6, .class_ 34), (1, u "java/lang/Enum"), (6, .fieldref 1 42), (0, .nameAndType 43 44), (0, u "withoutCallerTransaction"), (0, u "Lcom/example/gird/gird/core/Demarcation;"), (0, .fieldref 1 46), (0, .nameAndType 47 44), (0, u "withCallerTransaction"), (0, .fieldref 49 50), (0, .class_ 51), (0, .nameAndType 52 44), (0, u "com/example/gird/gird/core/Demarcation"), (0, u "NONE"), (32, u "demarcation"), (0, u "(Z)Lcom/example/gird/gird/core/Demarcation;"), (1, u "alwaysRunsInTransaction"), (0, u "()Z")] 5

def k6c0 : Code := { maxStack := 1, maxLocals := 2, code := prog_13_method_4_code, exceptionTable := #[], attributes := #[] }
def k6m0 : Method := { name := "demarcation", desc := "(Z)Lcom/example/gird/gird/core/Demarcation;", sig := { parameters := [.boolean], returnType := some (.object "com/example/gird/gird/core/Demarcation") }, accessFlags := 1, code := some k6c0 }
def k6c1 : Code := { maxStack := 2, maxLocals := 1, code := prog_13_method_5_code, exceptionTable := #[], attributes := #[] }
def k6m1 : Method := { name := "alwaysRunsInTransaction", desc := "()Z", sig := { parameters := [], returnType := some .boolean }, accessFlags := 1, code := some k6c1 }
/-- com/example/gird/gird/core/Attribute -/
def k6 : Class := { plain "com/example/gird/gird/core/Attribute" (some 5) with
  accessFlags := 16433
  interfaces := #[]
  cf := some (fileOf pool6 1 #[] #[{ accessFlags := 1, nameIndex := 85, descriptorIndex := 86, attributes := #[] }, { accessFlags := 1, nameIndex := 88, descriptorIndex := 89, attributes := #[] }] 16433 32 #[] #[{ accessFlags := 16409, nameIndex := 5, descriptorIndex := 6, attributes := #[] }, { accessFlags := 16409, nameIndex := 9, descriptorIndex := 6, attributes := #[] }, { accessFlags := 16409, nameIndex := 12, descriptorIndex := 6, attributes := #[] }, { accessFlags := 16409, nameIndex := 15, descriptorIndex := 6, attributes := #[] }, { accessFlags := 16409, nameIndex := 18, descriptorIndex := 6, attributes := #[] }, { accessFlags := 16409, nameIndex := 21, descriptorIndex := 6, attributes := #[] }, { accessFlags := 18, nameIndex := 43, descriptorIndex := 44, attributes := #[] }, { accessFlags := 18, nameIndex := 47, descriptorIndex := 44, attributes := #[] }, { accessFlags := 4122, nameIndex := 24, descriptorIndex := 25, attributes := #[] }])
  fields := #[{ name := "MANDATORY", type := (.object "com/example/gird/gird/core/Attribute"), accessFlags := 16409, slot := 0, constantValue := 0 }, { name := "REQUIRED", type := (.object "com/example/gird/gird/core/Attribute"), accessFlags := 16409, slot := 1, constantValue := 0 }, { name := "REQUIRES_NEW", type := (.object "com/example/gird/gird/core/Attribute"), accessFlags := 16409, slot := 2, constantValue := 0 }, { name := "SUPPORTS", type := (.object "com/example/gird/gird/core/Attribute"), accessFlags := 16409, slot := 3, constantValue := 0 }, { name := "NOT_SUPPORTED", type := (.object "com/example/gird/gird/core/Attribute"), accessFlags := 16409, slot := 4, constantValue := 0 }, { name := "NEVER", type := (.object "com/example/gird/gird/core/Attribute"), accessFlags := 16409, slot := 5, constantValue := 0 }, { name := "withoutCallerTransaction", type := (.object "com/example/gird/gird/core/Demarcation"), accessFlags := 18, slot := 3, constantValue := 0 }, { name := "withCallerTransaction", type := (.object "com/example/gird/gird/core/Demarcation"), accessFlags := 18, slot := 4, constantValue := 0 }, { name := "$VALUES", type := (.array (.object "com/example/gird/gird/core/Attribute")), accessFlags := 4122, slot := 6, constantValue := 0 }]
  methods := #[k6m0, k6m1]
  instanceTypes := #[(.object "java/lang/String"), .int, .int, (.object "com/example/gird/gird/core/Demarcation"), (.object "com/example/gird/gird/core/Demarcation")]
  staticTypes := #[(.object "com/example/gird/gird/core/Attribute"), (.object "com/example/gird/gird/core/Attribute"), (.object "com/example/gird/gird/core/Attribute"), (.object "com/example/gird/gird/core/Attribute"), (.object "com/example/gird/gird/core/Attribute"), (.object "com/example/gird/gird/core/Attribute"), (.array (.object "com/example/gird/gird/core/Attribute"))]
  resolved := Array.replicate 95 none
  statics := some 0 }

def pool7 : Array CpInfo := pool [(1, .class_ 2), (0, u "com/example/gird/gird/core/Demarcation"), (2, u "CALLER"), (0, u "Lcom/example/gird/gird/core/Demarcation;"), (2, u "NEW"), (2, u "NONE"), (2, u "INSTANCE"), (2, u "REFUSE_MISSING"), (2, u "REFUSE_PRESENT"), (2, u "$VALUES"), (0, u "[Lcom/example/gird/gird/core/Demarcation;"), (6, .class_ 34), (1, u "java/lang/Enum")] 28

/-- com/example/gird/gird/core/Demarcation -/
def k7 : Class := { plain "com/example/gird/gird/core/Demarcation" (some 5) with
  accessFlags := 16433
  interfaces := #[]
  cf := some (fileOf pool7 1 #[] #[] 16433 32 #[] #[{ accessFlags := 16409, nameIndex := 5, descriptorIndex := 6, attributes := #[] }, { accessFlags := 16409, nameIndex := 9, descriptorIndex := 6, attributes := #[] }, { accessFlags := 16409, nameIndex := 12, descriptorIndex := 6, attributes := #[] }, { accessFlags := 16409, nameIndex := 15, descriptorIndex := 6, attributes := #[] }, { accessFlags := 16409, nameIndex := 18, descriptorIndex := 6, attributes := #[] }, { accessFlags := 16409, nameIndex := 21, descriptorIndex := 6, attributes := #[] }, { accessFlags := 4122, nameIndex := 24, descriptorIndex := 25, attributes := #[] }])
  fields := #[{ name := "CALLER", type := (.object "com/example/gird/gird/core/Demarcation"), accessFlags := 16409, slot := 0, constantValue := 0 }, { name := "NEW", type := (.object "com/example/gird/gird/core/Demarcation"), accessFlags := 16409, slot := 1, constantValue := 0 }, { name := "NONE", type := (.object "com/example/gird/gird/core/Demarcation"), accessFlags := 16409, slot := 2, constantValue := 0 }, { name := "INSTANCE", type := (.object "com/example/gird/gird/core/Demarcation"), accessFlags := 16409, slot := 3, constantValue := 0 }, { name := "REFUSE_MISSING", type := (.object "com/example/gird/gird/core/Demarcation"), accessFlags := 16409, slot := 4, constantValue := 0 }, { name := "REFUSE_PRESENT", type := (.object "com/example/gird/gird/core/Demarcation"), accessFlags := 16409, slot := 5, constantValue := 0 }, { name := "$VALUES", type := (.array (.object "com/example/gird/gird/core/Demarcation")), accessFlags := 4122, slot := 6, constantValue := 0 }]
  methods := #[]
  instanceTypes := #[(.object "java/lang/String"), .int, .int]
  staticTypes := #[(.object "com/example/gird/gird/core/Demarcation"), (.object "com/example/gird/gird/core/Demarcation"), (.object "com/example/gird/gird/core/Demarcation"), (.object "com/example/gird/gird/core/Demarcation"), (.object "com/example/gird/gird/core/Demarcation"), (.object "com/example/gird/gird/core/Demarcation"), (.array (.object "com/example/gird/gird/core/Demarcation"))]
  resolved := Array.replicate 63 none
  statics := some 1 }

def pool8 : Array CpInfo := pool [(1, u "java/lang/Cloneable"), (0, .class_ 1), (0, u "java/lang/Object"), (0, .class_ 3)] 3

/-- java/lang/Cloneable -/
def k8 : Class := { plain "java/lang/Cloneable" (some 0) with
  accessFlags := 1537
  interfaces := #[]
  cf := some (fileOf pool8 2 #[] #[] 1537 4 #[] #[])
  fields := #[]
  methods := #[]
  instanceTypes := #[]
  staticTypes := #[]
  resolved := Array.replicate 8 none
  statics := none }

/-- the primitive byte -/
def k9 : Class := { plain "byte" none with kind := .primitive 'B', accessFlags := 0x411 }
/-- [B -/
def k10 : Class := { plain "[B" (some 0) with kind := .array 9 .byte, interfaces := #[8, 4], accessFlags := 1041 }

/-- the primitive int -/
def k11 : Class := { plain "int" none with kind := .primitive 'I', accessFlags := 0x411 }
/-- [I -/
def k12 : Class := { plain "[I" (some 0) with kind := .array 11 .int, interfaces := #[8, 4], accessFlags := 1041 }

def heap : Heap := #[{ cls := 6, slots := #[.ref 2, .ref 9, .ref 6, .ref 11, .ref 8, .ref 10, .null], vm := .statics 6 },
  { cls := 7, slots := #[.ref 5, .ref 7, .ref 4, .null, .ref 3, .ref 12, .null], vm := .statics 7 },
  { cls := 6, slots := #[.null, .int 0, .int 0, .ref 3, .ref 5], vm := .none },
  { cls := 7, slots := #[.null, .int 4, .int 0], vm := .none },
  { cls := 7, slots := #[.null, .int 2, .int 0], vm := .none },
  { cls := 7, slots := #[.null, .int 0, .int 0], vm := .none },
  { cls := 6, slots := #[.null, .int 0, .int 0, .ref 7, .ref 7], vm := .none },
  { cls := 7, slots := #[.null, .int 1, .int 0], vm := .none },
  { cls := 6, slots := #[.null, .int 0, .int 0, .ref 4, .ref 4], vm := .none },
  { cls := 6, slots := #[.null, .int 0, .int 0, .ref 7, .ref 5], vm := .none },
  { cls := 6, slots := #[.null, .int 0, .int 0, .ref 4, .ref 12], vm := .none },
  { cls := 6, slots := #[.null, .int 0, .int 0, .ref 4, .ref 5], vm := .none },
  { cls := 7, slots := #[.null, .int 0, .int 0], vm := .none }]
def classes : Array Class := #[k0, k1, k2, k3, k4, k5, k6, k7, k8, k9, k10, k11, k12]
def interned : List (Array UInt16 × Addr) := []
def slotsUsed : Nat := 59
def theMethod : MethodId := ⟨1, 2⟩
def args0 : Array Value := #[.int 5, .int 7]
def aboutOver (below : List Frame) : State where
  vm := { classes := classes, interned := interned.toArray }
  heap := heap
  slotsUsed := slotsUsed
  threads := #[{ frames := .invoking theMethod args0 :: below }]
def below0 : List Frame := [.native { method := ⟨0, 0⟩, args := #[] }]
def about1 : State := aboutOver below0
def p0 : Program := .bare "" "" ""
def e0 : Env := launch0.env 0 0 0
theorem w_frames : about1.frames = Frame.invoking theMethod args0 :: below0 := rfl
set_option maxRecDepth 65536 in
theorem w_args : argsFit about1.vm theMethod args0 = true := by decide +kernel
set_option maxRecDepth 65536 in
theorem w_heap : heapFits about1 = true := by decide +kernel
set_option maxRecDepth 65536 in
theorem w_runnable : about1.curStatus? = some .runnable := by decide +kernel
set_option maxRecDepth 65536 in
theorem w_alone : about1.alone = true := by decide +kernel
set_option maxRecDepth 65536 in
theorem w_named : about1.methodNamed? x = some theMethod := by decide +kernel
set_option maxRecDepth 65536 in
theorem w_hears : about1.hears theMethod below0 = true := by decide +kernel
set_option maxRecDepth 65536 in
theorem w_ripe : about1.ripe theMethod args0 below0 = true := by decide +kernel
theorem w_running : about1.status = .running := rfl
set_option maxRecDepth 65536 in
theorem w_room : about1.hasRoom e0.platform room_1 = true :=
  launch0.hasRoom_least _ room_1 (by decide +kernel) (by decide +kernel) (by decide +kernel) (by decide +kernel) (by decide +kernel) (by decide +kernel)
theorem allAtoms_all (ts : List Jvm.Cond) (a : Array Jvm.Value) (st : Jvm.State) : (allAtoms ts).before a st = ts.all (fun c => c.before a st) := by
  induction ts with
  | nil => rfl
  | cons c t ih =>
    show (Jvm.Cond.and c (allAtoms t)).before a st = _
    rw [Jvm.Cond.before_and, ih, List.all_cons]
def words1 : List Jvm.Cond := Jvm.Cond.code x code maxLocals ret :: tables_1
/-- a 'code' word, met by the world's own term for the bytes: nothing is compared byte by byte -/
theorem code_word {y : MethodName} {bytes : ByteArray} {mx : Nat} {rt : Option FieldType} {a : Array Value} {s : State} {m : MethodId} {meth : Method} {c : Code} (h1 : s.methodNamed? y = some m) (h2 : s.vm.method? m = some meth) (h3 : meth.code = some c) (h4 : c.code = bytes)
    (h5 : (c.maxLocals == mx && c.exceptionTable.isEmpty && decide (c.maxStack ≤ mostOperands) && decide (meth.sig.returnType = rt) && !meth.locks && decide (parseMethodDescriptor y.desc = some meth.sig)) = true) : (Jvm.Cond.code y bytes mx rt).before a s = true := by
  simp only [Bool.and_eq_true, beq_iff_eq, Bool.not_eq_true', decide_eq_true_eq] at h5
  obtain ⟨⟨⟨⟨⟨g1, g2⟩, g3⟩, g4⟩, g5⟩, g6⟩ := h5
  simp [Cond.before, Cond.holds, Cond.value, h1, h2, h3, h4, g1, g2, g3, g4, g5, g6]
def isCode : Jvm.Cond → Bool
  | .code _ _ _ _ => true
  | _ => false
theorem all_split {L : List Jvm.Cond} {P : Jvm.Cond → Bool} (h1 : L.all (fun c => isCode c || P c) = true) (h2 : ∀ c ∈ L.filter isCode, P c = true) : L.all P = true := by
  refine List.all_eq_true.mpr fun c hc => ?_
  have h := List.all_eq_true.mp h1 c hc
  rcases Bool.eq_false_or_eq_true (isCode c) with hi | hi
  · exact h2 c (List.mem_filter.mpr ⟨hc, hi⟩)
  · simpa [hi] using h
set_option maxRecDepth 65536 in
theorem w_c0 : (Jvm.Cond.code x code maxLocals ret).before args0 about1 = true := code_word (m := ⟨1, 2⟩) (meth := k1m2) (c := k1c2) (by decide +kernel) rfl rfl rfl (by decide +kernel)
set_option maxRecDepth 65536 in
theorem w_c1 : (Jvm.Cond.code ({ cls := "com/example/gird/gird/core/AttributeAlwaysRunsInTransactionPinLaw", name := "pick", desc := "(I)Lcom/example/gird/gird/core/Attribute;" } : Jvm.MethodName) method_2_code (1 : Nat) (Option.some (Jvm.ClassFile.FieldType.object "com/example/gird/gird/core/Attribute"))).before args0 about1 = true := code_word (m := ⟨1, 1⟩) (meth := k1m1) (c := k1c1) (by decide +kernel) rfl rfl rfl (by decide +kernel)
set_option maxRecDepth 65536 in
theorem w_c2 : (Jvm.Cond.code ({ cls := "com/example/gird/gird/core/Attribute", name := "alwaysRunsInTransaction", desc := "()Z" } : Jvm.MethodName) prog_13_method_5_code (1 : Nat) (Option.some Jvm.ClassFile.FieldType.boolean)).before args0 about1 = true := code_word (m := ⟨6, 1⟩) (meth := k6m1) (c := k6c1) (by decide +kernel) rfl rfl rfl (by decide +kernel)
set_option maxRecDepth 65536 in
theorem w_c3 : (Jvm.Cond.code ({ cls := "com/example/gird/gird/core/Attribute", name := "demarcation", desc := "(Z)Lcom/example/gird/gird/core/Demarcation;" } : Jvm.MethodName) prog_13_method_4_code (2 : Nat) (Option.some (Jvm.ClassFile.FieldType.object "com/example/gird/gird/core/Demarcation"))).before args0 about1 = true := code_word (m := ⟨6, 0⟩) (meth := k6m0) (c := k6c0) (by decide +kernel) rfl rfl rfl (by decide +kernel)
def codes1 : List Jvm.Cond := [Jvm.Cond.code x code maxLocals ret, Jvm.Cond.code ({ cls := "com/example/gird/gird/core/AttributeAlwaysRunsInTransactionPinLaw", name := "pick", desc := "(I)Lcom/example/gird/gird/core/Attribute;" } : Jvm.MethodName) method_2_code (1 : Nat) (Option.some (Jvm.ClassFile.FieldType.object "com/example/gird/gird/core/Attribute")), Jvm.Cond.code ({ cls := "com/example/gird/gird/core/Attribute", name := "alwaysRunsInTransaction", desc := "()Z" } : Jvm.MethodName) prog_13_method_5_code (1 : Nat) (Option.some Jvm.ClassFile.FieldType.boolean), Jvm.Cond.code ({ cls := "com/example/gird/gird/core/Attribute", name := "demarcation", desc := "(Z)Lcom/example/gird/gird/core/Demarcation;" } : Jvm.MethodName) prog_13_method_4_code (2 : Nat) (Option.some (Jvm.ClassFile.FieldType.object "com/example/gird/gird/core/Demarcation"))]
set_option maxRecDepth 65536 in
theorem codes_eq : words1.filter isCode = codes1 := rfl
theorem w_codes : ∀ c ∈ words1.filter isCode, c.before args0 about1 = true := by
  rw [codes_eq]
  intro c hc
  simp only [codes1, List.mem_cons, List.not_mem_nil, or_false] at hc
  rcases hc with rfl | rfl | rfl | rfl
  · exact w_c0
  · exact w_c1
  · exact w_c2
  · exact w_c3
set_option maxRecDepth 65536 in
theorem w_t1 : (words1.take 24).all (fun c => isCode c || c.before args0 about1) = true := by decide +kernel
set_option maxRecDepth 65536 in
theorem w_t2 : (words1.drop 24).all (fun c => isCode c || c.before args0 about1) = true := by decide +kernel
theorem w_tables : (allAtoms (Jvm.Cond.code x code maxLocals ret :: tables_1)).before args0 about1 = true := by
  rw [allAtoms_all]
  show words1.all (fun c => c.before args0 about1) = true
  refine all_split ?_ w_codes
  rw [← List.take_append_drop 24 words1, List.all_append, w_t1, w_t2]
  rfl
set_option maxRecDepth 65536 in
theorem w_case : (Jvm.Cond.and given_1 narrow_1).before args0 about1 = true := by decide +kernel
theorem w_applies : (headSpec (Jvm.Cond.code x code maxLocals ret :: tables_1) room_1).applies x e0.platform about1 = true :=
  (Spec.applies_iff w_frames).mpr ⟨w_running, w_runnable, w_alone, w_named, w_hears, w_ripe, w_room, w_tables⟩
theorem atStart : AtStart classFile x code maxLocals ret World_1 tables_1 room_1 Calls_1 rest_1 Pre_1 launch0 p0 e0 about1 theMethod args0 below0 :=
  ⟨lists_1, trivial, launch0.admits_env _ _ _, launch0.least_env, fairChoices_fair.cas, fairChoices_fair.clock, w_frames, w_args, w_heap, w_applies, trivial, trivial, w_case⟩
end start1
theorem witness_1 : WitnessClaimed_1 := ⟨start1.p0, start1.e0, start1.about1, start1.theMethod, start1.args0, start1.below0, start1.atStart⟩
end Jvm.Pilot.@@N@@
