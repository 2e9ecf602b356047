import JvmDerived
import JvmDerived.Pilot.@@N@@Statement
import JvmDerived.Pilot.@@N@@Code
set_option linter.unusedVariables false
set_option linter.unusedSimpArgs false
@@BLOCK:NumsL.lean.txt@@
namespace Jvm.Pilot.@@N@@
open Jvm Jvm.ClassFile Sem Op Lib Jvm.Free Jvm.Stand Jvm.LawKit Jvm.RoadKit Bundle Jvm.Pilot.@@N@@.Jvm.D
theorem own_w {ws : List Jvm.Cond} {a0 : Array Value} {Z : State} (hw : ∀ d ∈ ws, d.before a0 Z = true) (i : Nat) {d : Jvm.Cond} (h : ws[i]? = some d) : d.before a0 Z = true := hw d (List.mem_of_getElem? h)
/-! the run from a frame comes to an end of which A holds: one walk a body, branches by cases -/
def own_Go (tb : Tables) (e : Env) (below : List Frame) (A : State → Prop) (T : State) (g : JFrame) : Prop := ∃ t, Steps tb e below (T.setTop g) t ∧ A t
theorem own_st {tb : Tables} {e : Env} {below : List Frame} {A : State → Prop} {T T1 : State} {g g1 : JFrame} (k : ∀ t, Steps tb e below (T1.setTop g1) t → Steps tb e below (T.setTop g) t) (h : own_Go tb e below A T1 g1) : own_Go tb e below A T g := by
  obtain ⟨t, a, b⟩ := h
  exact ⟨t, k t a, b⟩
def own_End (s : State) (below : List Frame) (Q : Option Value → Heap → List Loc → Prop) (k n : Nat) (t : State) : Prop := ∃ o, t.status = .running ∧ Ended t below o ∧ ∃ v L, o = .returned v ∧ Q v t.heap L ∧ FrameEnd s o t L k n
theorem own_open {tb : Tables} {e : Env} {below : List Frame} {s₁ s : State} {g g' : JFrame} {Q : Option Value → Heap → List Loc → Prop} {k n : Nat} (hg : g = g') (h : own_Go tb e below (own_End s below Q k n) s₁ g') : ∃ s₂ o, Steps tb e below (s₁.setTop g) s₂ ∧ s₂.status = .running ∧ Ended s₂ below o ∧ ∃ v L, o = .returned v ∧ Q v s₂.heap L ∧ FrameEnd s o s₂ L k n := by
  subst hg
  obtain ⟨t, a, o, b, c, d⟩ := h
  exact ⟨t, o, a, b, c, d⟩
theorem own_nar {t : FieldType} {w : Value} (hw : w.isRef = true) : narrow t w = w := by cases w <;> first | (cases t <;> rfl) | simp [Value.isRef] at hw
section OwnEnds
variable {p : Program} {l : Launch} {e : Env} {R : Room} {s : State} {m : MethodId} {args : Array Value} {below : List Frame} {meth : Method} {c : Code} {T : State} {locs : List Loc} {cells slots : Nat} {Q : Option Value → Heap → List Loc → Prop} {k n : Nat} {h : Heap}
theorem own_end (X : Stand p l e R s m args below meth c T locs cells slots) (hlk : meth.locks = false) (v : Option Value) (hv : meth.sig.returnType = none → v = none) (hk : cells ≤ k) (hn : slots ≤ n) (eT : T.heap = h) (hq : Q v h locs) {g : JFrame}
    (hs : ∀ fs, (∀ (f : JFrame) (acts : List Action), f.method = m → f.locked = none → f.entered = [] → (doReturn e (T.setTop f) acts v).1 = T.setFrames fs) → Steps p.tables e below (T.setTop g) (T.setFrames fs)) : own_Go p.tables e below (own_End s below Q k n) T g := by
  obtain ⟨fs, hr, hrun, hended, hW, hsame⟩ := X.leave (v := v) hv
  exact ⟨_, hs fs hr, _, hrun, hended, v, locs, rfl, (by show Q v T.heap locs; rw [eT]; exact hq), ⟨_, rfl⟩, hW, hsame.mono hk hn⟩
theorem own_retZ (X : Stand p l e R s m args below meth c T locs cells slots) (hx : p.tables.exec = Jvm.exec) (hlk : meth.locks = false) {pc : Nat} {Ls : Array Slot} {z : Int32} {rest : List Value} {t : FieldType} (hret : meth.sig.returnType = some t) (ht : t = .boolean ∨ t = .byte ∨ t = .char ∨ t = .short) (hd : decode c.code pc = .ok (.ireturn, 1)) (hk : cells ≤ k) (hn : slots ≤ n) (eT : T.heap = h) (hq : Q (some (.int (nar t z))) h locs) :
    own_Go p.tables e below (own_End s below Q k n) T (mkF m pc Ls (.int z :: rest)) :=
  own_end X hlk _ (fun q => by rw [hret] at q; cases q) hk hn eT hq (fun fs hr => retN X hx hret ht hd hr)
theorem own_retI (X : Stand p l e R s m args below meth c T locs cells slots) (hx : p.tables.exec = Jvm.exec) (hlk : meth.locks = false) {pc : Nat} {Ls : Array Slot} {z : Int32} {rest : List Value} (hret : meth.sig.returnType = some .int) (hd : decode c.code pc = .ok (.ireturn, 1)) (hk : cells ≤ k) (hn : slots ≤ n) (eT : T.heap = h) (hq : Q (some (.int z)) h locs) :
    own_Go p.tables e below (own_End s below Q k n) T (mkF m pc Ls (.int z :: rest)) :=
  own_end X hlk _ (fun q => by rw [hret] at q; cases q) hk hn eT hq (fun fs hr => retOut X hx hret rfl (Or.inl ⟨rfl, Or.inl rfl, z, rfl⟩) hd hr)
theorem own_retJ (X : Stand p l e R s m args below meth c T locs cells slots) (hx : p.tables.exec = Jvm.exec) (hlk : meth.locks = false) {pc : Nat} {Ls : Array Slot} {z : Int64} {rest : List Value} (hret : meth.sig.returnType = some .long) (hd : decode c.code pc = .ok (.lreturn, 1)) (hk : cells ≤ k) (hn : slots ≤ n) (eT : T.heap = h) (hq : Q (some (.long z)) h locs) :
    own_Go p.tables e below (own_End s below Q k n) T (mkF m pc Ls (.long z :: rest)) :=
  own_end X hlk _ (fun q => by rw [hret] at q; cases q) hk hn eT hq (fun fs hr => retOut X hx hret rfl (Or.inr (Or.inl ⟨rfl, rfl, z, rfl⟩)) hd hr)
theorem own_retA (X : Stand p l e R s m args below meth c T locs cells slots) (hx : p.tables.exec = Jvm.exec) (hlk : meth.locks = false) {pc : Nat} {Ls : Array Slot} {w : Value} {rest : List Value} {t : FieldType} (hret : meth.sig.returnType = some t) (ht : t.isReference = true) (hw : w.isRef = true) (hd : decode c.code pc = .ok (.areturn, 1)) (hk : cells ≤ k) (hn : slots ≤ n) (eT : T.heap = h) (hq : Q (some w) h locs) :
    own_Go p.tables e below (own_End s below Q k n) T (mkF m pc Ls (w :: rest)) :=
  own_end X hlk _ (fun q => by rw [hret] at q; cases q) hk hn eT hq (fun fs hr => retOut X hx hret (own_nar hw) (Or.inr (Or.inr (Or.inr (Or.inr ⟨rfl, ht, hw⟩)))) hd hr)
theorem own_retV (X : Stand p l e R s m args below meth c T locs cells slots) (hx : p.tables.exec = Jvm.exec) (hlk : meth.locks = false) {pc : Nat} {Ls : Array Slot} (hret : meth.sig.returnType = none) (hd : decode c.code pc = .ok (.return_, 1)) (hk : cells ≤ k) (hn : slots ≤ n) (eT : T.heap = h) (hq : Q none h locs) :
    own_Go p.tables e below (own_End s below Q k n) T (mkF m pc Ls []) :=
  own_end X hlk _ (fun _ => rfl) hk hn eT hq (fun fs hr => X.returnOut hx hret hd hr)
end OwnEnds
section OwnWords
variable {args : Array Value} {first s : State} {o : Option Outcome} {idx : List Nat} {a b : Jvm.Term}
theorem own_eqI {k : Int32} (h : (Jvm.Cond.eq a b).value args first o s idx = some true) (hb : b.eval args first o idx s = some (.int k)) : a.eval args first o idx s = some (.int k) := by
  cases ha : a.eval args first o idx s with
  | none => simp [Cond.value, ha] at h
  | some x => cases x <;> simp [Cond.value, ha, hb] at h ⊢; exact h
theorem own_eqR {y : Addr} (h : (Jvm.Cond.eq a b).value args first o s idx = some true) (hb : b.eval args first o idx s = some (.ref y)) : a.eval args first o idx s = some (.ref y) := by
  cases ha : a.eval args first o idx s with
  | none => simp [Cond.value, ha] at h
  | some x => cases x <;> simp [Cond.value, ha, hb] at h ⊢; exact h
end OwnWords
theorem own_nei {i j : Int32} (h : i ≠ j) : Value.int i ≠ Value.int j := fun q => h (Value.int.inj q)
theorem own_plE {Z : State} {h : Heap} {a : Addr} {C : String} (F : Exa Z h a C) : ∃ c : Cell, h[a]? = some c ∧ c.vm.isStatics = false := by
  obtain ⟨c, -, h1, -, -, h2, -⟩ := F
  exact ⟨c, h1, h2⟩
theorem own_plV {Z : State} {h : Heap} {a : Addr} {k : ClassId} {ty : FieldType} {n : Int32} {vs : List Value} {d : Value} (F : Arv Z h a k ty n vs d) : ∃ c : Cell, h[a]? = some c ∧ c.vm.isStatics = false := by
  obtain ⟨c, A, -⟩ := F
  exact ⟨c, A.1, A.plain⟩
theorem own_stak {Z : State} {h h' : Heap} {C n d : String} {v : Value} {ws : List Addr} (F : Sta Z h C n d v) (K : Keep h h' ws) (q : ∀ x ∈ ws, ∃ c : Cell, h[x]? = some c ∧ c.vm.isStatics = false) : Sta Z h' C n d v := by
  obtain ⟨cf, i, k, f, st, cell, h1, h2, h3, h4, h5, h6, h7⟩ := F
  refine ⟨cf, i, k, f, st, cell, h1, h2, h3, h4, K.2.1 _ _ h5 (fun m => ?_), h6, h7⟩
  obtain ⟨c, e1, e2⟩ := q _ m
  cases h5.symm.trans e1
  rw [h6] at e2; cases e2
theorem own_nev {Z : State} {h : Heap} {a b : Addr} {C : String} {k : ClassId} {ty : FieldType} {n : Int32} {vs : List Value} {d : Value} {a0 : Array Value} {kk : Nat} (F : Exa Z h a C) (wi : (Jvm.Cond.instantiable C kk).before a0 Z = true) (G : Arv Z h b k ty n vs d) : a ≠ b := by
  obtain ⟨c, A, -⟩ := G
  exact ne_arr F wi A
section OwnArrays
variable {p : Program} {l : Launch} {e : Env} {R : Room} {s : State} {m : MethodId} {args : Array Value} {below : List Frame} {meth : Method} {c : Code} {T : State} {locs : List Loc} {cells slots : Nat} {Z : State} {h : Heap} {a : Addr} {k : ClassId} {ty : FieldType} {n j : Int32} {vs : List Value} {d v : Value} {rest : List Value}
theorem own_aaload (X : Stand p l e R s m args below meth c T locs cells slots) (hx : p.tables.exec = Jvm.exec) (hZ : Z.Warmed39 s.vm) (eT : T.heap = h) (F : Arv Z h a k ty n vs d) (hty : ty.isReference = true) (hj : ¬ j < 0 ∧ j < n) (hv : vs.getD j.toNatClampNeg d = v) {g : JFrame} (hg : g.method = m) (hs : g.stack = .int j :: .ref a :: rest) (hd : decode c.code g.pc = .ok (.aaload, 1)) :
    ∀ target, Steps p.tables e below (T.setTop { g with pc := g.pc + 1, stack := v :: rest }) target → Steps p.tables e below (T.setTop g) target := by
  obtain ⟨cl, A, -, S, -, H, -⟩ := F
  exact X.aaload hx (by rw [eT]; exact A.1) (State.isArrayOf_alike hZ.alike A.2.1) hty A.2.2 (inb_of S hj) (H.at (inb_of S hj) hv) hg hs hd
theorem own_iaload (X : Stand p l e R s m args below meth c T locs cells slots) (hx : p.tables.exec = Jvm.exec) (hZ : Z.Warmed39 s.vm) (eT : T.heap = h) (F : Arv Z h a k .int n vs d) (hj : ¬ j < 0 ∧ j < n) (hv : vs.getD j.toNatClampNeg d = v) {g : JFrame} (hg : g.method = m) (hs : g.stack = .int j :: .ref a :: rest) (hd : decode c.code g.pc = .ok (.iaload, 1)) :
    ∀ target, Steps p.tables e below (T.setTop { g with pc := g.pc + 1, stack := v :: rest }) target → Steps p.tables e below (T.setTop g) target := by
  obtain ⟨cl, A, -, S, -, H, -⟩ := F
  exact X.iaload hx (by rw [eT]; exact A.1) (State.isArrayOf_alike hZ.alike A.2.1) A.2.2 (inb_of S hj) (H.at (inb_of S hj) hv) hg hs hd
theorem own_laload (X : Stand p l e R s m args below meth c T locs cells slots) (hx : p.tables.exec = Jvm.exec) (hZ : Z.Warmed39 s.vm) (eT : T.heap = h) (F : Arv Z h a k .long n vs d) (hj : ¬ j < 0 ∧ j < n) (hv : vs.getD j.toNatClampNeg d = v) {g : JFrame} (hg : g.method = m) (hs : g.stack = .int j :: .ref a :: rest) (hd : decode c.code g.pc = .ok (.laload, 1)) :
    ∀ target, Steps p.tables e below (T.setTop { g with pc := g.pc + 1, stack := v :: rest }) target → Steps p.tables e below (T.setTop g) target := by
  obtain ⟨cl, A, -, S, -, H, -⟩ := F
  exact X.laload hx (by rw [eT]; exact A.1) (State.isArrayOf_alike hZ.alike A.2.1) A.2.2 (inb_of S hj) (H.at (inb_of S hj) hv) hg hs hd
theorem own_baloadB (X : Stand p l e R s m args below meth c T locs cells slots) (hx : p.tables.exec = Jvm.exec) (hZ : Z.Warmed39 s.vm) (eT : T.heap = h) (F : Arv Z h a k .byte n vs d) (hj : ¬ j < 0 ∧ j < n) (hv : vs.getD j.toNatClampNeg d = v) {g : JFrame} (hg : g.method = m) (hs : g.stack = .int j :: .ref a :: rest) (hd : decode c.code g.pc = .ok (.baload, 1)) :
    ∀ target, Steps p.tables e below (T.setTop { g with pc := g.pc + 1, stack := v :: rest }) target → Steps p.tables e below (T.setTop g) target := by
  obtain ⟨cl, A, -, S, -, H, -⟩ := F
  exact X.baloadBytes hx (by rw [eT]; exact A.1) (State.isArrayOf_alike hZ.alike A.2.1) A.2.2 (inb_of S hj) (H.at (inb_of S hj) hv) hg hs hd
theorem own_baloadZ (X : Stand p l e R s m args below meth c T locs cells slots) (hx : p.tables.exec = Jvm.exec) (hZ : Z.Warmed39 s.vm) (eT : T.heap = h) (F : Arv Z h a k .boolean n vs d) (hj : ¬ j < 0 ∧ j < n) (hv : vs.getD j.toNatClampNeg d = v) {g : JFrame} (hg : g.method = m) (hs : g.stack = .int j :: .ref a :: rest) (hd : decode c.code g.pc = .ok (.baload, 1)) :
    ∀ target, Steps p.tables e below (T.setTop { g with pc := g.pc + 1, stack := v :: rest }) target → Steps p.tables e below (T.setTop g) target := by
  obtain ⟨cl, A, -, S, -, H, -⟩ := F
  exact X.baloadBooleans hx (by rw [eT]; exact A.1) (State.isArrayOf_alike hZ.alike A.2.1) A.2.2 (inb_of S hj) (H.at (inb_of S hj) hv) hg hs hd
theorem own_alen (X : Stand p l e R s m args below meth c T locs cells slots) (hx : p.tables.exec = Jvm.exec) (hZ : Z.Warmed39 s.vm) (eT : T.heap = h) (F : Arv Z h a k ty n vs d) {g : JFrame} (hg : g.method = m) (hs : g.stack = .ref a :: rest) (hd : decode c.code g.pc = .ok (.arraylength, 1)) :
    ∀ target, Steps p.tables e below (T.setTop { g with pc := g.pc + 1, stack := .int n :: rest }) target → Steps p.tables e below (T.setTop g) target := by
  obtain ⟨cl, A, -, S, N, -, -⟩ := F
  have q := X.arraylength hx (by rw [eT]; exact A.1) (State.isArrayOf_alike hZ.alike A.2.1) hg hs hd
  rw [len_of S N] at q
  exact q
end OwnArrays
theorem own_psel {Z s : State} {a0 args : Array Value} {y : MethodName} {n : Nat} (hZ : Z.Warmed39 s.vm) (wi : (Jvm.Cond.instantiable y.cls n).before a0 Z = true) (wp : (Jvm.Cond.privateMethod y).before a0 Z = true) (wm : (Jvm.Cond.instanceMethod y).before a0 Z = true) (hy : y.cls ≠ "java/lang/invoke/MethodHandle" ∧ y.cls ≠ "java/lang/invoke/VarHandle") : (Jvm.Cond.selects y.cls y y).before args s = true := by
  have wi' : (Jvm.Cond.instantiable y.cls n).before args s = true := mvT hZ wi
  obtain ⟨c2, k2, i1, i2, -, i4, -⟩ := Cond.instantiable_spec wi'
  simp only [Bool.or_eq_false_iff] at i4
  exact selects_self_of_private i1 i2 i4.1 (Cond.privateMethod_at (mvP hZ wp (args := args))) (mvT hZ wm) hy
section OwnMore
variable {args : Array Value} {s : State} {t u : Jvm.Term} {x y : Addr} {cl : Cell} {ty : FieldType} {n j : Int32}
theorem own_len (h : (Jvm.Cond.eq (Jvm.Term.length t) (Jvm.Term.int n)).value args s none s [] = some true) (ht : t.eval args s none [] s = some (.ref x)) (A : Jvm.RoadKit.Arr s s.heap x cl ty) : cl.slots.size < 2 ^ 31 ∧ cl.slots.size.toInt32 = n := by
  have e := own_eqI h (Term.int_eval _)
  have ha : s.arrayAt? x = some cl := A.fin (Vm.Alike.refl _)
  by_cases hl : cl.slots.size < 2 ^ 31
  · refine ⟨hl, ?_⟩
    rw [len_f ht ha hl] at e
    exact Value.int.inj (Option.some.inj e)
  · simp [Term.eval, ht, ha, hl] at e
theorem own_elem (h : (Jvm.Cond.eq (Jvm.Term.elem t (Jvm.Term.int j)) u).value args s none s [] = some true) (hu : u.eval args s none [] s = some (.ref y)) (ht : t.eval args s none [] s = some (.ref x)) (A : Jvm.RoadKit.Arr s s.heap x cl ty) : cl.slots[j.toNatClampNeg]? = some (.ref y) :=
  (elem_in (own_eqR h hu) ht (Term.int_eval _) A.1).2
end OwnMore
theorem own_sto {Z : State} {h : Heap} {a y : Addr} {k : ClassId} {ty : FieldType} {n : Int32} {vs : List Value} {d : Value} {C : String} (F : Arv Z h a k ty n vs d) (O : Ovr Z k C) (I : Ins Z h y C true) : Sto Z h a (.ref y) := by
  obtain ⟨c, A, q, -⟩ := F
  exact Sto.ofV A q O I
theorem own_cp0 {p : Program} {l : Launch} {e : Env} {R : Room} {s : State} {m : MethodId} {args : Array Value} {below : List Frame} {meth : Method} {c : Code} {T : State} {locs : List Loc} {cells slots : Nat} {Z : State} {h : Heap} {a b : Addr} {k k' : ClassId} {ty ty' : FieldType} {z z' : Int32} {vs vd : List Value} {dv dd : Value}
    (X : Stand p l e R s m args below meth c T locs cells slots) (hx : p.tables.exec = Jvm.exec) (hZ : Z.Warmed39 s.vm) {a0 : Array Value} {own : String} {index : Nat} (hown : s.vm.findClass own = some m.cls)
    (w1 : (Jvm.Cond.methodLink own index Jvm.Stand.acN).before a0 Z = true) (w2 : (Jvm.Cond.native Jvm.Stand.acN).before a0 Z = true) (w3 : (Jvm.Cond.static Jvm.Stand.acN).before a0 Z = true) (w4 : (Jvm.Cond.initialized "java/lang/System").before a0 Z = true) (eT : T.heap = h)
    {sp dp nn : Int32} (A : Arv Z h a k ty z vs dv) (B : Arv Z h b k' ty' z' vd dd) (h0 : nn = 0) (hty : (ty = ty' ∧ refKind ty = false) ∨ (refKind ty = true ∧ refKind ty' = true))
    (h1 : ¬ sp < 0) (h2 : ¬ dp < 0) (h4 : sp.toNatClampNeg ≤ z.toNatClampNeg) (h5 : dp.toNatClampNeg ≤ z'.toNatClampNeg)
    {g : JFrame} (hg : g.method = m) (hsize : g.locals.size = c.maxLocals) {rest : List Value} (hs : g.stack = .int nn :: .int dp :: .ref b :: .int sp :: .ref a :: rest) (hd : decode c.code g.pc = .ok (.invokestatic index, 3))
    (hf : 1 ≤ R.frames) {W : Nat} (hW : 2 * g.monitorRoom + (rest.map fun v => v.category).sum ≤ W) (hlo : W + (nativeFrameWords "java/lang/System" "arraycopy" 5 + 11) ≤ R.locals) :
    ∃ T', Stand p l e R s m args below meth c T' locs cells slots ∧ T'.heap = h ∧ ∀ target, Steps p.tables e below (T'.setTop { g with pc := g.pc + 3, stack := rest }) target → Steps p.tables e below (T.setTop g) target := by
  subst h0
  obtain ⟨cs, As, -, Ss, -, Hs, Gs⟩ := A
  obtain ⟨cd, Ad, qd, Sd, Nd, Hd, Gd⟩ := B
  obtain ⟨os, ks, hks, sc, hsk⟩ := State.isArrayOf_alike hZ.alike As.2.1
  obtain ⟨od, kd, hkd, dc, hdk⟩ := State.isArrayOf_alike hZ.alike Ad.2.1
  have nat : ∀ {x : Int32}, ¬ x < 0 → x.toInt = x.toNatClampNeg := fun {x} q => by
    rw [Int32.lt_iff_toInt_lt] at q; have : (0 : Int32).toInt = 0 := rfl
    simp only [Int32.toNatClampNeg]; omega
  have z0 : (0 : Int32).toInt = 0 := rfl
  obtain ⟨vm₁, hW₁, X', st⟩ := X.arraycopyK (srcPos := sp) (destPos := dp) (n := 0) hx hown (mvT hZ w1) (mvT hZ w2) (mvT hZ w3) (mvT hZ w4) (by rw [eT]; exact As.1) (by rw [eT]; exact Ad.1) os od As.2.2 Ad.2.2 hks hkd hsk hdk
    (by rcases hty with ⟨rfl, r⟩ | ⟨r1, r2⟩; simp [r]; simp [r1, r2]) h1 h2 (by decide) (by rw [nat h1, z0, Ss]; omega) (by rw [nat h2, z0, Sd]; omega) (fun vm₁ hw i hi => absurd hi (Nat.not_lt_zero i)) hg hsize hs hd hf (by omega)
  have ec : copied cs cd sp dp 0 = cd := rfl
  have el : locs ++ copyLocs b dp.toNatClampNeg (0 : Int32).toNatClampNeg = locs := List.append_nil _
  rw [ec] at X' st
  rw [el] at X'
  refine ⟨_, X', ?_, st⟩
  show T.heap.setIfInBounds b cd = h
  rw [eT]
  have hb : b < h.size := Ad.lt
  have hg2 := Ad.1
  apply Array.ext_getElem?
  intro i
  by_cases hi : b = i
  · subst hi; rw [Array.getElem?_setIfInBounds_self_of_lt hb, hg2]
  · rw [Array.getElem?_setIfInBounds_ne hi]
theorem own_nb (x : Int32) : nar .byte (x.toInt8.toInt32) = x.toInt8.toInt32 := by simp [nar]
theorem own_clone {p : Program} {l : Launch} {e : Env} {R : Room} {s : State} {m : MethodId} {args : Array Value} {below : List Frame} {meth : Method} {c : Code} {T : State} {locs : List Loc} {cells slots : Nat} {Z : State} {h : Heap} {a : Addr} {ty : FieldType}
    (X : Stand p l e R s m args below meth c T locs cells slots) (hx : p.tables.exec = Jvm.exec) (hZ : Z.Warmed39 s.vm) {a0 : Array Value} {own ad : String} {index : Nat} (hown : s.vm.findClass own = some m.cls)
    (w1 : (Jvm.Cond.methodLink own index ⟨ad, "clone", "()Ljava/lang/Object;"⟩).before a0 Z = true) (w2 : (Jvm.Cond.sameMethod ad "java/lang/Object" "clone" "()Ljava/lang/Object;").before a0 Z = true) (w3 : (Jvm.Cond.native ⟨"java/lang/Object", "clone", "()Ljava/lang/Object;"⟩).before a0 Z = true)
    (w4 : (Jvm.Cond.instanceMethod ⟨"java/lang/Object", "clone", "()Ljava/lang/Object;"⟩).before a0 Z = true) (w5 : (Jvm.Cond.selects ad ⟨ad, "clone", "()Ljava/lang/Object;"⟩ ⟨"java/lang/Object", "clone", "()Ljava/lang/Object;"⟩).before a0 Z = true) (w6 : (Jvm.Cond.castable ad "java/lang/Cloneable").before a0 Z = true)
    (eT : T.heap = h) {k : ClassId} {z : Int32} {vs : List Value} {dv : Value} (F : Arv Z h a k ty z vs dv) (E : Exa Z h a ad) {g : JFrame} (hg : g.method = m) (hsize : g.locals.size = c.maxLocals) {rest : List Value} (hst : g.stack = .ref a :: rest) (hd : decode c.code g.pc = .ok (.invokevirtual index, 3))
    (hf : 1 ≤ R.frames) {W cap : Nat} (hW : 2 * g.monitorRoom + (rest.map fun v => v.category).sum ≤ W) (hl : W + 14 ≤ R.locals) (hcap : z.toNatClampNeg ≤ cap) (hc : cells + 1 ≤ R.cells) (hsl : slots + cap ≤ R.slots) :
    ∃ T' h', Stand p l e R s m args below meth c T' locs (cells + 1) (slots + cap) ∧ T'.heap = h' ∧ Ext h h' ∧ Arv Z h' h.size k ty z vs dv ∧ Exa Z h' h.size ad ∧
      ∀ target, Steps p.tables e below (T'.setTop { g with pc := g.pc + 3, stack := .ref h.size :: rest }) target → Steps p.tables e below (T.setTop g) target := by
  obtain ⟨cl, A, q1, S, q3, H, G⟩ := F
  have FC : FitC Z cl := fitC_of A fun i hi v hv => by rw [H i hi] at hv; cases hv; exact G i hi
  obtain ⟨T', h', X', e', ex, A', E', st⟩ := cloneA X hx hZ hown w1 w2 w3 w4 w5 w6 eT A E FC hg hsize hst hd hf hW hl (by rw [S]; exact hcap) hc hsl
  exact ⟨T', h', X', e', ex, ⟨cloneOf cl, A', q1, S, q3, H, G⟩, E', st⟩
theorem own_d2_0 : decode prog_17_method_1_code 0 = .ok (.getstatic 34, 3) := by decide +kernel
theorem own_d2_3 : decode prog_17_method_1_code 3 = .ok (.invokevirtual 38, 3) := by decide +kernel
theorem own_d2_6 : decode prog_17_method_1_code 6 = .ok (.checkcast 39, 3) := by decide +kernel
theorem own_d2_9 : decode prog_17_method_1_code 9 = .ok (.areturn, 1) := by decide +kernel
theorem own_ef2 (m : MethodId)  : entryFrame m #[] 0 = mkF m 0 #[] [] := by first | (simp [entryFrame, mkF, argsToLocals, Value.category]; done) | rfl
theorem own_pn0 : plainName "com/example/checkpost/checkpost/protocol/Errno" = true := by first | (simp [plainName, overriddenIn]; done) | decide +kernel
def own_Q2_2 (Z : State) (w__VALUES : Addr) (k_w__VALUES : ClassId) (w_ENOENT : Addr) (w_EIO : Addr) (w_EBADF : Addr) (w_EACCES : Addr) (w_EEXIST : Addr) (w_ENOTDIR : Addr) (w_EISDIR : Addr) (w_EINVAL : Addr) (w_ENOSPC : Addr) (w_ENAMETOOLONG : Addr) (h0 : Heap) (n0 : Nat) (v : Option Value) (h : Heap) (L : List Loc) : Prop := Fr n0 L ∧ Keep h0 h [] ∧ ((∃ b2x2_2 : Addr, v = some (.ref b2x2_2) ∧ h0.size ≤ b2x2_2 ∧ Arv Z h b2x2_2 k_w__VALUES (.object "com/example/checkpost/checkpost/protocol/Errno") (10 : Int32) [(.ref w_ENOENT), (.ref w_EIO), (.ref w_EBADF), (.ref w_EACCES), (.ref w_EEXIST), (.ref w_ENOTDIR), (.ref w_EISDIR), (.ref w_EINVAL), (.ref w_ENOSPC), (.ref w_ENAMETOOLONG)] .null ∧ Exa Z h b2x2_2 "[Lcom/example/checkpost/checkpost/protocol/Errno;" ∧ True))
set_option maxRecDepth 65536 in
set_option maxHeartbeats 40000000 in
theorem own_rm2_2 (l : Launch) (Z : State) (a0 : Array Value) (hw : ∀ d ∈ tables_1, d.before a0 Z = true) (ws : List Jvm.Cond) (w__VALUES : Addr) (k_w__VALUES : ClassId) (w_ENOENT : Addr) (w_EIO : Addr) (w_EBADF : Addr) (w_EACCES : Addr) (w_EEXIST : Addr) (w_ENOTDIR : Addr) (w_EISDIR : Addr) (w_EINVAL : Addr) (w_ENOSPC : Addr) (w_ENAMETOOLONG : Addr) (h0 : Heap) (n0 : Nat) (Z0 : n0 ≤ h0.size) (P0 : Sta Z h0 "com/example/checkpost/checkpost/protocol/Errno" "$VALUES" "[Lcom/example/checkpost/checkpost/protocol/Errno;" (.ref w__VALUES)) (P1 : Arv Z h0 w__VALUES k_w__VALUES (.object "com/example/checkpost/checkpost/protocol/Errno") (10 : Int32) [(.ref w_ENOENT), (.ref w_EIO), (.ref w_EBADF), (.ref w_EACCES), (.ref w_EEXIST), (.ref w_ENOTDIR), (.ref w_EISDIR), (.ref w_EINVAL), (.ref w_ENOSPC), (.ref w_ENAMETOOLONG)] .null) (P2 : Exa Z h0 w__VALUES "[Lcom/example/checkpost/checkpost/protocol/Errno;") :
    MetFree l (⟨"com/example/checkpost/checkpost/protocol/Errno", "values", "()[Lcom/example/checkpost/checkpost/protocol/Errno;"⟩ : MethodName) (head1 (Jvm.Cond.code (⟨"com/example/checkpost/checkpost/protocol/Errno", "values", "()[Lcom/example/checkpost/checkpost/protocol/Errno;"⟩ : MethodName) prog_17_method_1_code 0 (some (.array (.object "com/example/checkpost/checkpost/protocol/Errno"))) :: ws) ({ frames := 1, cells := 1, slots := 10, locals := 14 } : Room)) (fun a U => a = #[] ∧ Z.Warmed39 U.vm ∧ U.heap = h0) (fun _ _ _ _ _ => True) (fun _ U o U' => ∃ v L, o = .returned v ∧ own_Q2_2 Z w__VALUES k_w__VALUES w_ENOENT w_EIO w_EBADF w_EACCES w_EEXIST w_ENOTDIR w_EISDIR w_EINVAL w_ENOSPC w_ENAMETOOLONG h0 n0 v U'.heap L ∧ FrameEnd U o U' L ({ frames := 1, cells := 1, slots := 10, locals := 14 } : Room).cells ({ frames := 1, cells := 1, slots := 10, locals := 14 } : Room).slots) := by
  refine MetFree.of_bodySF (plainFor_of_name own_pn0) hisR ?_
  intro p e s m args below meth c s₁ Bd hml0 hP hK
  obtain ⟨rfl, hZ, hh⟩ := hP
  have hx := Bd.exec
  have hlk := Bd.notSynchronized
  have hret := Bd.returns
  have hby := Bd.bytes
  have hml : c.maxLocals = 0 := hml0
  have hown : s.vm.findClass "com/example/checkpost/checkpost/protocol/Errno" = some m.cls := findClass_of_methodNamed Bd.named
  have hnm := (name_of_methodNamed Bd.named Bd.method).1
  have X0 : Stand p l e ({ frames := 1, cells := 1, slots := 10, locals := 14 } : Room) s m #[] below meth c s₁ [] 0 0 := Stand.of_body Bd
  have e0 : s₁.heap = h0 := by rw [← hh, Bd.state]; rfl
  have N0 := Fr.nil n0
  refine own_open (Q := own_Q2_2 Z w__VALUES k_w__VALUES w_ENOENT w_EIO w_EBADF w_EACCES w_EEXIST w_ENOTDIR w_EISDIR w_EINVAL w_ENOSPC w_ENAMETOOLONG h0 n0) (own_ef2 m ) ?_
  show own_Go _ _ _ _ s₁ (mkF m 0 #[] [])
  obtain ⟨T1, X1, e1, st1⟩ := getS2 X0 hx hZ hown (host := "") (Or.inl (own_w hw 7 rfl)) Via.refl e0 P0 (g := (mkF m 0 #[] [])) rfl (hb hby own_d2_0)
  refine own_st st1 ?_
  show own_Go _ _ _ _ T1 (mkF m 3 #[] [(.ref w__VALUES)])
  obtain ⟨T2, h2, X2, e2, E2, V2, Ex2, st2⟩ := own_clone X1 hx hZ hown (own_w hw 9 rfl) (own_w hw 10 rfl) (own_w hw 14 rfl) (own_w hw 12 rfl) (own_w hw 13 rfl) (own_w hw 15 rfl) e1 P1 P2 (g := (mkF m 3 #[] [(.ref w__VALUES)])) rfl (by rw [hml]; rfl) rfl (hb hby own_d2_3) (by decide) (W := 0) (cap := 10) (by show 2 * 0 + _ ≤ _; exact Nat.le_of_eq rfl) (by decide) (by decide) (by decide) (by decide)
  obtain ⟨b2x2_2, g2⟩ : ∃ z, z = h0.size := ⟨_, rfl⟩
  rw [← g2] at V2 Ex2 st2
  have g_b2x2_2 : n0 ≤ b2x2_2 := Nat.le_trans Z0 (Nat.le_of_eq g2.symm)
  have sz_b2x2_2 : h0.size ≤ b2x2_2 := Nat.le_trans (Keep.refl h0 []).1 (Nat.le_of_eq g2.symm)
  refine own_st st2 ?_
  have K2 : Keep h0 h2 [] := (Keep.refl h0 []).ext E2
  have Z2 := Nat.le_trans Z0 E2.1
  show own_Go _ _ _ _ T2 (mkF m 6 #[] [(.ref b2x2_2)])
  obtain ⟨T3, X3, e3, st3⟩ := castY X2 hx hZ hown (own_w hw 27 rfl) e2 (Ins.self Ex2) (g := (mkF m 6 #[] [(.ref b2x2_2)])) rfl rfl (hb hby own_d2_6)
  refine own_st st3 ?_
  show own_Go _ _ _ _ T3 (mkF m 9 #[] [(.ref b2x2_2)])
  exact own_retA X3 hx hlk hret rfl rfl (hb hby own_d2_9) (by decide) (by decide) e3 ⟨N0, K2, ⟨b2x2_2, rfl, sz_b2x2_2, V2, Ex2, trivial⟩⟩
theorem own_pd0 : parseMethodDescriptor "()[Lcom/example/checkpost/checkpost/protocol/Errno;" = some ⟨[], some (.array (.object "com/example/checkpost/checkpost/protocol/Errno"))⟩ := by decide +kernel
theorem own_d7_0 : decode jdk_31_method_10_code 0 = .ok (.aload_n 0, 1) := by decide +kernel
theorem own_d7_1 : decode jdk_31_method_10_code 1 = .ok (.ifnonnull 11, 3) := by decide +kernel
theorem own_d7_12 : decode jdk_31_method_10_code 12 = .ok (.aload_n 0, 1) := by decide +kernel
theorem own_d7_13 : decode jdk_31_method_10_code 13 = .ok (.areturn, 1) := by decide +kernel
theorem own_ef7 (m : MethodId) (x0 : Addr) : entryFrame m #[(.ref x0)] 1 = mkF m 0 #[.val (.ref x0)] [] := by first | (simp [entryFrame, mkF, argsToLocals, Value.category]; done) | rfl
theorem own_pn1 : plainName "java/util/Objects" = true := by first | (simp [plainName, overriddenIn]; done) | decide +kernel
def own_Q7_4 (Z : State) (w_ENOENT : Addr) (h0 : Heap) (n0 : Nat) (v : Option Value) (h : Heap) (L : List Loc) : Prop := Fr n0 L ∧ Keep h0 h [] ∧ ((v = some (.ref w_ENOENT) ∧ True))
set_option maxRecDepth 65536 in
set_option maxHeartbeats 40000000 in
theorem own_rm7_4 (l : Launch) (Z : State) (a0 : Array Value) (hw : ∀ d ∈ tables_1, d.before a0 Z = true) (ws : List Jvm.Cond) (w_ENOENT : Addr) (h0 : Heap) (n0 : Nat) (Z0 : n0 ≤ h0.size) :
    MetFree l (⟨"java/util/Objects", "requireNonNull", "(Ljava/lang/Object;)Ljava/lang/Object;"⟩ : MethodName) (head1 (Jvm.Cond.code (⟨"java/util/Objects", "requireNonNull", "(Ljava/lang/Object;)Ljava/lang/Object;"⟩ : MethodName) jdk_31_method_10_code 1 (some (.object "java/lang/Object")) :: ws) ({ frames := 0, cells := 0, slots := 0, locals := 0 } : Room)) (fun a U => a = #[(.ref w_ENOENT)] ∧ Z.Warmed39 U.vm ∧ U.heap = h0) (fun _ _ _ _ _ => True) (fun _ U o U' => ∃ v L, o = .returned v ∧ own_Q7_4 Z w_ENOENT h0 n0 v U'.heap L ∧ FrameEnd U o U' L ({ frames := 0, cells := 0, slots := 0, locals := 0 } : Room).cells ({ frames := 0, cells := 0, slots := 0, locals := 0 } : Room).slots) := by
  refine MetFree.of_bodySF (plainFor_of_name own_pn1) hisR ?_
  intro p e s m args below meth c s₁ Bd hml0 hP hK
  obtain ⟨rfl, hZ, hh⟩ := hP
  have hx := Bd.exec
  have hlk := Bd.notSynchronized
  have hret := Bd.returns
  have hby := Bd.bytes
  have hml : c.maxLocals = 1 := hml0
  have hown : s.vm.findClass "java/util/Objects" = some m.cls := findClass_of_methodNamed Bd.named
  have hnm := (name_of_methodNamed Bd.named Bd.method).1
  have X0 : Stand p l e ({ frames := 0, cells := 0, slots := 0, locals := 0 } : Room) s m #[(.ref w_ENOENT)] below meth c s₁ [] 0 0 := Stand.of_body Bd
  have e0 : s₁.heap = h0 := by rw [← hh, Bd.state]; rfl
  have N0 := Fr.nil n0
  refine own_open (Q := own_Q7_4 Z w_ENOENT h0 n0) (own_ef7 m w_ENOENT) ?_
  show own_Go _ _ _ _ s₁ (mkF m 0 #[.val (.ref w_ENOENT)] [])
  refine own_st (fun t k => XS.aloadN X0.here hx rfl (hb hby own_d7_0) rfl rfl k) ?_
  show own_Go _ _ _ _ s₁ (mkF m 1 #[.val (.ref w_ENOENT)] [(.ref w_ENOENT)])
  refine own_st (fun t k => XS.ifnonnullYes X0.here hx rfl (pc0 := 1) (pc' := 12) rfl (hb hby own_d7_1) rfl (by decide) (by decide) k) ?_
  show own_Go _ _ _ _ s₁ (mkF m 12 #[.val (.ref w_ENOENT)] [])
  refine own_st (fun t k => XS.aloadN X0.here hx rfl (hb hby own_d7_12) rfl rfl k) ?_
  show own_Go _ _ _ _ s₁ (mkF m 13 #[.val (.ref w_ENOENT)] [(.ref w_ENOENT)])
  exact own_retA X0 hx hlk hret rfl rfl (hb hby own_d7_13) (by decide) (by decide) e0 ⟨N0, (Keep.refl h0 []), ⟨rfl, trivial⟩⟩
theorem own_pd1 : parseMethodDescriptor "(Ljava/lang/Object;)Ljava/lang/Object;" = some ⟨[(.object "java/lang/Object")], some (.object "java/lang/Object")⟩ := by decide +kernel
theorem own_d8_0 : decode jdk_32_method_2_code 0 = .ok (.aload_n 0, 1) := by decide +kernel
theorem own_d8_1 : decode jdk_32_method_2_code 1 = .ok (.invokespecial 7, 3) := by decide +kernel
theorem own_d8_4 : decode jdk_32_method_2_code 4 = .ok (.aload_n 0, 1) := by decide +kernel
theorem own_d8_5 : decode jdk_32_method_2_code 5 = .ok (.aload_n 1, 1) := by decide +kernel
theorem own_d8_6 : decode jdk_32_method_2_code 6 = .ok (.putfield 13, 3) := by decide +kernel
theorem own_d8_9 : decode jdk_32_method_2_code 9 = .ok (.return_, 1) := by decide +kernel
theorem own_ef8 (m : MethodId) (x0 : Addr) (x1 : Addr) : entryFrame m #[(.ref x0), (.ref x1)] 2 = mkF m 0 #[.val (.ref x0), .val (.ref x1)] [] := by first | (simp [entryFrame, mkF, argsToLocals, Value.category]; done) | rfl
theorem own_pn2 : plainName "java/util/Optional" = true := by first | (simp [plainName, overriddenIn]; done) | decide +kernel
def own_Q8_6 (Z : State) (b1x6_3 : Addr) (w_ENOENT : Addr) (h0 : Heap) (n0 : Nat) (v : Option Value) (h : Heap) (L : List Loc) : Prop := Fr n0 L ∧ Keep h0 h [b1x6_3] ∧ ((v = none ∧ Fld Z h b1x6_3 "java/util/Optional" "value" "Ljava/lang/Object;" (.ref w_ENOENT) ∧ True))
set_option maxRecDepth 65536 in
set_option maxHeartbeats 40000000 in
theorem own_rm8_6 (l : Launch) (Z : State) (a0 : Array Value) (hw : ∀ d ∈ tables_1, d.before a0 Z = true) (ws : List Jvm.Cond) (b1x6_3 : Addr) (w_ENOENT : Addr) (h0 : Heap) (n0 : Nat) (Z0 : n0 ≤ h0.size) (P0 : Exa Z h0 b1x6_3 "java/util/Optional") (P1 : Fld Z h0 b1x6_3 "java/util/Optional" "value" "Ljava/lang/Object;" .null) (g_b1x6_3 : n0 ≤ b1x6_3) :
    MetFree l (⟨"java/util/Optional", "<init>", "(Ljava/lang/Object;)V"⟩ : MethodName) (head1 (Jvm.Cond.code (⟨"java/util/Optional", "<init>", "(Ljava/lang/Object;)V"⟩ : MethodName) jdk_32_method_2_code 2 none :: ws) ({ frames := 1, cells := 0, slots := 0, locals := 12 } : Room)) (fun a U => a = #[(.ref b1x6_3), (.ref w_ENOENT)] ∧ Z.Warmed39 U.vm ∧ U.heap = h0) (fun _ _ _ _ _ => True) (fun _ U o U' => ∃ v L, o = .returned v ∧ own_Q8_6 Z b1x6_3 w_ENOENT h0 n0 v U'.heap L ∧ FrameEnd U o U' L ({ frames := 1, cells := 0, slots := 0, locals := 12 } : Room).cells ({ frames := 1, cells := 0, slots := 0, locals := 12 } : Room).slots) := by
  refine MetFree.of_bodySF (plainFor_of_name own_pn2) hisR ?_
  intro p e s m args below meth c s₁ Bd hml0 hP hK
  obtain ⟨rfl, hZ, hh⟩ := hP
  have hx := Bd.exec
  have hlk := Bd.notSynchronized
  have hret := Bd.returns
  have hby := Bd.bytes
  have hml : c.maxLocals = 2 := hml0
  have hown : s.vm.findClass "java/util/Optional" = some m.cls := findClass_of_methodNamed Bd.named
  have hnm := (name_of_methodNamed Bd.named Bd.method).1
  have X0 : Stand p l e ({ frames := 1, cells := 0, slots := 0, locals := 12 } : Room) s m #[(.ref b1x6_3), (.ref w_ENOENT)] below meth c s₁ [] 0 0 := Stand.of_body Bd
  have e0 : s₁.heap = h0 := by rw [← hh, Bd.state]; rfl
  have N0 := Fr.nil n0
  refine own_open (Q := own_Q8_6 Z b1x6_3 w_ENOENT h0 n0) (own_ef8 m b1x6_3 w_ENOENT) ?_
  show own_Go _ _ _ _ s₁ (mkF m 0 #[.val (.ref b1x6_3), .val (.ref w_ENOENT)] [])
  refine own_st (fun t k => XS.aloadN X0.here hx rfl (hb hby own_d8_0) rfl rfl k) ?_
  show own_Go _ _ _ _ s₁ (mkF m 1 #[.val (.ref b1x6_3), .val (.ref w_ENOENT)] [(.ref b1x6_3)])
  obtain ⟨T1, X1, e1, st1⟩ := initO X0 hx hZ hown (own_w hw 60 rfl) (own_w hw 61 rfl) (own_w hw 62 rfl) e0 (g := (mkF m 1 #[.val (.ref b1x6_3), .val (.ref w_ENOENT)] [(.ref b1x6_3)])) rfl (by rw [hml]; rfl) rfl (hb hby own_d8_1) (by decide) (W := 0) (by show 2 * 0 + _ ≤ _; exact Nat.le_of_eq rfl) (by decide)
  refine own_st st1 ?_
  show own_Go _ _ _ _ T1 (mkF m 4 #[.val (.ref b1x6_3), .val (.ref w_ENOENT)] [])
  refine own_st (fun t k => XS.aloadN X1.here hx rfl (hb hby own_d8_4) rfl rfl k) ?_
  show own_Go _ _ _ _ T1 (mkF m 5 #[.val (.ref b1x6_3), .val (.ref w_ENOENT)] [(.ref b1x6_3)])
  refine own_st (fun t k => XS.aloadN X1.here hx rfl (hb hby own_d8_5) rfl rfl k) ?_
  show own_Go _ _ _ _ T1 (mkF m 6 #[.val (.ref b1x6_3), .val (.ref w_ENOENT)] [(.ref w_ENOENT), (.ref b1x6_3)])
  obtain ⟨T2, h2, X2, e2, W2, st2⟩ := putF X1 hx hZ hown (host := "") (Or.inl (own_w hw 41 rfl)) Via.refl e1 P1 P0 (Or.inr ⟨(own_w hw 42 rfl), rfl, hnm⟩) (own_w hw 51 rfl) (ty := (.object "java/lang/Object")) (by decide) rfl rfl (g := (mkF m 6 #[.val (.ref b1x6_3), .val (.ref w_ENOENT)] [(.ref w_ENOENT), (.ref b1x6_3)])) rfl rfl (hb hby own_d8_6)
  refine own_st st2 ?_
  have K2 : Keep h0 h2 [b1x6_3] := (Keep.refl h0 [b1x6_3]).wr W2 (Or.inl (List.mem_of_getElem? (i := 0) rfl))
  have Z2 := Nat.le_trans Z0 (Keep.of_wr W2).1
  have N2 := Fr.snoc X2 N0 g_b1x6_3
  have F2 := P1.same W2
  show own_Go _ _ _ _ T2 (mkF m 9 #[.val (.ref b1x6_3), .val (.ref w_ENOENT)] [])
  exact own_retV X2 hx hlk hret (hb hby own_d8_9) (by decide) (by decide) e2 ⟨N2, K2, ⟨rfl, F2, trivial⟩⟩
theorem own_pd2 : parseMethodDescriptor "(Ljava/lang/Object;)V" = some ⟨[(.object "java/lang/Object")], none⟩ := by decide +kernel
theorem own_d6_0 : decode jdk_32_method_3_code 0 = .ok (.new 2, 3) := by decide +kernel
theorem own_d6_3 : decode jdk_32_method_3_code 3 = .ok (.dup, 1) := by decide +kernel
theorem own_d6_4 : decode jdk_32_method_3_code 4 = .ok (.aload_n 0, 1) := by decide +kernel
theorem own_d6_5 : decode jdk_32_method_3_code 5 = .ok (.invokestatic 17, 3) := by decide +kernel
theorem own_d6_8 : decode jdk_32_method_3_code 8 = .ok (.invokespecial 23, 3) := by decide +kernel
theorem own_d6_11 : decode jdk_32_method_3_code 11 = .ok (.areturn, 1) := by decide +kernel
theorem own_ef6 (m : MethodId) (x0 : Addr) : entryFrame m #[(.ref x0)] 1 = mkF m 0 #[.val (.ref x0)] [] := by first | (simp [entryFrame, mkF, argsToLocals, Value.category]; done) | rfl
def own_Q6_3 (Z : State) (w_ENOENT : Addr) (h0 : Heap) (n0 : Nat) (v : Option Value) (h : Heap) (L : List Loc) : Prop := Fr n0 L ∧ Keep h0 h [] ∧ ((∃ b1x6_3 : Addr, v = some (.ref b1x6_3) ∧ h0.size ≤ b1x6_3 ∧ Exa Z h b1x6_3 "java/util/Optional" ∧ Fld Z h b1x6_3 "java/util/Optional" "value" "Ljava/lang/Object;" (.ref w_ENOENT) ∧ True))
set_option maxRecDepth 65536 in
set_option maxHeartbeats 40000000 in
theorem own_rm6_3 (l : Launch) (Z : State) (a0 : Array Value) (hw : ∀ d ∈ tables_1, d.before a0 Z = true) (ws : List Jvm.Cond) (w_ENOENT : Addr) (h0 : Heap) (n0 : Nat) (Z0 : n0 ≤ h0.size) :
    MetFree l (⟨"java/util/Optional", "of", "(Ljava/lang/Object;)Ljava/util/Optional;"⟩ : MethodName) (head1 (Jvm.Cond.code (⟨"java/util/Optional", "of", "(Ljava/lang/Object;)Ljava/util/Optional;"⟩ : MethodName) jdk_32_method_3_code 1 (some (.object "java/util/Optional")) :: ws) ({ frames := 2, cells := 1, slots := 1, locals := 26 } : Room)) (fun a U => a = #[(.ref w_ENOENT)] ∧ Z.Warmed39 U.vm ∧ U.heap = h0) (fun _ _ _ _ _ => True) (fun _ U o U' => ∃ v L, o = .returned v ∧ own_Q6_3 Z w_ENOENT h0 n0 v U'.heap L ∧ FrameEnd U o U' L ({ frames := 2, cells := 1, slots := 1, locals := 26 } : Room).cells ({ frames := 2, cells := 1, slots := 1, locals := 26 } : Room).slots) := by
  refine MetFree.of_bodySF (plainFor_of_name own_pn2) hisR ?_
  intro p e s m args below meth c s₁ Bd hml0 hP hK
  obtain ⟨rfl, hZ, hh⟩ := hP
  have hx := Bd.exec
  have hlk := Bd.notSynchronized
  have hret := Bd.returns
  have hby := Bd.bytes
  have hml : c.maxLocals = 1 := hml0
  have hown : s.vm.findClass "java/util/Optional" = some m.cls := findClass_of_methodNamed Bd.named
  have hnm := (name_of_methodNamed Bd.named Bd.method).1
  have X0 : Stand p l e ({ frames := 2, cells := 1, slots := 1, locals := 26 } : Room) s m #[(.ref w_ENOENT)] below meth c s₁ [] 0 0 := Stand.of_body Bd
  have e0 : s₁.heap = h0 := by rw [← hh, Bd.state]; rfl
  have N0 := Fr.nil n0
  refine own_open (Q := own_Q6_3 Z w_ENOENT h0 n0) (own_ef6 m w_ENOENT) ?_
  show own_Go _ _ _ _ s₁ (mkF m 0 #[.val (.ref w_ENOENT)] [])
  obtain ⟨T1, h1, X1, e1, E1, A1, D1, -, st1⟩ := newO X0 hx hZ hown (own_w hw 50 rfl) (own_w hw 51 rfl) (own_w hw 33 rfl) e0 (g := (mkF m 0 #[.val (.ref w_ENOENT)] [])) rfl (hb hby own_d6_0) (by decide) (by decide)
  obtain ⟨b1x6_3, g1⟩ : ∃ z, z = h0.size := ⟨_, rfl⟩
  rw [← g1] at A1 D1 st1
  have g_b1x6_3 : n0 ≤ b1x6_3 := Nat.le_trans Z0 (Nat.le_of_eq g1.symm)
  have sz_b1x6_3 : h0.size ≤ b1x6_3 := Nat.le_trans (Keep.refl h0 []).1 (Nat.le_of_eq g1.symm)
  refine own_st st1 ?_
  have K1 : Keep h0 h1 [] := (Keep.refl h0 []).ext E1
  have Z1 := Nat.le_trans Z0 E1.1
  have F1_42 : Fld Z h1 b1x6_3 "java/util/Optional" "value" "Ljava/lang/Object;" .null := D1 (Or.inr (own_w hw 42 rfl)) (ty := (.object "java/lang/Object")) (by decide)
  show own_Go _ _ _ _ T1 (mkF m 3 #[.val (.ref w_ENOENT)] [(.ref b1x6_3)])
  refine own_st (fun t k => XS.dup X1.here hx rfl (hb hby own_d6_3) rfl rfl k) ?_
  show own_Go _ _ _ _ T1 (mkF m 4 #[.val (.ref w_ENOENT)] [(.ref b1x6_3), (.ref b1x6_3)])
  refine own_st (fun t k => XS.aloadN X1.here hx rfl (hb hby own_d6_4) rfl rfl k) ?_
  show own_Go _ _ _ _ T1 (mkF m 5 #[.val (.ref w_ENOENT)] [(.ref w_ENOENT), (.ref b1x6_3), (.ref b1x6_3)])
  obtain ⟨_, _, ⟨T2, L2, k2, n2⟩, -, X2, ⟨Lc2, hQ2, l2, y2, z2⟩, st2⟩ := Jvm.LawKit.callS X1 hx (y := (⟨"java/util/Objects", "requireNonNull", "(Ljava/lang/Object;)Ljava/lang/Object;"⟩ : MethodName)) hown (mvT hZ (own_w hw 52 rfl)) (mvT hZ (own_w hw 53 rfl)) (mvT hZ (own_w hw 54 rfl)) (mvT hZ (own_w hw 55 rfl)) (by decide) (backOf (W := 2) (own_rm7_4 l Z a0 hw [] w_ENOENT h1 n0 Z1 ) hZ (own_w hw 55 rfl) (own_w hw 54 rfl) (by decide) (by decide)) (g := (mkF m 5 #[.val (.ref w_ENOENT)] [(.ref w_ENOENT), (.ref b1x6_3), (.ref b1x6_3)])) rfl (by rw [hml]; rfl) (argsL := [(.ref w_ENOENT)]) (rest := [(.ref b1x6_3), (.ref b1x6_3)]) (lenOf own_pd1 rfl) rfl (by show 2 * 0 + _ ≤ _; exact Nat.le_of_eq rfl) (hb hby own_d6_5) (fun _ _ => ⟨rfl, e1, (by decide : 1 + 0 ≤ _), (by decide : 1 + 0 ≤ _)⟩)
  dsimp only [Pt.U, Pt.locs, Pt.cells, Pt.slots] at X2 l2 y2 z2 st2 hQ2
  subst l2 y2 z2
  obtain ⟨N2q, Kq2, hL2⟩ := hQ2
  have N2 := Fr.app N0 N2q
  have K2 : Keep h0 T2.heap [] := K1.trans Kq2 all0
  have Z2 := Nat.le_trans Z1 Kq2.1
  rcases hL2 with ⟨rfl, -⟩
  · skip
    refine own_st st2 ?_
    show own_Go _ _ _ _ T2 (mkF m 8 #[.val (.ref w_ENOENT)] [(.ref w_ENOENT), (.ref b1x6_3), (.ref b1x6_3)])
    have f3 := (A1.keep Kq2)
    have f4 := (F1_42.keep Kq2 nin0)
    obtain ⟨_, _, ⟨T5, L5, k5, n5⟩, -, X5, ⟨Lc5, hQ5, l5, y5, z5⟩, st5⟩ := X2.specialBack hx (y := (⟨"java/util/Optional", "<init>", "(Ljava/lang/Object;)V"⟩ : MethodName)) rfl hown (mvT hZ (own_w hw 56 rfl)) (mvT hZ (own_w hw 57 rfl)) (mvT hZ (own_w hw 59 rfl)) (by decide) (backOf (W := 1) (own_rm8_6 l Z a0 hw [] b1x6_3 w_ENOENT T2.heap n0 Z2 f3 f4 g_b1x6_3) hZ (own_w hw 59 rfl) (own_w hw 33 rfl) (by decide) (by decide)) (g := (mkF m 8 #[.val (.ref w_ENOENT)] [(.ref w_ENOENT), (.ref b1x6_3), (.ref b1x6_3)])) rfl (by rw [hml]; rfl) (Steps.refl _) (a := b1x6_3) (argsL := [(.ref w_ENOENT)]) (rest := [(.ref b1x6_3)]) (lenOf own_pd2 rfl) rfl (by show 2 * 0 + _ ≤ _; exact Nat.le_of_eq rfl) (hb hby own_d6_8) (fun _ _ => ⟨rfl, rfl, (by decide : 1 + 0 ≤ _), (by decide : 1 + 0 ≤ _)⟩)
    dsimp only [Pt.U, Pt.locs, Pt.cells, Pt.slots] at X5 l5 y5 z5 st5 hQ5
    subst l5 y5 z5
    obtain ⟨N5q, Kq5, hL5⟩ := hQ5
    have N5 := Fr.app N2 N5q
    have K5 : Keep h0 T5.heap [] := K2.trans Kq5 (allS (Or.inr sz_b1x6_3) all0)
    have Z5 := Nat.le_trans Z2 Kq5.1
    rcases hL5 with ⟨rfl, Fc5_0_0, -⟩
    · skip
      refine own_st (fun t k => st5.trans k) ?_
      show own_Go _ _ _ _ T5 (mkF m 11 #[.val (.ref w_ENOENT)] [(.ref b1x6_3)])
      have f6 := (f3.keep Kq5)
      exact own_retA X5 hx hlk hret rfl rfl (hb hby own_d6_11) (by decide) (by decide) rfl ⟨N5, K5, ⟨b1x6_3, rfl, sz_b1x6_3, f6, Fc5_0_0, trivial⟩⟩
theorem own_pd3 : parseMethodDescriptor "(Ljava/lang/Object;)Ljava/util/Optional;" = some ⟨[(.object "java/lang/Object")], some (.object "java/util/Optional")⟩ := by decide +kernel
theorem own_d3_0 : decode jdk_32_method_1_code 0 = .ok (.getstatic 1, 3) := by decide +kernel
theorem own_d3_3 : decode jdk_32_method_1_code 3 = .ok (.astore_n 0, 1) := by decide +kernel
theorem own_d3_4 : decode jdk_32_method_1_code 4 = .ok (.aload_n 0, 1) := by decide +kernel
theorem own_d3_5 : decode jdk_32_method_1_code 5 = .ok (.areturn, 1) := by decide +kernel
theorem own_ef3 (m : MethodId)  : entryFrame m #[] 1 = mkF m 0 #[.unset] [] := by first | (simp [entryFrame, mkF, argsToLocals, Value.category]; done) | rfl
def own_Q3 (w_EMPTY : Addr) (h0 : Heap) (n0 : Nat) (v : Option Value) (h : Heap) (L : List Loc) : Prop := Fr n0 L ∧ h = h0 ∧ ((v = some (.ref w_EMPTY) ∧ True))
set_option maxRecDepth 65536 in
set_option maxHeartbeats 40000000 in
theorem own_rm3 (l : Launch) (Z : State) (a0 : Array Value) (hw : ∀ d ∈ tables_1, d.before a0 Z = true) (ws : List Jvm.Cond) (w_EMPTY : Addr) (h0 : Heap) (n0 : Nat) (Z0 : n0 ≤ h0.size) (S_EMPTY : Sta Z h0 "java/util/Optional" "EMPTY" "Ljava/util/Optional;" (.ref w_EMPTY)) :
    MetFree l (⟨"java/util/Optional", "empty", "()Ljava/util/Optional;"⟩ : MethodName) (head1 (Jvm.Cond.code (⟨"java/util/Optional", "empty", "()Ljava/util/Optional;"⟩ : MethodName) jdk_32_method_1_code 1 (some (.object "java/util/Optional")) :: ws) ({ frames := 0, cells := 0, slots := 0, locals := 0 } : Room)) (fun a U => a = #[] ∧ Z.Warmed39 U.vm ∧ U.heap = h0) (fun _ _ _ _ _ => True) (fun _ U o U' => ∃ v L, o = .returned v ∧ own_Q3 w_EMPTY h0 n0 v U'.heap L ∧ FrameEnd U o U' L ({ frames := 0, cells := 0, slots := 0, locals := 0 } : Room).cells ({ frames := 0, cells := 0, slots := 0, locals := 0 } : Room).slots) := by
  refine MetFree.of_bodySF (plainFor_of_name own_pn2) hisR ?_
  intro p e s m args below meth c s₁ Bd hml0 hP hK
  obtain ⟨rfl, hZ, hh⟩ := hP
  have hx := Bd.exec
  have hlk := Bd.notSynchronized
  have hret := Bd.returns
  have hby := Bd.bytes
  have hml : c.maxLocals = 1 := hml0
  have hown : s.vm.findClass "java/util/Optional" = some m.cls := findClass_of_methodNamed Bd.named
  have hnm := (name_of_methodNamed Bd.named Bd.method).1
  have X0 : Stand p l e ({ frames := 0, cells := 0, slots := 0, locals := 0 } : Room) s m #[] below meth c s₁ [] 0 0 := Stand.of_body Bd
  have e0 : s₁.heap = h0 := by rw [← hh, Bd.state]; rfl
  have N0 := Fr.nil n0
  refine own_open (Q := own_Q3 w_EMPTY h0 n0) (own_ef3 m ) ?_
  show own_Go _ _ _ _ s₁ (mkF m 0 #[.unset] [])
  obtain ⟨T1, X1, e1, st1⟩ := getS2 X0 hx hZ hown (host := "") (Or.inl (own_w hw 35 rfl)) Via.refl e0 S_EMPTY (g := (mkF m 0 #[.unset] [])) rfl (hb hby own_d3_0)
  refine own_st st1 ?_
  show own_Go _ _ _ _ T1 (mkF m 3 #[.unset] [(.ref w_EMPTY)])
  refine own_st (fun t k => XS.astoreN X1.here hx rfl (hb hby own_d3_3) rfl rfl (l' := #[.val (.ref w_EMPTY)]) rfl k) ?_
  show own_Go _ _ _ _ T1 (mkF m 4 #[.val (.ref w_EMPTY)] [])
  refine own_st (fun t k => XS.aloadN X1.here hx rfl (hb hby own_d3_4) rfl rfl k) ?_
  show own_Go _ _ _ _ T1 (mkF m 5 #[.val (.ref w_EMPTY)] [(.ref w_EMPTY)])
  exact own_retA X1 hx hlk hret rfl rfl (hb hby own_d3_5) (by decide) (by decide) e1 ⟨N0, rfl, ⟨rfl, trivial⟩⟩
theorem own_pd4 : parseMethodDescriptor "()Ljava/util/Optional;" = some ⟨[], some (.object "java/util/Optional")⟩ := by decide +kernel
theorem own_d1_0 : decode prog_17_method_5_code 0 = .ok (.invokestatic 57, 3) := by decide +kernel
theorem own_d1_3 : decode prog_17_method_5_code 3 = .ok (.astore_n 1, 1) := by decide +kernel
theorem own_d1_4 : decode prog_17_method_5_code 4 = .ok (.aload_n 1, 1) := by decide +kernel
theorem own_d1_5 : decode prog_17_method_5_code 5 = .ok (.arraylength, 1) := by decide +kernel
theorem own_d1_6 : decode prog_17_method_5_code 6 = .ok (.istore_n 2, 1) := by decide +kernel
theorem own_d1_7 : decode prog_17_method_5_code 7 = .ok (.iconst 0, 1) := by decide +kernel
theorem own_d1_8 : decode prog_17_method_5_code 8 = .ok (.istore_n 3, 1) := by decide +kernel
theorem own_d1_9 : decode prog_17_method_5_code 9 = .ok (.iload_n 3, 1) := by decide +kernel
theorem own_d1_10 : decode prog_17_method_5_code 10 = .ok (.iload_n 2, 1) := by decide +kernel
theorem own_d1_11 : decode prog_17_method_5_code 11 = .ok (.if_icmp .ge 29, 3) := by decide +kernel
theorem own_d1_14 : decode prog_17_method_5_code 14 = .ok (.aload_n 1, 1) := by decide +kernel
theorem own_d1_15 : decode prog_17_method_5_code 15 = .ok (.iload_n 3, 1) := by decide +kernel
theorem own_d1_16 : decode prog_17_method_5_code 16 = .ok (.aaload, 1) := by decide +kernel
theorem own_d1_17 : decode prog_17_method_5_code 17 = .ok (.astore 4, 2) := by decide +kernel
theorem own_d1_19 : decode prog_17_method_5_code 19 = .ok (.aload 4, 2) := by decide +kernel
theorem own_d1_21 : decode prog_17_method_5_code 21 = .ok (.getfield 53, 3) := by decide +kernel
theorem own_d1_24 : decode prog_17_method_5_code 24 = .ok (.iload_n 0, 1) := by decide +kernel
theorem own_d1_25 : decode prog_17_method_5_code 25 = .ok (.if_icmp .ne 9, 3) := by decide +kernel
theorem own_d1_28 : decode prog_17_method_5_code 28 = .ok (.aload 4, 2) := by decide +kernel
theorem own_d1_30 : decode prog_17_method_5_code 30 = .ok (.invokestatic 61, 3) := by decide +kernel
theorem own_d1_33 : decode prog_17_method_5_code 33 = .ok (.areturn, 1) := by decide +kernel
theorem own_d1_34 : decode prog_17_method_5_code 34 = .ok (.iinc 3 1, 3) := by decide +kernel
theorem own_d1_37 : decode prog_17_method_5_code 37 = .ok (.goto (-28), 3) := by decide +kernel
theorem own_d1_40 : decode prog_17_method_5_code 40 = .ok (.invokestatic 67, 3) := by decide +kernel
theorem own_d1_43 : decode prog_17_method_5_code 43 = .ok (.areturn, 1) := by decide +kernel
theorem own_ef1 (m : MethodId) (x0 : Int32) : entryFrame m #[(.int x0)] 5 = mkF m 0 #[.val (.int x0), .unset, .unset, .unset, .unset] [] := by first | (simp [entryFrame, mkF, argsToLocals, Value.category]; done) | rfl
def own_Q1_1 (Z : State) (ip0x1_1 : Int32) (w__VALUES : Addr) (k_w__VALUES : ClassId) (w_ENOENT : Addr) (w_EIO : Addr) (w_EBADF : Addr) (w_EACCES : Addr) (w_EEXIST : Addr) (w_ENOTDIR : Addr) (w_EISDIR : Addr) (w_EINVAL : Addr) (w_ENOSPC : Addr) (w_ENAMETOOLONG : Addr) (w_EMPTY : Addr) (h0 : Heap) (n0 : Nat) (v : Option Value) (h : Heap) (L : List Loc) : Prop := Fr n0 L ∧ Keep h0 h [] ∧ ((∃ b1x6_3c5 : Addr, v = some (.ref b1x6_3c5) ∧ ((2 : Int32) = ip0x1_1) ∧ h0.size ≤ b1x6_3c5 ∧ Exa Z h b1x6_3c5 "java/util/Optional" ∧ Fld Z h b1x6_3c5 "java/util/Optional" "value" "Ljava/lang/Object;" (.ref w_ENOENT) ∧ True) ∨ (∃ b1x6_3c9 : Addr, v = some (.ref b1x6_3c9) ∧ (¬ ((2 : Int32) = ip0x1_1)) ∧ ((5 : Int32) = ip0x1_1) ∧ h0.size ≤ b1x6_3c9 ∧ Exa Z h b1x6_3c9 "java/util/Optional" ∧ Fld Z h b1x6_3c9 "java/util/Optional" "value" "Ljava/lang/Object;" (.ref w_EIO) ∧ True) ∨ (∃ b1x6_3c13 : Addr, v = some (.ref b1x6_3c13) ∧ (¬ ((2 : Int32) = ip0x1_1)) ∧ (¬ ((5 : Int32) = ip0x1_1)) ∧ ((9 : Int32) = ip0x1_1) ∧ h0.size ≤ b1x6_3c13 ∧ Exa Z h b1x6_3c13 "java/util/Optional" ∧ Fld Z h b1x6_3c13 "java/util/Optional" "value" "Ljava/lang/Object;" (.ref w_EBADF) ∧ True) ∨ (∃ b1x6_3c17 : Addr, v = some (.ref b1x6_3c17) ∧ (¬ ((2 : Int32) = ip0x1_1)) ∧ (¬ ((5 : Int32) = ip0x1_1)) ∧ (¬ ((9 : Int32) = ip0x1_1)) ∧ ((13 : Int32) = ip0x1_1) ∧ h0.size ≤ b1x6_3c17 ∧ Exa Z h b1x6_3c17 "java/util/Optional" ∧ Fld Z h b1x6_3c17 "java/util/Optional" "value" "Ljava/lang/Object;" (.ref w_EACCES) ∧ True) ∨ (∃ b1x6_3c21 : Addr, v = some (.ref b1x6_3c21) ∧ (¬ ((2 : Int32) = ip0x1_1)) ∧ (¬ ((5 : Int32) = ip0x1_1)) ∧ (¬ ((9 : Int32) = ip0x1_1)) ∧ (¬ ((13 : Int32) = ip0x1_1)) ∧ ((17 : Int32) = ip0x1_1) ∧ h0.size ≤ b1x6_3c21 ∧ Exa Z h b1x6_3c21 "java/util/Optional" ∧ Fld Z h b1x6_3c21 "java/util/Optional" "value" "Ljava/lang/Object;" (.ref w_EEXIST) ∧ True) ∨ (∃ b1x6_3c25 : Addr, v = some (.ref b1x6_3c25) ∧ (¬ ((2 : Int32) = ip0x1_1)) ∧ (¬ ((5 : Int32) = ip0x1_1)) ∧ (¬ ((9 : Int32) = ip0x1_1)) ∧ (¬ ((13 : Int32) = ip0x1_1)) ∧ (¬ ((17 : Int32) = ip0x1_1)) ∧ ((20 : Int32) = ip0x1_1) ∧ h0.size ≤ b1x6_3c25 ∧ Exa Z h b1x6_3c25 "java/util/Optional" ∧ Fld Z h b1x6_3c25 "java/util/Optional" "value" "Ljava/lang/Object;" (.ref w_ENOTDIR) ∧ True) ∨ (∃ b1x6_3c29 : Addr, v = some (.ref b1x6_3c29) ∧ (¬ ((2 : Int32) = ip0x1_1)) ∧ (¬ ((5 : Int32) = ip0x1_1)) ∧ (¬ ((9 : Int32) = ip0x1_1)) ∧ (¬ ((13 : Int32) = ip0x1_1)) ∧ (¬ ((17 : Int32) = ip0x1_1)) ∧ (¬ ((20 : Int32) = ip0x1_1)) ∧ ((21 : Int32) = ip0x1_1) ∧ h0.size ≤ b1x6_3c29 ∧ Exa Z h b1x6_3c29 "java/util/Optional" ∧ Fld Z h b1x6_3c29 "java/util/Optional" "value" "Ljava/lang/Object;" (.ref w_EISDIR) ∧ True) ∨ (∃ b1x6_3c33 : Addr, v = some (.ref b1x6_3c33) ∧ (¬ ((2 : Int32) = ip0x1_1)) ∧ (¬ ((5 : Int32) = ip0x1_1)) ∧ (¬ ((9 : Int32) = ip0x1_1)) ∧ (¬ ((13 : Int32) = ip0x1_1)) ∧ (¬ ((17 : Int32) = ip0x1_1)) ∧ (¬ ((20 : Int32) = ip0x1_1)) ∧ (¬ ((21 : Int32) = ip0x1_1)) ∧ ((22 : Int32) = ip0x1_1) ∧ h0.size ≤ b1x6_3c33 ∧ Exa Z h b1x6_3c33 "java/util/Optional" ∧ Fld Z h b1x6_3c33 "java/util/Optional" "value" "Ljava/lang/Object;" (.ref w_EINVAL) ∧ True) ∨ (∃ b1x6_3c37 : Addr, v = some (.ref b1x6_3c37) ∧ (¬ ((2 : Int32) = ip0x1_1)) ∧ (¬ ((5 : Int32) = ip0x1_1)) ∧ (¬ ((9 : Int32) = ip0x1_1)) ∧ (¬ ((13 : Int32) = ip0x1_1)) ∧ (¬ ((17 : Int32) = ip0x1_1)) ∧ (¬ ((20 : Int32) = ip0x1_1)) ∧ (¬ ((21 : Int32) = ip0x1_1)) ∧ (¬ ((22 : Int32) = ip0x1_1)) ∧ ((28 : Int32) = ip0x1_1) ∧ h0.size ≤ b1x6_3c37 ∧ Exa Z h b1x6_3c37 "java/util/Optional" ∧ Fld Z h b1x6_3c37 "java/util/Optional" "value" "Ljava/lang/Object;" (.ref w_ENOSPC) ∧ True) ∨ (∃ b1x6_3c41 : Addr, v = some (.ref b1x6_3c41) ∧ (¬ ((2 : Int32) = ip0x1_1)) ∧ (¬ ((5 : Int32) = ip0x1_1)) ∧ (¬ ((9 : Int32) = ip0x1_1)) ∧ (¬ ((13 : Int32) = ip0x1_1)) ∧ (¬ ((17 : Int32) = ip0x1_1)) ∧ (¬ ((20 : Int32) = ip0x1_1)) ∧ (¬ ((21 : Int32) = ip0x1_1)) ∧ (¬ ((22 : Int32) = ip0x1_1)) ∧ (¬ ((28 : Int32) = ip0x1_1)) ∧ ((36 : Int32) = ip0x1_1) ∧ h0.size ≤ b1x6_3c41 ∧ Exa Z h b1x6_3c41 "java/util/Optional" ∧ Fld Z h b1x6_3c41 "java/util/Optional" "value" "Ljava/lang/Object;" (.ref w_ENAMETOOLONG) ∧ True) ∨ (v = some (.ref w_EMPTY) ∧ (¬ ((2 : Int32) = ip0x1_1)) ∧ (¬ ((5 : Int32) = ip0x1_1)) ∧ (¬ ((9 : Int32) = ip0x1_1)) ∧ (¬ ((13 : Int32) = ip0x1_1)) ∧ (¬ ((17 : Int32) = ip0x1_1)) ∧ (¬ ((20 : Int32) = ip0x1_1)) ∧ (¬ ((21 : Int32) = ip0x1_1)) ∧ (¬ ((22 : Int32) = ip0x1_1)) ∧ (¬ ((28 : Int32) = ip0x1_1)) ∧ (¬ ((36 : Int32) = ip0x1_1)) ∧ True))
set_option maxRecDepth 65536 in
set_option maxHeartbeats 40000000 in
theorem own_rm1_1 (l : Launch) (Z : State) (a0 : Array Value) (hw : ∀ d ∈ tables_1, d.before a0 Z = true) (ws : List Jvm.Cond) (ip0x1_1 : Int32) (w__VALUES : Addr) (k_w__VALUES : ClassId) (w_ENOENT : Addr) (w_EIO : Addr) (w_EBADF : Addr) (w_EACCES : Addr) (w_EEXIST : Addr) (w_ENOTDIR : Addr) (w_EISDIR : Addr) (w_EINVAL : Addr) (w_ENOSPC : Addr) (w_ENAMETOOLONG : Addr) (w_EMPTY : Addr) (h0 : Heap) (n0 : Nat) (Z0 : n0 ≤ h0.size) (P0 : Sta Z h0 "com/example/checkpost/checkpost/protocol/Errno" "$VALUES" "[Lcom/example/checkpost/checkpost/protocol/Errno;" (.ref w__VALUES)) (P1 : Arv Z h0 w__VALUES k_w__VALUES (.object "com/example/checkpost/checkpost/protocol/Errno") (10 : Int32) [(.ref w_ENOENT), (.ref w_EIO), (.ref w_EBADF), (.ref w_EACCES), (.ref w_EEXIST), (.ref w_ENOTDIR), (.ref w_EISDIR), (.ref w_EINVAL), (.ref w_ENOSPC), (.ref w_ENAMETOOLONG)] .null) (P2 : Exa Z h0 w__VALUES "[Lcom/example/checkpost/checkpost/protocol/Errno;") (P3 : Fld Z h0 w_ENOENT "com/example/checkpost/checkpost/protocol/Errno" "number" "I" (.int (2 : Int32))) (P4 : Fld Z h0 w_EIO "com/example/checkpost/checkpost/protocol/Errno" "number" "I" (.int (5 : Int32))) (P5 : Fld Z h0 w_EBADF "com/example/checkpost/checkpost/protocol/Errno" "number" "I" (.int (9 : Int32))) (P6 : Fld Z h0 w_EACCES "com/example/checkpost/checkpost/protocol/Errno" "number" "I" (.int (13 : Int32))) (P7 : Fld Z h0 w_EEXIST "com/example/checkpost/checkpost/protocol/Errno" "number" "I" (.int (17 : Int32))) (P8 : Fld Z h0 w_ENOTDIR "com/example/checkpost/checkpost/protocol/Errno" "number" "I" (.int (20 : Int32))) (P9 : Fld Z h0 w_EISDIR "com/example/checkpost/checkpost/protocol/Errno" "number" "I" (.int (21 : Int32))) (P10 : Fld Z h0 w_EINVAL "com/example/checkpost/checkpost/protocol/Errno" "number" "I" (.int (22 : Int32))) (P11 : Fld Z h0 w_ENOSPC "com/example/checkpost/checkpost/protocol/Errno" "number" "I" (.int (28 : Int32))) (P12 : Fld Z h0 w_ENAMETOOLONG "com/example/checkpost/checkpost/protocol/Errno" "number" "I" (.int (36 : Int32))) (P13 : Sta Z h0 "java/util/Optional" "EMPTY" "Ljava/util/Optional;" (.ref w_EMPTY)) :
    MetFree l (⟨"com/example/checkpost/checkpost/protocol/Errno", "byNumber", "(I)Ljava/util/Optional;"⟩ : MethodName) (head1 (Jvm.Cond.code (⟨"com/example/checkpost/checkpost/protocol/Errno", "byNumber", "(I)Ljava/util/Optional;"⟩ : MethodName) prog_17_method_5_code 5 (some (.object "java/util/Optional")) :: ws) ({ frames := 3, cells := 2, slots := 11, locals := 38 } : Room)) (fun a U => a = #[(.int ip0x1_1)] ∧ Z.Warmed39 U.vm ∧ U.heap = h0) (fun _ _ _ _ _ => True) (fun _ U o U' => ∃ v L, o = .returned v ∧ own_Q1_1 Z ip0x1_1 w__VALUES k_w__VALUES w_ENOENT w_EIO w_EBADF w_EACCES w_EEXIST w_ENOTDIR w_EISDIR w_EINVAL w_ENOSPC w_ENAMETOOLONG w_EMPTY h0 n0 v U'.heap L ∧ FrameEnd U o U' L ({ frames := 3, cells := 2, slots := 11, locals := 38 } : Room).cells ({ frames := 3, cells := 2, slots := 11, locals := 38 } : Room).slots) := by
  refine MetFree.of_bodySF (plainFor_of_name own_pn0) hisR ?_
  intro p e s m args below meth c s₁ Bd hml0 hP hK
  obtain ⟨rfl, hZ, hh⟩ := hP
  have hx := Bd.exec
  have hlk := Bd.notSynchronized
  have hret := Bd.returns
  have hby := Bd.bytes
  have hml : c.maxLocals = 5 := hml0
  have hown : s.vm.findClass "com/example/checkpost/checkpost/protocol/Errno" = some m.cls := findClass_of_methodNamed Bd.named
  have hnm := (name_of_methodNamed Bd.named Bd.method).1
  have X0 : Stand p l e ({ frames := 3, cells := 2, slots := 11, locals := 38 } : Room) s m #[(.int ip0x1_1)] below meth c s₁ [] 0 0 := Stand.of_body Bd
  have e0 : s₁.heap = h0 := by rw [← hh, Bd.state]; rfl
  have N0 := Fr.nil n0
  refine own_open (Q := own_Q1_1 Z ip0x1_1 w__VALUES k_w__VALUES w_ENOENT w_EIO w_EBADF w_EACCES w_EEXIST w_ENOTDIR w_EISDIR w_EINVAL w_ENOSPC w_ENAMETOOLONG w_EMPTY h0 n0) (own_ef1 m ip0x1_1) ?_
  show own_Go _ _ _ _ s₁ (mkF m 0 #[.val (.int ip0x1_1), .unset, .unset, .unset, .unset] [])
  obtain ⟨_, _, ⟨T1, L1, k1, n1⟩, -, X1, ⟨Lc1, hQ1, l1, y1, z1⟩, st1⟩ := Jvm.LawKit.callS X0 hx (y := (⟨"com/example/checkpost/checkpost/protocol/Errno", "values", "()[Lcom/example/checkpost/checkpost/protocol/Errno;"⟩ : MethodName)) hown (mvT hZ (own_w hw 4 rfl)) (mvT hZ (own_w hw 5 rfl)) (mvT hZ (own_w hw 2 rfl)) (mvT hZ (own_w hw 6 rfl)) (by decide) (backOf (W := 0) (own_rm2_2 l Z a0 hw [] w__VALUES k_w__VALUES w_ENOENT w_EIO w_EBADF w_EACCES w_EEXIST w_ENOTDIR w_EISDIR w_EINVAL w_ENOSPC w_ENAMETOOLONG h0 n0 Z0 P0 P1 P2) hZ (own_w hw 6 rfl) (own_w hw 2 rfl) (by decide) (by decide)) (g := (mkF m 0 #[.val (.int ip0x1_1), .unset, .unset, .unset, .unset] [])) rfl (by rw [hml]; rfl) (argsL := []) (rest := []) (lenOf own_pd0 rfl) rfl (by show 2 * 0 + _ ≤ _; exact Nat.le_of_eq rfl) (hb hby own_d1_0) (fun _ _ => ⟨rfl, e0, (by decide : 0 + 1 ≤ _), (by decide : 0 + 10 ≤ _)⟩)
  dsimp only [Pt.U, Pt.locs, Pt.cells, Pt.slots] at X1 l1 y1 z1 st1 hQ1
  subst l1 y1 z1
  obtain ⟨N1q, Kq1, hL1⟩ := hQ1
  have N1 := Fr.app N0 N1q
  have K1 : Keep h0 T1.heap [] := (Keep.refl h0 []).trans Kq1 all0
  have Z1 := Nat.le_trans Z0 Kq1.1
  rcases hL1 with ⟨b2x2_2c1, rfl, sq_b2x2_2c1, Fc1_0_0, Fc1_0_1, -⟩
  · skip
    have g_b2x2_2c1 : n0 ≤ b2x2_2c1 := Nat.le_trans Z0 sq_b2x2_2c1
    have sz_b2x2_2c1 : h0.size ≤ b2x2_2c1 := Nat.le_trans (Keep.refl h0 []).1 sq_b2x2_2c1
    refine own_st st1 ?_
    show own_Go _ _ _ _ T1 (mkF m 3 #[.val (.int ip0x1_1), .unset, .unset, .unset, .unset] [(.ref b2x2_2c1)])
    refine own_st (fun t k => XS.astoreN X1.here hx rfl (hb hby own_d1_3) rfl rfl (l' := #[.val (.int ip0x1_1), .val (.ref b2x2_2c1), .unset, .unset, .unset]) rfl k) ?_
    show own_Go _ _ _ _ T1 (mkF m 4 #[.val (.int ip0x1_1), .val (.ref b2x2_2c1), .unset, .unset, .unset] [])
    refine own_st (fun t k => XS.aloadN X1.here hx rfl (hb hby own_d1_4) rfl rfl k) ?_
    show own_Go _ _ _ _ T1 (mkF m 5 #[.val (.int ip0x1_1), .val (.ref b2x2_2c1), .unset, .unset, .unset] [(.ref b2x2_2c1)])
    refine own_st (own_alen X1 hx hZ rfl Fc1_0_0 (g := (mkF m 5 #[.val (.int ip0x1_1), .val (.ref b2x2_2c1), .unset, .unset, .unset] [(.ref b2x2_2c1)])) rfl rfl (hb hby own_d1_5)) ?_
    show own_Go _ _ _ _ T1 (mkF m 6 #[.val (.int ip0x1_1), .val (.ref b2x2_2c1), .unset, .unset, .unset] [(.int (10 : Int32))])
    refine own_st (fun t k => XS.istoreN X1.here hx rfl (hb hby own_d1_6) rfl (l' := #[.val (.int ip0x1_1), .val (.ref b2x2_2c1), .val (.int (10 : Int32)), .unset, .unset]) rfl k) ?_
    show own_Go _ _ _ _ T1 (mkF m 7 #[.val (.int ip0x1_1), .val (.ref b2x2_2c1), .val (.int (10 : Int32)), .unset, .unset] [])
    refine own_st (fun t k => XS.iconst X1.here hx rfl (hb hby own_d1_7) k) ?_
    show own_Go _ _ _ _ T1 (mkF m 8 #[.val (.int ip0x1_1), .val (.ref b2x2_2c1), .val (.int (10 : Int32)), .unset, .unset] [(.int (0 : Int32))])
    refine own_st (fun t k => XS.istoreN X1.here hx rfl (hb hby own_d1_8) rfl (l' := #[.val (.int ip0x1_1), .val (.ref b2x2_2c1), .val (.int (10 : Int32)), .val (.int (0 : Int32)), .unset]) rfl k) ?_
    show own_Go _ _ _ _ T1 (mkF m 9 #[.val (.int ip0x1_1), .val (.ref b2x2_2c1), .val (.int (10 : Int32)), .val (.int (0 : Int32)), .unset] [])
    refine own_st (fun t k => XS.iloadN X1.here hx rfl (hb hby own_d1_9) rfl k) ?_
    show own_Go _ _ _ _ T1 (mkF m 10 #[.val (.int ip0x1_1), .val (.ref b2x2_2c1), .val (.int (10 : Int32)), .val (.int (0 : Int32)), .unset] [(.int (0 : Int32))])
    refine own_st (fun t k => XS.iloadN X1.here hx rfl (hb hby own_d1_10) rfl k) ?_
    show own_Go _ _ _ _ T1 (mkF m 11 #[.val (.int ip0x1_1), .val (.ref b2x2_2c1), .val (.int (10 : Int32)), .val (.int (0 : Int32)), .unset] [(.int (10 : Int32)), (.int (0 : Int32))])
    refine own_st (fun t k => XS.icmpNo X1.here hx rfl (hb hby own_d1_11) rfl (tlt (by decide : (0 : Int32) < (10 : Int32))).2.1 k) ?_
    show own_Go _ _ _ _ T1 (mkF m 14 #[.val (.int ip0x1_1), .val (.ref b2x2_2c1), .val (.int (10 : Int32)), .val (.int (0 : Int32)), .unset] [])
    refine own_st (fun t k => XS.aloadN X1.here hx rfl (hb hby own_d1_14) rfl rfl k) ?_
    show own_Go _ _ _ _ T1 (mkF m 15 #[.val (.int ip0x1_1), .val (.ref b2x2_2c1), .val (.int (10 : Int32)), .val (.int (0 : Int32)), .unset] [(.ref b2x2_2c1)])
    refine own_st (fun t k => XS.iloadN X1.here hx rfl (hb hby own_d1_15) rfl k) ?_
    show own_Go _ _ _ _ T1 (mkF m 16 #[.val (.int ip0x1_1), .val (.ref b2x2_2c1), .val (.int (10 : Int32)), .val (.int (0 : Int32)), .unset] [(.int (0 : Int32)), (.ref b2x2_2c1)])
    refine own_st (own_aaload X1 hx hZ rfl Fc1_0_0 rfl (j := (0 : Int32)) (v := (.ref w_ENOENT)) ⟨by decide, by decide⟩ rfl (g := (mkF m 16 #[.val (.int ip0x1_1), .val (.ref b2x2_2c1), .val (.int (10 : Int32)), .val (.int (0 : Int32)), .unset] [(.int (0 : Int32)), (.ref b2x2_2c1)])) rfl rfl (hb hby own_d1_16)) ?_
    show own_Go _ _ _ _ T1 (mkF m 17 #[.val (.int ip0x1_1), .val (.ref b2x2_2c1), .val (.int (10 : Int32)), .val (.int (0 : Int32)), .unset] [(.ref w_ENOENT)])
    refine own_st (fun t k => XS.astore X1.here hx rfl (hb hby own_d1_17) rfl rfl (l' := #[.val (.int ip0x1_1), .val (.ref b2x2_2c1), .val (.int (10 : Int32)), .val (.int (0 : Int32)), .val (.ref w_ENOENT)]) rfl k) ?_
    show own_Go _ _ _ _ T1 (mkF m 19 #[.val (.int ip0x1_1), .val (.ref b2x2_2c1), .val (.int (10 : Int32)), .val (.int (0 : Int32)), .val (.ref w_ENOENT)] [])
    refine own_st (fun t k => XS.aload X1.here hx rfl (hb hby own_d1_19) rfl rfl k) ?_
    show own_Go _ _ _ _ T1 (mkF m 21 #[.val (.int ip0x1_1), .val (.ref b2x2_2c1), .val (.int (10 : Int32)), .val (.int (0 : Int32)), .val (.ref w_ENOENT)] [(.ref w_ENOENT)])
    have f2 := (P3.keep Kq1 nin0)
    obtain ⟨T3, X3, e3, st3⟩ := getF X1 hx hZ hown (host := "") (Or.inl (own_w hw 29 rfl)) Via.refl rfl f2 (g := (mkF m 21 #[.val (.int ip0x1_1), .val (.ref b2x2_2c1), .val (.int (10 : Int32)), .val (.int (0 : Int32)), .val (.ref w_ENOENT)] [(.ref w_ENOENT)])) rfl rfl (hb hby own_d1_21)
    refine own_st st3 ?_
    show own_Go _ _ _ _ T3 (mkF m 24 #[.val (.int ip0x1_1), .val (.ref b2x2_2c1), .val (.int (10 : Int32)), .val (.int (0 : Int32)), .val (.ref w_ENOENT)] [(.int (2 : Int32))])
    refine own_st (fun t k => XS.iloadN X3.here hx rfl (hb hby own_d1_24) rfl k) ?_
    show own_Go _ _ _ _ T3 (mkF m 25 #[.val (.int ip0x1_1), .val (.ref b2x2_2c1), .val (.int (10 : Int32)), .val (.int (0 : Int32)), .val (.ref w_ENOENT)] [(.int ip0x1_1), (.int (2 : Int32))])
    by_cases hc4 : (2 : Int32) = ip0x1_1
    · skip
      refine own_st (fun t k => XS.icmpNo X3.here hx rfl (hb hby own_d1_25) rfl (teq hc4).2 k) ?_
      show own_Go _ _ _ _ T3 (mkF m 28 #[.val (.int ip0x1_1), .val (.ref b2x2_2c1), .val (.int (10 : Int32)), .val (.int (0 : Int32)), .val (.ref w_ENOENT)] [])
      refine own_st (fun t k => XS.aload X3.here hx rfl (hb hby own_d1_28) rfl rfl k) ?_
      show own_Go _ _ _ _ T3 (mkF m 30 #[.val (.int ip0x1_1), .val (.ref b2x2_2c1), .val (.int (10 : Int32)), .val (.int (0 : Int32)), .val (.ref w_ENOENT)] [(.ref w_ENOENT)])
      obtain ⟨_, _, ⟨T5, L5, k5, n5⟩, -, X5, ⟨Lc5, hQ5, l5, y5, z5⟩, st5⟩ := Jvm.LawKit.callS X3 hx (y := (⟨"java/util/Optional", "of", "(Ljava/lang/Object;)Ljava/util/Optional;"⟩ : MethodName)) hown (mvT hZ (own_w hw 47 rfl)) (mvT hZ (own_w hw 48 rfl)) (mvT hZ (own_w hw 33 rfl)) (mvT hZ (own_w hw 49 rfl)) (by decide) (backOf (W := 0) (own_rm6_3 l Z a0 hw [] w_ENOENT T1.heap n0 Z1 ) hZ (own_w hw 49 rfl) (own_w hw 33 rfl) (by decide) (by decide)) (g := (mkF m 30 #[.val (.int ip0x1_1), .val (.ref b2x2_2c1), .val (.int (10 : Int32)), .val (.int (0 : Int32)), .val (.ref w_ENOENT)] [(.ref w_ENOENT)])) rfl (by rw [hml]; rfl) (argsL := [(.ref w_ENOENT)]) (rest := []) (lenOf own_pd3 rfl) rfl (by show 2 * 0 + _ ≤ _; exact Nat.le_of_eq rfl) (hb hby own_d1_30) (fun _ _ => ⟨rfl, e3, (by decide : 1 + 1 ≤ _), (by decide : 10 + 1 ≤ _)⟩)
      dsimp only [Pt.U, Pt.locs, Pt.cells, Pt.slots] at X5 l5 y5 z5 st5 hQ5
      subst l5 y5 z5
      obtain ⟨N5q, Kq5, hL5⟩ := hQ5
      have N5 := Fr.app N1 N5q
      have K5 : Keep h0 T5.heap [] := K1.trans Kq5 all0
      have Z5 := Nat.le_trans Z1 Kq5.1
      rcases hL5 with ⟨b1x6_3c5, rfl, sq_b1x6_3c5, Fc5_0_0, Fc5_0_1, -⟩
      · skip
        have g_b1x6_3c5 : n0 ≤ b1x6_3c5 := Nat.le_trans Z1 sq_b1x6_3c5
        have sz_b1x6_3c5 : h0.size ≤ b1x6_3c5 := Nat.le_trans K1.1 sq_b1x6_3c5
        refine own_st st5 ?_
        show own_Go _ _ _ _ T5 (mkF m 33 #[.val (.int ip0x1_1), .val (.ref b2x2_2c1), .val (.int (10 : Int32)), .val (.int (0 : Int32)), .val (.ref w_ENOENT)] [(.ref b1x6_3c5)])
        exact own_retA X5 hx hlk hret rfl rfl (hb hby own_d1_33) (by decide) (by decide) rfl ⟨N5, K5, (Or.inl ⟨b1x6_3c5, rfl, hc4, sz_b1x6_3c5, Fc5_0_0, Fc5_0_1, trivial⟩)⟩
    · skip
      refine own_st (fun t k => XS.icmpYes X3.here hx rfl (pc0 := 25) (pc' := 34) rfl (hb hby own_d1_25) rfl (feq hc4).2 (by decide) (by decide) k) ?_
      show own_Go _ _ _ _ T3 (mkF m 34 #[.val (.int ip0x1_1), .val (.ref b2x2_2c1), .val (.int (10 : Int32)), .val (.int (0 : Int32)), .val (.ref w_ENOENT)] [])
      refine own_st (fun t k => XS.iinc X3.here hx rfl (hb hby own_d1_34) rfl (l' := #[.val (.int ip0x1_1), .val (.ref b2x2_2c1), .val (.int (10 : Int32)), .val (.int ((0 : Int32) + (1 : Int32))), .val (.ref w_ENOENT)]) rfl k) ?_
      show own_Go _ _ _ _ T3 (mkF m 37 #[.val (.int ip0x1_1), .val (.ref b2x2_2c1), .val (.int (10 : Int32)), .val (.int ((0 : Int32) + (1 : Int32))), .val (.ref w_ENOENT)] [])
      refine own_st (fun t k => XS.goto X3.here hx rfl (pc0 := 37) (pc' := 9) rfl (hb hby own_d1_37) (by decide) (by decide) k) ?_
      show own_Go _ _ _ _ T3 (mkF m 9 #[.val (.int ip0x1_1), .val (.ref b2x2_2c1), .val (.int (10 : Int32)), .val (.int ((0 : Int32) + (1 : Int32))), .val (.ref w_ENOENT)] [])
      refine own_st (fun t k => XS.iloadN X3.here hx rfl (hb hby own_d1_9) rfl k) ?_
      show own_Go _ _ _ _ T3 (mkF m 10 #[.val (.int ip0x1_1), .val (.ref b2x2_2c1), .val (.int (10 : Int32)), .val (.int ((0 : Int32) + (1 : Int32))), .val (.ref w_ENOENT)] [(.int ((0 : Int32) + (1 : Int32)))])
      refine own_st (fun t k => XS.iloadN X3.here hx rfl (hb hby own_d1_10) rfl k) ?_
      show own_Go _ _ _ _ T3 (mkF m 11 #[.val (.int ip0x1_1), .val (.ref b2x2_2c1), .val (.int (10 : Int32)), .val (.int ((0 : Int32) + (1 : Int32))), .val (.ref w_ENOENT)] [(.int (10 : Int32)), (.int ((0 : Int32) + (1 : Int32)))])
      refine own_st (fun t k => XS.icmpNo X3.here hx rfl (hb hby own_d1_11) rfl (tlt (by decide : ((0 : Int32) + (1 : Int32)) < (10 : Int32))).2.1 k) ?_
      show own_Go _ _ _ _ T3 (mkF m 14 #[.val (.int ip0x1_1), .val (.ref b2x2_2c1), .val (.int (10 : Int32)), .val (.int ((0 : Int32) + (1 : Int32))), .val (.ref w_ENOENT)] [])
      refine own_st (fun t k => XS.aloadN X3.here hx rfl (hb hby own_d1_14) rfl rfl k) ?_
      show own_Go _ _ _ _ T3 (mkF m 15 #[.val (.int ip0x1_1), .val (.ref b2x2_2c1), .val (.int (10 : Int32)), .val (.int ((0 : Int32) + (1 : Int32))), .val (.ref w_ENOENT)] [(.ref b2x2_2c1)])
      refine own_st (fun t k => XS.iloadN X3.here hx rfl (hb hby own_d1_15) rfl k) ?_
      show own_Go _ _ _ _ T3 (mkF m 16 #[.val (.int ip0x1_1), .val (.ref b2x2_2c1), .val (.int (10 : Int32)), .val (.int ((0 : Int32) + (1 : Int32))), .val (.ref w_ENOENT)] [(.int ((0 : Int32) + (1 : Int32))), (.ref b2x2_2c1)])
      refine own_st (own_aaload X3 hx hZ e3 Fc1_0_0 rfl (j := ((0 : Int32) + (1 : Int32))) (v := (.ref w_EIO)) ⟨by decide, by decide⟩ rfl (g := (mkF m 16 #[.val (.int ip0x1_1), .val (.ref b2x2_2c1), .val (.int (10 : Int32)), .val (.int ((0 : Int32) + (1 : Int32))), .val (.ref w_ENOENT)] [(.int ((0 : Int32) + (1 : Int32))), (.ref b2x2_2c1)])) rfl rfl (hb hby own_d1_16)) ?_
      show own_Go _ _ _ _ T3 (mkF m 17 #[.val (.int ip0x1_1), .val (.ref b2x2_2c1), .val (.int (10 : Int32)), .val (.int ((0 : Int32) + (1 : Int32))), .val (.ref w_ENOENT)] [(.ref w_EIO)])
      refine own_st (fun t k => XS.astore X3.here hx rfl (hb hby own_d1_17) rfl rfl (l' := #[.val (.int ip0x1_1), .val (.ref b2x2_2c1), .val (.int (10 : Int32)), .val (.int ((0 : Int32) + (1 : Int32))), .val (.ref w_EIO)]) rfl k) ?_
      show own_Go _ _ _ _ T3 (mkF m 19 #[.val (.int ip0x1_1), .val (.ref b2x2_2c1), .val (.int (10 : Int32)), .val (.int ((0 : Int32) + (1 : Int32))), .val (.ref w_EIO)] [])
      refine own_st (fun t k => XS.aload X3.here hx rfl (hb hby own_d1_19) rfl rfl k) ?_
      show own_Go _ _ _ _ T3 (mkF m 21 #[.val (.int ip0x1_1), .val (.ref b2x2_2c1), .val (.int (10 : Int32)), .val (.int ((0 : Int32) + (1 : Int32))), .val (.ref w_EIO)] [(.ref w_EIO)])
      have f6 := (P4.keep Kq1 nin0)
      obtain ⟨T7, X7, e7, st7⟩ := getF X3 hx hZ hown (host := "") (Or.inl (own_w hw 29 rfl)) Via.refl e3 f6 (g := (mkF m 21 #[.val (.int ip0x1_1), .val (.ref b2x2_2c1), .val (.int (10 : Int32)), .val (.int ((0 : Int32) + (1 : Int32))), .val (.ref w_EIO)] [(.ref w_EIO)])) rfl rfl (hb hby own_d1_21)
      refine own_st st7 ?_
      show own_Go _ _ _ _ T7 (mkF m 24 #[.val (.int ip0x1_1), .val (.ref b2x2_2c1), .val (.int (10 : Int32)), .val (.int ((0 : Int32) + (1 : Int32))), .val (.ref w_EIO)] [(.int (5 : Int32))])
      refine own_st (fun t k => XS.iloadN X7.here hx rfl (hb hby own_d1_24) rfl k) ?_
      show own_Go _ _ _ _ T7 (mkF m 25 #[.val (.int ip0x1_1), .val (.ref b2x2_2c1), .val (.int (10 : Int32)), .val (.int ((0 : Int32) + (1 : Int32))), .val (.ref w_EIO)] [(.int ip0x1_1), (.int (5 : Int32))])
      by_cases hc8 : (5 : Int32) = ip0x1_1
      · skip
        refine own_st (fun t k => XS.icmpNo X7.here hx rfl (hb hby own_d1_25) rfl (teq hc8).2 k) ?_
        show own_Go _ _ _ _ T7 (mkF m 28 #[.val (.int ip0x1_1), .val (.ref b2x2_2c1), .val (.int (10 : Int32)), .val (.int ((0 : Int32) + (1 : Int32))), .val (.ref w_EIO)] [])
        refine own_st (fun t k => XS.aload X7.here hx rfl (hb hby own_d1_28) rfl rfl k) ?_
        show own_Go _ _ _ _ T7 (mkF m 30 #[.val (.int ip0x1_1), .val (.ref b2x2_2c1), .val (.int (10 : Int32)), .val (.int ((0 : Int32) + (1 : Int32))), .val (.ref w_EIO)] [(.ref w_EIO)])
        obtain ⟨_, _, ⟨T9, L9, k9, n9⟩, -, X9, ⟨Lc9, hQ9, l9, y9, z9⟩, st9⟩ := Jvm.LawKit.callS X7 hx (y := (⟨"java/util/Optional", "of", "(Ljava/lang/Object;)Ljava/util/Optional;"⟩ : MethodName)) hown (mvT hZ (own_w hw 47 rfl)) (mvT hZ (own_w hw 48 rfl)) (mvT hZ (own_w hw 33 rfl)) (mvT hZ (own_w hw 49 rfl)) (by decide) (backOf (W := 0) (own_rm6_3 l Z a0 hw [] w_EIO T1.heap n0 Z1 ) hZ (own_w hw 49 rfl) (own_w hw 33 rfl) (by decide) (by decide)) (g := (mkF m 30 #[.val (.int ip0x1_1), .val (.ref b2x2_2c1), .val (.int (10 : Int32)), .val (.int ((0 : Int32) + (1 : Int32))), .val (.ref w_EIO)] [(.ref w_EIO)])) rfl (by rw [hml]; rfl) (argsL := [(.ref w_EIO)]) (rest := []) (lenOf own_pd3 rfl) rfl (by show 2 * 0 + _ ≤ _; exact Nat.le_of_eq rfl) (hb hby own_d1_30) (fun _ _ => ⟨rfl, e7, (by decide : 1 + 1 ≤ _), (by decide : 10 + 1 ≤ _)⟩)
        dsimp only [Pt.U, Pt.locs, Pt.cells, Pt.slots] at X9 l9 y9 z9 st9 hQ9
        subst l9 y9 z9
        obtain ⟨N9q, Kq9, hL9⟩ := hQ9
        have N9 := Fr.app N1 N9q
        have K9 : Keep h0 T9.heap [] := K1.trans Kq9 all0
        have Z9 := Nat.le_trans Z1 Kq9.1
        rcases hL9 with ⟨b1x6_3c9, rfl, sq_b1x6_3c9, Fc9_0_0, Fc9_0_1, -⟩
        · skip
          have g_b1x6_3c9 : n0 ≤ b1x6_3c9 := Nat.le_trans Z1 sq_b1x6_3c9
          have sz_b1x6_3c9 : h0.size ≤ b1x6_3c9 := Nat.le_trans K1.1 sq_b1x6_3c9
          refine own_st st9 ?_
          show own_Go _ _ _ _ T9 (mkF m 33 #[.val (.int ip0x1_1), .val (.ref b2x2_2c1), .val (.int (10 : Int32)), .val (.int ((0 : Int32) + (1 : Int32))), .val (.ref w_EIO)] [(.ref b1x6_3c9)])
          exact own_retA X9 hx hlk hret rfl rfl (hb hby own_d1_33) (by decide) (by decide) rfl ⟨N9, K9, (Or.inr (Or.inl ⟨b1x6_3c9, rfl, hc4, hc8, sz_b1x6_3c9, Fc9_0_0, Fc9_0_1, trivial⟩))⟩
      · skip
        refine own_st (fun t k => XS.icmpYes X7.here hx rfl (pc0 := 25) (pc' := 34) rfl (hb hby own_d1_25) rfl (feq hc8).2 (by decide) (by decide) k) ?_
        show own_Go _ _ _ _ T7 (mkF m 34 #[.val (.int ip0x1_1), .val (.ref b2x2_2c1), .val (.int (10 : Int32)), .val (.int ((0 : Int32) + (1 : Int32))), .val (.ref w_EIO)] [])
        refine own_st (fun t k => XS.iinc X7.here hx rfl (hb hby own_d1_34) rfl (l' := #[.val (.int ip0x1_1), .val (.ref b2x2_2c1), .val (.int (10 : Int32)), .val (.int (((0 : Int32) + (1 : Int32)) + (1 : Int32))), .val (.ref w_EIO)]) rfl k) ?_
        show own_Go _ _ _ _ T7 (mkF m 37 #[.val (.int ip0x1_1), .val (.ref b2x2_2c1), .val (.int (10 : Int32)), .val (.int (((0 : Int32) + (1 : Int32)) + (1 : Int32))), .val (.ref w_EIO)] [])
        refine own_st (fun t k => XS.goto X7.here hx rfl (pc0 := 37) (pc' := 9) rfl (hb hby own_d1_37) (by decide) (by decide) k) ?_
        show own_Go _ _ _ _ T7 (mkF m 9 #[.val (.int ip0x1_1), .val (.ref b2x2_2c1), .val (.int (10 : Int32)), .val (.int (((0 : Int32) + (1 : Int32)) + (1 : Int32))), .val (.ref w_EIO)] [])
        refine own_st (fun t k => XS.iloadN X7.here hx rfl (hb hby own_d1_9) rfl k) ?_
        show own_Go _ _ _ _ T7 (mkF m 10 #[.val (.int ip0x1_1), .val (.ref b2x2_2c1), .val (.int (10 : Int32)), .val (.int (((0 : Int32) + (1 : Int32)) + (1 : Int32))), .val (.ref w_EIO)] [(.int (((0 : Int32) + (1 : Int32)) + (1 : Int32)))])
        refine own_st (fun t k => XS.iloadN X7.here hx rfl (hb hby own_d1_10) rfl k) ?_
        show own_Go _ _ _ _ T7 (mkF m 11 #[.val (.int ip0x1_1), .val (.ref b2x2_2c1), .val (.int (10 : Int32)), .val (.int (((0 : Int32) + (1 : Int32)) + (1 : Int32))), .val (.ref w_EIO)] [(.int (10 : Int32)), (.int (((0 : Int32) + (1 : Int32)) + (1 : Int32)))])
        refine own_st (fun t k => XS.icmpNo X7.here hx rfl (hb hby own_d1_11) rfl (tlt (by decide : (((0 : Int32) + (1 : Int32)) + (1 : Int32)) < (10 : Int32))).2.1 k) ?_
        show own_Go _ _ _ _ T7 (mkF m 14 #[.val (.int ip0x1_1), .val (.ref b2x2_2c1), .val (.int (10 : Int32)), .val (.int (((0 : Int32) + (1 : Int32)) + (1 : Int32))), .val (.ref w_EIO)] [])
        refine own_st (fun t k => XS.aloadN X7.here hx rfl (hb hby own_d1_14) rfl rfl k) ?_
        show own_Go _ _ _ _ T7 (mkF m 15 #[.val (.int ip0x1_1), .val (.ref b2x2_2c1), .val (.int (10 : Int32)), .val (.int (((0 : Int32) + (1 : Int32)) + (1 : Int32))), .val (.ref w_EIO)] [(.ref b2x2_2c1)])
        refine own_st (fun t k => XS.iloadN X7.here hx rfl (hb hby own_d1_15) rfl k) ?_
        show own_Go _ _ _ _ T7 (mkF m 16 #[.val (.int ip0x1_1), .val (.ref b2x2_2c1), .val (.int (10 : Int32)), .val (.int (((0 : Int32) + (1 : Int32)) + (1 : Int32))), .val (.ref w_EIO)] [(.int (((0 : Int32) + (1 : Int32)) + (1 : Int32))), (.ref b2x2_2c1)])
        refine own_st (own_aaload X7 hx hZ e7 Fc1_0_0 rfl (j := (((0 : Int32) + (1 : Int32)) + (1 : Int32))) (v := (.ref w_EBADF)) ⟨by decide, by decide⟩ rfl (g := (mkF m 16 #[.val (.int ip0x1_1), .val (.ref b2x2_2c1), .val (.int (10 : Int32)), .val (.int (((0 : Int32) + (1 : Int32)) + (1 : Int32))), .val (.ref w_EIO)] [(.int (((0 : Int32) + (1 : Int32)) + (1 : Int32))), (.ref b2x2_2c1)])) rfl rfl (hb hby own_d1_16)) ?_
        show own_Go _ _ _ _ T7 (mkF m 17 #[.val (.int ip0x1_1), .val (.ref b2x2_2c1), .val (.int (10 : Int32)), .val (.int (((0 : Int32) + (1 : Int32)) + (1 : Int32))), .val (.ref w_EIO)] [(.ref w_EBADF)])
        refine own_st (fun t k => XS.astore X7.here hx rfl (hb hby own_d1_17) rfl rfl (l' := #[.val (.int ip0x1_1), .val (.ref b2x2_2c1), .val (.int (10 : Int32)), .val (.int (((0 : Int32) + (1 : Int32)) + (1 : Int32))), .val (.ref w_EBADF)]) rfl k) ?_
        show own_Go _ _ _ _ T7 (mkF m 19 #[.val (.int ip0x1_1), .val (.ref b2x2_2c1), .val (.int (10 : Int32)), .val (.int (((0 : Int32) + (1 : Int32)) + (1 : Int32))), .val (.ref w_EBADF)] [])
        refine own_st (fun t k => XS.aload X7.here hx rfl (hb hby own_d1_19) rfl rfl k) ?_
        show own_Go _ _ _ _ T7 (mkF m 21 #[.val (.int ip0x1_1), .val (.ref b2x2_2c1), .val (.int (10 : Int32)), .val (.int (((0 : Int32) + (1 : Int32)) + (1 : Int32))), .val (.ref w_EBADF)] [(.ref w_EBADF)])
        have f10 := (P5.keep Kq1 nin0)
        obtain ⟨T11, X11, e11, st11⟩ := getF X7 hx hZ hown (host := "") (Or.inl (own_w hw 29 rfl)) Via.refl e7 f10 (g := (mkF m 21 #[.val (.int ip0x1_1), .val (.ref b2x2_2c1), .val (.int (10 : Int32)), .val (.int (((0 : Int32) + (1 : Int32)) + (1 : Int32))), .val (.ref w_EBADF)] [(.ref w_EBADF)])) rfl rfl (hb hby own_d1_21)
        refine own_st st11 ?_
        show own_Go _ _ _ _ T11 (mkF m 24 #[.val (.int ip0x1_1), .val (.ref b2x2_2c1), .val (.int (10 : Int32)), .val (.int (((0 : Int32) + (1 : Int32)) + (1 : Int32))), .val (.ref w_EBADF)] [(.int (9 : Int32))])
        refine own_st (fun t k => XS.iloadN X11.here hx rfl (hb hby own_d1_24) rfl k) ?_
        show own_Go _ _ _ _ T11 (mkF m 25 #[.val (.int ip0x1_1), .val (.ref b2x2_2c1), .val (.int (10 : Int32)), .val (.int (((0 : Int32) + (1 : Int32)) + (1 : Int32))), .val (.ref w_EBADF)] [(.int ip0x1_1), (.int (9 : Int32))])
        by_cases hc12 : (9 : Int32) = ip0x1_1
        · skip
          refine own_st (fun t k => XS.icmpNo X11.here hx rfl (hb hby own_d1_25) rfl (teq hc12).2 k) ?_
          show own_Go _ _ _ _ T11 (mkF m 28 #[.val (.int ip0x1_1), .val (.ref b2x2_2c1), .val (.int (10 : Int32)), .val (.int (((0 : Int32) + (1 : Int32)) + (1 : Int32))), .val (.ref w_EBADF)] [])
          refine own_st (fun t k => XS.aload X11.here hx rfl (hb hby own_d1_28) rfl rfl k) ?_
          show own_Go _ _ _ _ T11 (mkF m 30 #[.val (.int ip0x1_1), .val (.ref b2x2_2c1), .val (.int (10 : Int32)), .val (.int (((0 : Int32) + (1 : Int32)) + (1 : Int32))), .val (.ref w_EBADF)] [(.ref w_EBADF)])
          obtain ⟨_, _, ⟨T13, L13, k13, n13⟩, -, X13, ⟨Lc13, hQ13, l13, y13, z13⟩, st13⟩ := Jvm.LawKit.callS X11 hx (y := (⟨"java/util/Optional", "of", "(Ljava/lang/Object;)Ljava/util/Optional;"⟩ : MethodName)) hown (mvT hZ (own_w hw 47 rfl)) (mvT hZ (own_w hw 48 rfl)) (mvT hZ (own_w hw 33 rfl)) (mvT hZ (own_w hw 49 rfl)) (by decide) (backOf (W := 0) (own_rm6_3 l Z a0 hw [] w_EBADF T1.heap n0 Z1 ) hZ (own_w hw 49 rfl) (own_w hw 33 rfl) (by decide) (by decide)) (g := (mkF m 30 #[.val (.int ip0x1_1), .val (.ref b2x2_2c1), .val (.int (10 : Int32)), .val (.int (((0 : Int32) + (1 : Int32)) + (1 : Int32))), .val (.ref w_EBADF)] [(.ref w_EBADF)])) rfl (by rw [hml]; rfl) (argsL := [(.ref w_EBADF)]) (rest := []) (lenOf own_pd3 rfl) rfl (by show 2 * 0 + _ ≤ _; exact Nat.le_of_eq rfl) (hb hby own_d1_30) (fun _ _ => ⟨rfl, e11, (by decide : 1 + 1 ≤ _), (by decide : 10 + 1 ≤ _)⟩)
          dsimp only [Pt.U, Pt.locs, Pt.cells, Pt.slots] at X13 l13 y13 z13 st13 hQ13
          subst l13 y13 z13
          obtain ⟨N13q, Kq13, hL13⟩ := hQ13
          have N13 := Fr.app N1 N13q
          have K13 : Keep h0 T13.heap [] := K1.trans Kq13 all0
          have Z13 := Nat.le_trans Z1 Kq13.1
          rcases hL13 with ⟨b1x6_3c13, rfl, sq_b1x6_3c13, Fc13_0_0, Fc13_0_1, -⟩
          · skip
            have g_b1x6_3c13 : n0 ≤ b1x6_3c13 := Nat.le_trans Z1 sq_b1x6_3c13
            have sz_b1x6_3c13 : h0.size ≤ b1x6_3c13 := Nat.le_trans K1.1 sq_b1x6_3c13
            refine own_st st13 ?_
            show own_Go _ _ _ _ T13 (mkF m 33 #[.val (.int ip0x1_1), .val (.ref b2x2_2c1), .val (.int (10 : Int32)), .val (.int (((0 : Int32) + (1 : Int32)) + (1 : Int32))), .val (.ref w_EBADF)] [(.ref b1x6_3c13)])
            exact own_retA X13 hx hlk hret rfl rfl (hb hby own_d1_33) (by decide) (by decide) rfl ⟨N13, K13, (Or.inr (Or.inr (Or.inl ⟨b1x6_3c13, rfl, hc4, hc8, hc12, sz_b1x6_3c13, Fc13_0_0, Fc13_0_1, trivial⟩)))⟩
        · skip
          refine own_st (fun t k => XS.icmpYes X11.here hx rfl (pc0 := 25) (pc' := 34) rfl (hb hby own_d1_25) rfl (feq hc12).2 (by decide) (by decide) k) ?_
          show own_Go _ _ _ _ T11 (mkF m 34 #[.val (.int ip0x1_1), .val (.ref b2x2_2c1), .val (.int (10 : Int32)), .val (.int (((0 : Int32) + (1 : Int32)) + (1 : Int32))), .val (.ref w_EBADF)] [])
          refine own_st (fun t k => XS.iinc X11.here hx rfl (hb hby own_d1_34) rfl (l' := #[.val (.int ip0x1_1), .val (.ref b2x2_2c1), .val (.int (10 : Int32)), .val (.int ((((0 : Int32) + (1 : Int32)) + (1 : Int32)) + (1 : Int32))), .val (.ref w_EBADF)]) rfl k) ?_
          show own_Go _ _ _ _ T11 (mkF m 37 #[.val (.int ip0x1_1), .val (.ref b2x2_2c1), .val (.int (10 : Int32)), .val (.int ((((0 : Int32) + (1 : Int32)) + (1 : Int32)) + (1 : Int32))), .val (.ref w_EBADF)] [])
          refine own_st (fun t k => XS.goto X11.here hx rfl (pc0 := 37) (pc' := 9) rfl (hb hby own_d1_37) (by decide) (by decide) k) ?_
          show own_Go _ _ _ _ T11 (mkF m 9 #[.val (.int ip0x1_1), .val (.ref b2x2_2c1), .val (.int (10 : Int32)), .val (.int ((((0 : Int32) + (1 : Int32)) + (1 : Int32)) + (1 : Int32))), .val (.ref w_EBADF)] [])
          refine own_st (fun t k => XS.iloadN X11.here hx rfl (hb hby own_d1_9) rfl k) ?_
          show own_Go _ _ _ _ T11 (mkF m 10 #[.val (.int ip0x1_1), .val (.ref b2x2_2c1), .val (.int (10 : Int32)), .val (.int ((((0 : Int32) + (1 : Int32)) + (1 : Int32)) + (1 : Int32))), .val (.ref w_EBADF)] [(.int ((((0 : Int32) + (1 : Int32)) + (1 : Int32)) + (1 : Int32)))])
          refine own_st (fun t k => XS.iloadN X11.here hx rfl (hb hby own_d1_10) rfl k) ?_
          show own_Go _ _ _ _ T11 (mkF m 11 #[.val (.int ip0x1_1), .val (.ref b2x2_2c1), .val (.int (10 : Int32)), .val (.int ((((0 : Int32) + (1 : Int32)) + (1 : Int32)) + (1 : Int32))), .val (.ref w_EBADF)] [(.int (10 : Int32)), (.int ((((0 : Int32) + (1 : Int32)) + (1 : Int32)) + (1 : Int32)))])
          refine own_st (fun t k => XS.icmpNo X11.here hx rfl (hb hby own_d1_11) rfl (tlt (by decide : ((((0 : Int32) + (1 : Int32)) + (1 : Int32)) + (1 : Int32)) < (10 : Int32))).2.1 k) ?_
          show own_Go _ _ _ _ T11 (mkF m 14 #[.val (.int ip0x1_1), .val (.ref b2x2_2c1), .val (.int (10 : Int32)), .val (.int ((((0 : Int32) + (1 : Int32)) + (1 : Int32)) + (1 : Int32))), .val (.ref w_EBADF)] [])
          refine own_st (fun t k => XS.aloadN X11.here hx rfl (hb hby own_d1_14) rfl rfl k) ?_
          show own_Go _ _ _ _ T11 (mkF m 15 #[.val (.int ip0x1_1), .val (.ref b2x2_2c1), .val (.int (10 : Int32)), .val (.int ((((0 : Int32) + (1 : Int32)) + (1 : Int32)) + (1 : Int32))), .val (.ref w_EBADF)] [(.ref b2x2_2c1)])
          refine own_st (fun t k => XS.iloadN X11.here hx rfl (hb hby own_d1_15) rfl k) ?_
          show own_Go _ _ _ _ T11 (mkF m 16 #[.val (.int ip0x1_1), .val (.ref b2x2_2c1), .val (.int (10 : Int32)), .val (.int ((((0 : Int32) + (1 : Int32)) + (1 : Int32)) + (1 : Int32))), .val (.ref w_EBADF)] [(.int ((((0 : Int32) + (1 : Int32)) + (1 : Int32)) + (1 : Int32))), (.ref b2x2_2c1)])
          refine own_st (own_aaload X11 hx hZ e11 Fc1_0_0 rfl (j := ((((0 : Int32) + (1 : Int32)) + (1 : Int32)) + (1 : Int32))) (v := (.ref w_EACCES)) ⟨by decide, by decide⟩ rfl (g := (mkF m 16 #[.val (.int ip0x1_1), .val (.ref b2x2_2c1), .val (.int (10 : Int32)), .val (.int ((((0 : Int32) + (1 : Int32)) + (1 : Int32)) + (1 : Int32))), .val (.ref w_EBADF)] [(.int ((((0 : Int32) + (1 : Int32)) + (1 : Int32)) + (1 : Int32))), (.ref b2x2_2c1)])) rfl rfl (hb hby own_d1_16)) ?_
          show own_Go _ _ _ _ T11 (mkF m 17 #[.val (.int ip0x1_1), .val (.ref b2x2_2c1), .val (.int (10 : Int32)), .val (.int ((((0 : Int32) + (1 : Int32)) + (1 : Int32)) + (1 : Int32))), .val (.ref w_EBADF)] [(.ref w_EACCES)])
          refine own_st (fun t k => XS.astore X11.here hx rfl (hb hby own_d1_17) rfl rfl (l' := #[.val (.int ip0x1_1), .val (.ref b2x2_2c1), .val (.int (10 : Int32)), .val (.int ((((0 : Int32) + (1 : Int32)) + (1 : Int32)) + (1 : Int32))), .val (.ref w_EACCES)]) rfl k) ?_
          show own_Go _ _ _ _ T11 (mkF m 19 #[.val (.int ip0x1_1), .val (.ref b2x2_2c1), .val (.int (10 : Int32)), .val (.int ((((0 : Int32) + (1 : Int32)) + (1 : Int32)) + (1 : Int32))), .val (.ref w_EACCES)] [])
          refine own_st (fun t k => XS.aload X11.here hx rfl (hb hby own_d1_19) rfl rfl k) ?_
          show own_Go _ _ _ _ T11 (mkF m 21 #[.val (.int ip0x1_1), .val (.ref b2x2_2c1), .val (.int (10 : Int32)), .val (.int ((((0 : Int32) + (1 : Int32)) + (1 : Int32)) + (1 : Int32))), .val (.ref w_EACCES)] [(.ref w_EACCES)])
          have f14 := (P6.keep Kq1 nin0)
          obtain ⟨T15, X15, e15, st15⟩ := getF X11 hx hZ hown (host := "") (Or.inl (own_w hw 29 rfl)) Via.refl e11 f14 (g := (mkF m 21 #[.val (.int ip0x1_1), .val (.ref b2x2_2c1), .val (.int (10 : Int32)), .val (.int ((((0 : Int32) + (1 : Int32)) + (1 : Int32)) + (1 : Int32))), .val (.ref w_EACCES)] [(.ref w_EACCES)])) rfl rfl (hb hby own_d1_21)
          refine own_st st15 ?_
          show own_Go _ _ _ _ T15 (mkF m 24 #[.val (.int ip0x1_1), .val (.ref b2x2_2c1), .val (.int (10 : Int32)), .val (.int ((((0 : Int32) + (1 : Int32)) + (1 : Int32)) + (1 : Int32))), .val (.ref w_EACCES)] [(.int (13 : Int32))])
          refine own_st (fun t k => XS.iloadN X15.here hx rfl (hb hby own_d1_24) rfl k) ?_
          show own_Go _ _ _ _ T15 (mkF m 25 #[.val (.int ip0x1_1), .val (.ref b2x2_2c1), .val (.int (10 : Int32)), .val (.int ((((0 : Int32) + (1 : Int32)) + (1 : Int32)) + (1 : Int32))), .val (.ref w_EACCES)] [(.int ip0x1_1), (.int (13 : Int32))])
          by_cases hc16 : (13 : Int32) = ip0x1_1
          · skip
            refine own_st (fun t k => XS.icmpNo X15.here hx rfl (hb hby own_d1_25) rfl (teq hc16).2 k) ?_
            show own_Go _ _ _ _ T15 (mkF m 28 #[.val (.int ip0x1_1), .val (.ref b2x2_2c1), .val (.int (10 : Int32)), .val (.int ((((0 : Int32) + (1 : Int32)) + (1 : Int32)) + (1 : Int32))), .val (.ref w_EACCES)] [])
            refine own_st (fun t k => XS.aload X15.here hx rfl (hb hby own_d1_28) rfl rfl k) ?_
            show own_Go _ _ _ _ T15 (mkF m 30 #[.val (.int ip0x1_1), .val (.ref b2x2_2c1), .val (.int (10 : Int32)), .val (.int ((((0 : Int32) + (1 : Int32)) + (1 : Int32)) + (1 : Int32))), .val (.ref w_EACCES)] [(.ref w_EACCES)])
            obtain ⟨_, _, ⟨T17, L17, k17, n17⟩, -, X17, ⟨Lc17, hQ17, l17, y17, z17⟩, st17⟩ := Jvm.LawKit.callS X15 hx (y := (⟨"java/util/Optional", "of", "(Ljava/lang/Object;)Ljava/util/Optional;"⟩ : MethodName)) hown (mvT hZ (own_w hw 47 rfl)) (mvT hZ (own_w hw 48 rfl)) (mvT hZ (own_w hw 33 rfl)) (mvT hZ (own_w hw 49 rfl)) (by decide) (backOf (W := 0) (own_rm6_3 l Z a0 hw [] w_EACCES T1.heap n0 Z1 ) hZ (own_w hw 49 rfl) (own_w hw 33 rfl) (by decide) (by decide)) (g := (mkF m 30 #[.val (.int ip0x1_1), .val (.ref b2x2_2c1), .val (.int (10 : Int32)), .val (.int ((((0 : Int32) + (1 : Int32)) + (1 : Int32)) + (1 : Int32))), .val (.ref w_EACCES)] [(.ref w_EACCES)])) rfl (by rw [hml]; rfl) (argsL := [(.ref w_EACCES)]) (rest := []) (lenOf own_pd3 rfl) rfl (by show 2 * 0 + _ ≤ _; exact Nat.le_of_eq rfl) (hb hby own_d1_30) (fun _ _ => ⟨rfl, e15, (by decide : 1 + 1 ≤ _), (by decide : 10 + 1 ≤ _)⟩)
            dsimp only [Pt.U, Pt.locs, Pt.cells, Pt.slots] at X17 l17 y17 z17 st17 hQ17
            subst l17 y17 z17
            obtain ⟨N17q, Kq17, hL17⟩ := hQ17
            have N17 := Fr.app N1 N17q
            have K17 : Keep h0 T17.heap [] := K1.trans Kq17 all0
            have Z17 := Nat.le_trans Z1 Kq17.1
            rcases hL17 with ⟨b1x6_3c17, rfl, sq_b1x6_3c17, Fc17_0_0, Fc17_0_1, -⟩
            · skip
              have g_b1x6_3c17 : n0 ≤ b1x6_3c17 := Nat.le_trans Z1 sq_b1x6_3c17
              have sz_b1x6_3c17 : h0.size ≤ b1x6_3c17 := Nat.le_trans K1.1 sq_b1x6_3c17
              refine own_st st17 ?_
              show own_Go _ _ _ _ T17 (mkF m 33 #[.val (.int ip0x1_1), .val (.ref b2x2_2c1), .val (.int (10 : Int32)), .val (.int ((((0 : Int32) + (1 : Int32)) + (1 : Int32)) + (1 : Int32))), .val (.ref w_EACCES)] [(.ref b1x6_3c17)])
              exact own_retA X17 hx hlk hret rfl rfl (hb hby own_d1_33) (by decide) (by decide) rfl ⟨N17, K17, (Or.inr (Or.inr (Or.inr (Or.inl ⟨b1x6_3c17, rfl, hc4, hc8, hc12, hc16, sz_b1x6_3c17, Fc17_0_0, Fc17_0_1, trivial⟩))))⟩
          · skip
            refine own_st (fun t k => XS.icmpYes X15.here hx rfl (pc0 := 25) (pc' := 34) rfl (hb hby own_d1_25) rfl (feq hc16).2 (by decide) (by decide) k) ?_
            show own_Go _ _ _ _ T15 (mkF m 34 #[.val (.int ip0x1_1), .val (.ref b2x2_2c1), .val (.int (10 : Int32)), .val (.int ((((0 : Int32) + (1 : Int32)) + (1 : Int32)) + (1 : Int32))), .val (.ref w_EACCES)] [])
            refine own_st (fun t k => XS.iinc X15.here hx rfl (hb hby own_d1_34) rfl (l' := #[.val (.int ip0x1_1), .val (.ref b2x2_2c1), .val (.int (10 : Int32)), .val (.int (((((0 : Int32) + (1 : Int32)) + (1 : Int32)) + (1 : Int32)) + (1 : Int32))), .val (.ref w_EACCES)]) rfl k) ?_
            show own_Go _ _ _ _ T15 (mkF m 37 #[.val (.int ip0x1_1), .val (.ref b2x2_2c1), .val (.int (10 : Int32)), .val (.int (((((0 : Int32) + (1 : Int32)) + (1 : Int32)) + (1 : Int32)) + (1 : Int32))), .val (.ref w_EACCES)] [])
            refine own_st (fun t k => XS.goto X15.here hx rfl (pc0 := 37) (pc' := 9) rfl (hb hby own_d1_37) (by decide) (by decide) k) ?_
            show own_Go _ _ _ _ T15 (mkF m 9 #[.val (.int ip0x1_1), .val (.ref b2x2_2c1), .val (.int (10 : Int32)), .val (.int (((((0 : Int32) + (1 : Int32)) + (1 : Int32)) + (1 : Int32)) + (1 : Int32))), .val (.ref w_EACCES)] [])
            refine own_st (fun t k => XS.iloadN X15.here hx rfl (hb hby own_d1_9) rfl k) ?_
            show own_Go _ _ _ _ T15 (mkF m 10 #[.val (.int ip0x1_1), .val (.ref b2x2_2c1), .val (.int (10 : Int32)), .val (.int (((((0 : Int32) + (1 : Int32)) + (1 : Int32)) + (1 : Int32)) + (1 : Int32))), .val (.ref w_EACCES)] [(.int (((((0 : Int32) + (1 : Int32)) + (1 : Int32)) + (1 : Int32)) + (1 : Int32)))])
            refine own_st (fun t k => XS.iloadN X15.here hx rfl (hb hby own_d1_10) rfl k) ?_
            show own_Go _ _ _ _ T15 (mkF m 11 #[.val (.int ip0x1_1), .val (.ref b2x2_2c1), .val (.int (10 : Int32)), .val (.int (((((0 : Int32) + (1 : Int32)) + (1 : Int32)) + (1 : Int32)) + (1 : Int32))), .val (.ref w_EACCES)] [(.int (10 : Int32)), (.int (((((0 : Int32) + (1 : Int32)) + (1 : Int32)) + (1 : Int32)) + (1 : Int32)))])
            refine own_st (fun t k => XS.icmpNo X15.here hx rfl (hb hby own_d1_11) rfl (tlt (by decide : (((((0 : Int32) + (1 : Int32)) + (1 : Int32)) + (1 : Int32)) + (1 : Int32)) < (10 : Int32))).2.1 k) ?_
            show own_Go _ _ _ _ T15 (mkF m 14 #[.val (.int ip0x1_1), .val (.ref b2x2_2c1), .val (.int (10 : Int32)), .val (.int (((((0 : Int32) + (1 : Int32)) + (1 : Int32)) + (1 : Int32)) + (1 : Int32))), .val (.ref w_EACCES)] [])
            refine own_st (fun t k => XS.aloadN X15.here hx rfl (hb hby own_d1_14) rfl rfl k) ?_
            show own_Go _ _ _ _ T15 (mkF m 15 #[.val (.int ip0x1_1), .val (.ref b2x2_2c1), .val (.int (10 : Int32)), .val (.int (((((0 : Int32) + (1 : Int32)) + (1 : Int32)) + (1 : Int32)) + (1 : Int32))), .val (.ref w_EACCES)] [(.ref b2x2_2c1)])
            refine own_st (fun t k => XS.iloadN X15.here hx rfl (hb hby own_d1_15) rfl k) ?_
            show own_Go _ _ _ _ T15 (mkF m 16 #[.val (.int ip0x1_1), .val (.ref b2x2_2c1), .val (.int (10 : Int32)), .val (.int (((((0 : Int32) + (1 : Int32)) + (1 : Int32)) + (1 : Int32)) + (1 : Int32))), .val (.ref w_EACCES)] [(.int (((((0 : Int32) + (1 : Int32)) + (1 : Int32)) + (1 : Int32)) + (1 : Int32))), (.ref b2x2_2c1)])
            refine own_st (own_aaload X15 hx hZ e15 Fc1_0_0 rfl (j := (((((0 : Int32) + (1 : Int32)) + (1 : Int32)) + (1 : Int32)) + (1 : Int32))) (v := (.ref w_EEXIST)) ⟨by decide, by decide⟩ rfl (g := (mkF m 16 #[.val (.int ip0x1_1), .val (.ref b2x2_2c1), .val (.int (10 : Int32)), .val (.int (((((0 : Int32) + (1 : Int32)) + (1 : Int32)) + (1 : Int32)) + (1 : Int32))), .val (.ref w_EACCES)] [(.int (((((0 : Int32) + (1 : Int32)) + (1 : Int32)) + (1 : Int32)) + (1 : Int32))), (.ref b2x2_2c1)])) rfl rfl (hb hby own_d1_16)) ?_
            show own_Go _ _ _ _ T15 (mkF m 17 #[.val (.int ip0x1_1), .val (.ref b2x2_2c1), .val (.int (10 : Int32)), .val (.int (((((0 : Int32) + (1 : Int32)) + (1 : Int32)) + (1 : Int32)) + (1 : Int32))), .val (.ref w_EACCES)] [(.ref w_EEXIST)])
            refine own_st (fun t k => XS.astore X15.here hx rfl (hb hby own_d1_17) rfl rfl (l' := #[.val (.int ip0x1_1), .val (.ref b2x2_2c1), .val (.int (10 : Int32)), .val (.int (((((0 : Int32) + (1 : Int32)) + (1 : Int32)) + (1 : Int32)) + (1 : Int32))), .val (.ref w_EEXIST)]) rfl k) ?_
            show own_Go _ _ _ _ T15 (mkF m 19 #[.val (.int ip0x1_1), .val (.ref b2x2_2c1), .val (.int (10 : Int32)), .val (.int (((((0 : Int32) + (1 : Int32)) + (1 : Int32)) + (1 : Int32)) + (1 : Int32))), .val (.ref w_EEXIST)] [])
            refine own_st (fun t k => XS.aload X15.here hx rfl (hb hby own_d1_19) rfl rfl k) ?_
            show own_Go _ _ _ _ T15 (mkF m 21 #[.val (.int ip0x1_1), .val (.ref b2x2_2c1), .val (.int (10 : Int32)), .val (.int (((((0 : Int32) + (1 : Int32)) + (1 : Int32)) + (1 : Int32)) + (1 : Int32))), .val (.ref w_EEXIST)] [(.ref w_EEXIST)])
            have f18 := (P7.keep Kq1 nin0)
            obtain ⟨T19, X19, e19, st19⟩ := getF X15 hx hZ hown (host := "") (Or.inl (own_w hw 29 rfl)) Via.refl e15 f18 (g := (mkF m 21 #[.val (.int ip0x1_1), .val (.ref b2x2_2c1), .val (.int (10 : Int32)), .val (.int (((((0 : Int32) + (1 : Int32)) + (1 : Int32)) + (1 : Int32)) + (1 : Int32))), .val (.ref w_EEXIST)] [(.ref w_EEXIST)])) rfl rfl (hb hby own_d1_21)
            refine own_st st19 ?_
            show own_Go _ _ _ _ T19 (mkF m 24 #[.val (.int ip0x1_1), .val (.ref b2x2_2c1), .val (.int (10 : Int32)), .val (.int (((((0 : Int32) + (1 : Int32)) + (1 : Int32)) + (1 : Int32)) + (1 : Int32))), .val (.ref w_EEXIST)] [(.int (17 : Int32))])
            refine own_st (fun t k => XS.iloadN X19.here hx rfl (hb hby own_d1_24) rfl k) ?_
            show own_Go _ _ _ _ T19 (mkF m 25 #[.val (.int ip0x1_1), .val (.ref b2x2_2c1), .val (.int (10 : Int32)), .val (.int (((((0 : Int32) + (1 : Int32)) + (1 : Int32)) + (1 : Int32)) + (1 : Int32))), .val (.ref w_EEXIST)] [(.int ip0x1_1), (.int (17 : Int32))])
            by_cases hc20 : (17 : Int32) = ip0x1_1
            · skip
              refine own_st (fun t k => XS.icmpNo X19.here hx rfl (hb hby own_d1_25) rfl (teq hc20).2 k) ?_
              show own_Go _ _ _ _ T19 (mkF m 28 #[.val (.int ip0x1_1), .val (.ref b2x2_2c1), .val (.int (10 : Int32)), .val (.int (((((0 : Int32) + (1 : Int32)) + (1 : Int32)) + (1 : Int32)) + (1 : Int32))), .val (.ref w_EEXIST)] [])
              refine own_st (fun t k => XS.aload X19.here hx rfl (hb hby own_d1_28) rfl rfl k) ?_
              show own_Go _ _ _ _ T19 (mkF m 30 #[.val (.int ip0x1_1), .val (.ref b2x2_2c1), .val (.int (10 : Int32)), .val (.int (((((0 : Int32) + (1 : Int32)) + (1 : Int32)) + (1 : Int32)) + (1 : Int32))), .val (.ref w_EEXIST)] [(.ref w_EEXIST)])
              obtain ⟨_, _, ⟨T21, L21, k21, n21⟩, -, X21, ⟨Lc21, hQ21, l21, y21, z21⟩, st21⟩ := Jvm.LawKit.callS X19 hx (y := (⟨"java/util/Optional", "of", "(Ljava/lang/Object;)Ljava/util/Optional;"⟩ : MethodName)) hown (mvT hZ (own_w hw 47 rfl)) (mvT hZ (own_w hw 48 rfl)) (mvT hZ (own_w hw 33 rfl)) (mvT hZ (own_w hw 49 rfl)) (by decide) (backOf (W := 0) (own_rm6_3 l Z a0 hw [] w_EEXIST T1.heap n0 Z1 ) hZ (own_w hw 49 rfl) (own_w hw 33 rfl) (by decide) (by decide)) (g := (mkF m 30 #[.val (.int ip0x1_1), .val (.ref b2x2_2c1), .val (.int (10 : Int32)), .val (.int (((((0 : Int32) + (1 : Int32)) + (1 : Int32)) + (1 : Int32)) + (1 : Int32))), .val (.ref w_EEXIST)] [(.ref w_EEXIST)])) rfl (by rw [hml]; rfl) (argsL := [(.ref w_EEXIST)]) (rest := []) (lenOf own_pd3 rfl) rfl (by show 2 * 0 + _ ≤ _; exact Nat.le_of_eq rfl) (hb hby own_d1_30) (fun _ _ => ⟨rfl, e19, (by decide : 1 + 1 ≤ _), (by decide : 10 + 1 ≤ _)⟩)
              dsimp only [Pt.U, Pt.locs, Pt.cells, Pt.slots] at X21 l21 y21 z21 st21 hQ21
              subst l21 y21 z21
              obtain ⟨N21q, Kq21, hL21⟩ := hQ21
              have N21 := Fr.app N1 N21q
              have K21 : Keep h0 T21.heap [] := K1.trans Kq21 all0
              have Z21 := Nat.le_trans Z1 Kq21.1
              rcases hL21 with ⟨b1x6_3c21, rfl, sq_b1x6_3c21, Fc21_0_0, Fc21_0_1, -⟩
              · skip
                have g_b1x6_3c21 : n0 ≤ b1x6_3c21 := Nat.le_trans Z1 sq_b1x6_3c21
                have sz_b1x6_3c21 : h0.size ≤ b1x6_3c21 := Nat.le_trans K1.1 sq_b1x6_3c21
                refine own_st st21 ?_
                show own_Go _ _ _ _ T21 (mkF m 33 #[.val (.int ip0x1_1), .val (.ref b2x2_2c1), .val (.int (10 : Int32)), .val (.int (((((0 : Int32) + (1 : Int32)) + (1 : Int32)) + (1 : Int32)) + (1 : Int32))), .val (.ref w_EEXIST)] [(.ref b1x6_3c21)])
                exact own_retA X21 hx hlk hret rfl rfl (hb hby own_d1_33) (by decide) (by decide) rfl ⟨N21, K21, (Or.inr (Or.inr (Or.inr (Or.inr (Or.inl ⟨b1x6_3c21, rfl, hc4, hc8, hc12, hc16, hc20, sz_b1x6_3c21, Fc21_0_0, Fc21_0_1, trivial⟩)))))⟩
            · skip
              refine own_st (fun t k => XS.icmpYes X19.here hx rfl (pc0 := 25) (pc' := 34) rfl (hb hby own_d1_25) rfl (feq hc20).2 (by decide) (by decide) k) ?_
              show own_Go _ _ _ _ T19 (mkF m 34 #[.val (.int ip0x1_1), .val (.ref b2x2_2c1), .val (.int (10 : Int32)), .val (.int (((((0 : Int32) + (1 : Int32)) + (1 : Int32)) + (1 : Int32)) + (1 : Int32))), .val (.ref w_EEXIST)] [])
              refine own_st (fun t k => XS.iinc X19.here hx rfl (hb hby own_d1_34) rfl (l' := #[.val (.int ip0x1_1), .val (.ref b2x2_2c1), .val (.int (10 : Int32)), .val (.int ((((((0 : Int32) + (1 : Int32)) + (1 : Int32)) + (1 : Int32)) + (1 : Int32)) + (1 : Int32))), .val (.ref w_EEXIST)]) rfl k) ?_
              show own_Go _ _ _ _ T19 (mkF m 37 #[.val (.int ip0x1_1), .val (.ref b2x2_2c1), .val (.int (10 : Int32)), .val (.int ((((((0 : Int32) + (1 : Int32)) + (1 : Int32)) + (1 : Int32)) + (1 : Int32)) + (1 : Int32))), .val (.ref w_EEXIST)] [])
              refine own_st (fun t k => XS.goto X19.here hx rfl (pc0 := 37) (pc' := 9) rfl (hb hby own_d1_37) (by decide) (by decide) k) ?_
              show own_Go _ _ _ _ T19 (mkF m 9 #[.val (.int ip0x1_1), .val (.ref b2x2_2c1), .val (.int (10 : Int32)), .val (.int ((((((0 : Int32) + (1 : Int32)) + (1 : Int32)) + (1 : Int32)) + (1 : Int32)) + (1 : Int32))), .val (.ref w_EEXIST)] [])
              refine own_st (fun t k => XS.iloadN X19.here hx rfl (hb hby own_d1_9) rfl k) ?_
              show own_Go _ _ _ _ T19 (mkF m 10 #[.val (.int ip0x1_1), .val (.ref b2x2_2c1), .val (.int (10 : Int32)), .val (.int ((((((0 : Int32) + (1 : Int32)) + (1 : Int32)) + (1 : Int32)) + (1 : Int32)) + (1 : Int32))), .val (.ref w_EEXIST)] [(.int ((((((0 : Int32) + (1 : Int32)) + (1 : Int32)) + (1 : Int32)) + (1 : Int32)) + (1 : Int32)))])
              refine own_st (fun t k => XS.iloadN X19.here hx rfl (hb hby own_d1_10) rfl k) ?_
              show own_Go _ _ _ _ T19 (mkF m 11 #[.val (.int ip0x1_1), .val (.ref b2x2_2c1), .val (.int (10 : Int32)), .val (.int ((((((0 : Int32) + (1 : Int32)) + (1 : Int32)) + (1 : Int32)) + (1 : Int32)) + (1 : Int32))), .val (.ref w_EEXIST)] [(.int (10 : Int32)), (.int ((((((0 : Int32) + (1 : Int32)) + (1 : Int32)) + (1 : Int32)) + (1 : Int32)) + (1 : Int32)))])
              refine own_st (fun t k => XS.icmpNo X19.here hx rfl (hb hby own_d1_11) rfl (tlt (by decide : ((((((0 : Int32) + (1 : Int32)) + (1 : Int32)) + (1 : Int32)) + (1 : Int32)) + (1 : Int32)) < (10 : Int32))).2.1 k) ?_
              show own_Go _ _ _ _ T19 (mkF m 14 #[.val (.int ip0x1_1), .val (.ref b2x2_2c1), .val (.int (10 : Int32)), .val (.int ((((((0 : Int32) + (1 : Int32)) + (1 : Int32)) + (1 : Int32)) + (1 : Int32)) + (1 : Int32))), .val (.ref w_EEXIST)] [])
              refine own_st (fun t k => XS.aloadN X19.here hx rfl (hb hby own_d1_14) rfl rfl k) ?_
              show own_Go _ _ _ _ T19 (mkF m 15 #[.val (.int ip0x1_1), .val (.ref b2x2_2c1), .val (.int (10 : Int32)), .val (.int ((((((0 : Int32) + (1 : Int32)) + (1 : Int32)) + (1 : Int32)) + (1 : Int32)) + (1 : Int32))), .val (.ref w_EEXIST)] [(.ref b2x2_2c1)])
              refine own_st (fun t k => XS.iloadN X19.here hx rfl (hb hby own_d1_15) rfl k) ?_
              show own_Go _ _ _ _ T19 (mkF m 16 #[.val (.int ip0x1_1), .val (.ref b2x2_2c1), .val (.int (10 : Int32)), .val (.int ((((((0 : Int32) + (1 : Int32)) + (1 : Int32)) + (1 : Int32)) + (1 : Int32)) + (1 : Int32))), .val (.ref w_EEXIST)] [(.int ((((((0 : Int32) + (1 : Int32)) + (1 : Int32)) + (1 : Int32)) + (1 : Int32)) + (1 : Int32))), (.ref b2x2_2c1)])
              refine own_st (own_aaload X19 hx hZ e19 Fc1_0_0 rfl (j := ((((((0 : Int32) + (1 : Int32)) + (1 : Int32)) + (1 : Int32)) + (1 : Int32)) + (1 : Int32))) (v := (.ref w_ENOTDIR)) ⟨by decide, by decide⟩ rfl (g := (mkF m 16 #[.val (.int ip0x1_1), .val (.ref b2x2_2c1), .val (.int (10 : Int32)), .val (.int ((((((0 : Int32) + (1 : Int32)) + (1 : Int32)) + (1 : Int32)) + (1 : Int32)) + (1 : Int32))), .val (.ref w_EEXIST)] [(.int ((((((0 : Int32) + (1 : Int32)) + (1 : Int32)) + (1 : Int32)) + (1 : Int32)) + (1 : Int32))), (.ref b2x2_2c1)])) rfl rfl (hb hby own_d1_16)) ?_
              show own_Go _ _ _ _ T19 (mkF m 17 #[.val (.int ip0x1_1), .val (.ref b2x2_2c1), .val (.int (10 : Int32)), .val (.int ((((((0 : Int32) + (1 : Int32)) + (1 : Int32)) + (1 : Int32)) + (1 : Int32)) + (1 : Int32))), .val (.ref w_EEXIST)] [(.ref w_ENOTDIR)])
              refine own_st (fun t k => XS.astore X19.here hx rfl (hb hby own_d1_17) rfl rfl (l' := #[.val (.int ip0x1_1), .val (.ref b2x2_2c1), .val (.int (10 : Int32)), .val (.int ((((((0 : Int32) + (1 : Int32)) + (1 : Int32)) + (1 : Int32)) + (1 : Int32)) + (1 : Int32))), .val (.ref w_ENOTDIR)]) rfl k) ?_
              show own_Go _ _ _ _ T19 (mkF m 19 #[.val (.int ip0x1_1), .val (.ref b2x2_2c1), .val (.int (10 : Int32)), .val (.int ((((((0 : Int32) + (1 : Int32)) + (1 : Int32)) + (1 : Int32)) + (1 : Int32)) + (1 : Int32))), .val (.ref w_ENOTDIR)] [])
              refine own_st (fun t k => XS.aload X19.here hx rfl (hb hby own_d1_19) rfl rfl k) ?_
              show own_Go _ _ _ _ T19 (mkF m 21 #[.val (.int ip0x1_1), .val (.ref b2x2_2c1), .val (.int (10 : Int32)), .val (.int ((((((0 : Int32) + (1 : Int32)) + (1 : Int32)) + (1 : Int32)) + (1 : Int32)) + (1 : Int32))), .val (.ref w_ENOTDIR)] [(.ref w_ENOTDIR)])
              have f22 := (P8.keep Kq1 nin0)
              obtain ⟨T23, X23, e23, st23⟩ := getF X19 hx hZ hown (host := "") (Or.inl (own_w hw 29 rfl)) Via.refl e19 f22 (g := (mkF m 21 #[.val (.int ip0x1_1), .val (.ref b2x2_2c1), .val (.int (10 : Int32)), .val (.int ((((((0 : Int32) + (1 : Int32)) + (1 : Int32)) + (1 : Int32)) + (1 : Int32)) + (1 : Int32))), .val (.ref w_ENOTDIR)] [(.ref w_ENOTDIR)])) rfl rfl (hb hby own_d1_21)
              refine own_st st23 ?_
              show own_Go _ _ _ _ T23 (mkF m 24 #[.val (.int ip0x1_1), .val (.ref b2x2_2c1), .val (.int (10 : Int32)), .val (.int ((((((0 : Int32) + (1 : Int32)) + (1 : Int32)) + (1 : Int32)) + (1 : Int32)) + (1 : Int32))), .val (.ref w_ENOTDIR)] [(.int (20 : Int32))])
              refine own_st (fun t k => XS.iloadN X23.here hx rfl (hb hby own_d1_24) rfl k) ?_
              show own_Go _ _ _ _ T23 (mkF m 25 #[.val (.int ip0x1_1), .val (.ref b2x2_2c1), .val (.int (10 : Int32)), .val (.int ((((((0 : Int32) + (1 : Int32)) + (1 : Int32)) + (1 : Int32)) + (1 : Int32)) + (1 : Int32))), .val (.ref w_ENOTDIR)] [(.int ip0x1_1), (.int (20 : Int32))])
              by_cases hc24 : (20 : Int32) = ip0x1_1
              · skip
                refine own_st (fun t k => XS.icmpNo X23.here hx rfl (hb hby own_d1_25) rfl (teq hc24).2 k) ?_
                show own_Go _ _ _ _ T23 (mkF m 28 #[.val (.int ip0x1_1), .val (.ref b2x2_2c1), .val (.int (10 : Int32)), .val (.int ((((((0 : Int32) + (1 : Int32)) + (1 : Int32)) + (1 : Int32)) + (1 : Int32)) + (1 : Int32))), .val (.ref w_ENOTDIR)] [])
                refine own_st (fun t k => XS.aload X23.here hx rfl (hb hby own_d1_28) rfl rfl k) ?_
                show own_Go _ _ _ _ T23 (mkF m 30 #[.val (.int ip0x1_1), .val (.ref b2x2_2c1), .val (.int (10 : Int32)), .val (.int ((((((0 : Int32) + (1 : Int32)) + (1 : Int32)) + (1 : Int32)) + (1 : Int32)) + (1 : Int32))), .val (.ref w_ENOTDIR)] [(.ref w_ENOTDIR)])
                obtain ⟨_, _, ⟨T25, L25, k25, n25⟩, -, X25, ⟨Lc25, hQ25, l25, y25, z25⟩, st25⟩ := Jvm.LawKit.callS X23 hx (y := (⟨"java/util/Optional", "of", "(Ljava/lang/Object;)Ljava/util/Optional;"⟩ : MethodName)) hown (mvT hZ (own_w hw 47 rfl)) (mvT hZ (own_w hw 48 rfl)) (mvT hZ (own_w hw 33 rfl)) (mvT hZ (own_w hw 49 rfl)) (by decide) (backOf (W := 0) (own_rm6_3 l Z a0 hw [] w_ENOTDIR T1.heap n0 Z1 ) hZ (own_w hw 49 rfl) (own_w hw 33 rfl) (by decide) (by decide)) (g := (mkF m 30 #[.val (.int ip0x1_1), .val (.ref b2x2_2c1), .val (.int (10 : Int32)), .val (.int ((((((0 : Int32) + (1 : Int32)) + (1 : Int32)) + (1 : Int32)) + (1 : Int32)) + (1 : Int32))), .val (.ref w_ENOTDIR)] [(.ref w_ENOTDIR)])) rfl (by rw [hml]; rfl) (argsL := [(.ref w_ENOTDIR)]) (rest := []) (lenOf own_pd3 rfl) rfl (by show 2 * 0 + _ ≤ _; exact Nat.le_of_eq rfl) (hb hby own_d1_30) (fun _ _ => ⟨rfl, e23, (by decide : 1 + 1 ≤ _), (by decide : 10 + 1 ≤ _)⟩)
                dsimp only [Pt.U, Pt.locs, Pt.cells, Pt.slots] at X25 l25 y25 z25 st25 hQ25
                subst l25 y25 z25
                obtain ⟨N25q, Kq25, hL25⟩ := hQ25
                have N25 := Fr.app N1 N25q
                have K25 : Keep h0 T25.heap [] := K1.trans Kq25 all0
                have Z25 := Nat.le_trans Z1 Kq25.1
                rcases hL25 with ⟨b1x6_3c25, rfl, sq_b1x6_3c25, Fc25_0_0, Fc25_0_1, -⟩
                · skip
                  have g_b1x6_3c25 : n0 ≤ b1x6_3c25 := Nat.le_trans Z1 sq_b1x6_3c25
                  have sz_b1x6_3c25 : h0.size ≤ b1x6_3c25 := Nat.le_trans K1.1 sq_b1x6_3c25
                  refine own_st st25 ?_
                  show own_Go _ _ _ _ T25 (mkF m 33 #[.val (.int ip0x1_1), .val (.ref b2x2_2c1), .val (.int (10 : Int32)), .val (.int ((((((0 : Int32) + (1 : Int32)) + (1 : Int32)) + (1 : Int32)) + (1 : Int32)) + (1 : Int32))), .val (.ref w_ENOTDIR)] [(.ref b1x6_3c25)])
                  exact own_retA X25 hx hlk hret rfl rfl (hb hby own_d1_33) (by decide) (by decide) rfl ⟨N25, K25, (Or.inr (Or.inr (Or.inr (Or.inr (Or.inr (Or.inl ⟨b1x6_3c25, rfl, hc4, hc8, hc12, hc16, hc20, hc24, sz_b1x6_3c25, Fc25_0_0, Fc25_0_1, trivial⟩))))))⟩
              · skip
                refine own_st (fun t k => XS.icmpYes X23.here hx rfl (pc0 := 25) (pc' := 34) rfl (hb hby own_d1_25) rfl (feq hc24).2 (by decide) (by decide) k) ?_
                show own_Go _ _ _ _ T23 (mkF m 34 #[.val (.int ip0x1_1), .val (.ref b2x2_2c1), .val (.int (10 : Int32)), .val (.int ((((((0 : Int32) + (1 : Int32)) + (1 : Int32)) + (1 : Int32)) + (1 : Int32)) + (1 : Int32))), .val (.ref w_ENOTDIR)] [])
                refine own_st (fun t k => XS.iinc X23.here hx rfl (hb hby own_d1_34) rfl (l' := #[.val (.int ip0x1_1), .val (.ref b2x2_2c1), .val (.int (10 : Int32)), .val (.int (((((((0 : Int32) + (1 : Int32)) + (1 : Int32)) + (1 : Int32)) + (1 : Int32)) + (1 : Int32)) + (1 : Int32))), .val (.ref w_ENOTDIR)]) rfl k) ?_
                show own_Go _ _ _ _ T23 (mkF m 37 #[.val (.int ip0x1_1), .val (.ref b2x2_2c1), .val (.int (10 : Int32)), .val (.int (((((((0 : Int32) + (1 : Int32)) + (1 : Int32)) + (1 : Int32)) + (1 : Int32)) + (1 : Int32)) + (1 : Int32))), .val (.ref w_ENOTDIR)] [])
                refine own_st (fun t k => XS.goto X23.here hx rfl (pc0 := 37) (pc' := 9) rfl (hb hby own_d1_37) (by decide) (by decide) k) ?_
                show own_Go _ _ _ _ T23 (mkF m 9 #[.val (.int ip0x1_1), .val (.ref b2x2_2c1), .val (.int (10 : Int32)), .val (.int (((((((0 : Int32) + (1 : Int32)) + (1 : Int32)) + (1 : Int32)) + (1 : Int32)) + (1 : Int32)) + (1 : Int32))), .val (.ref w_ENOTDIR)] [])
                refine own_st (fun t k => XS.iloadN X23.here hx rfl (hb hby own_d1_9) rfl k) ?_
                show own_Go _ _ _ _ T23 (mkF m 10 #[.val (.int ip0x1_1), .val (.ref b2x2_2c1), .val (.int (10 : Int32)), .val (.int (((((((0 : Int32) + (1 : Int32)) + (1 : Int32)) + (1 : Int32)) + (1 : Int32)) + (1 : Int32)) + (1 : Int32))), .val (.ref w_ENOTDIR)] [(.int (((((((0 : Int32) + (1 : Int32)) + (1 : Int32)) + (1 : Int32)) + (1 : Int32)) + (1 : Int32)) + (1 : Int32)))])
                refine own_st (fun t k => XS.iloadN X23.here hx rfl (hb hby own_d1_10) rfl k) ?_
                show own_Go _ _ _ _ T23 (mkF m 11 #[.val (.int ip0x1_1), .val (.ref b2x2_2c1), .val (.int (10 : Int32)), .val (.int (((((((0 : Int32) + (1 : Int32)) + (1 : Int32)) + (1 : Int32)) + (1 : Int32)) + (1 : Int32)) + (1 : Int32))), .val (.ref w_ENOTDIR)] [(.int (10 : Int32)), (.int (((((((0 : Int32) + (1 : Int32)) + (1 : Int32)) + (1 : Int32)) + (1 : Int32)) + (1 : Int32)) + (1 : Int32)))])
                refine own_st (fun t k => XS.icmpNo X23.here hx rfl (hb hby own_d1_11) rfl (tlt (by decide : (((((((0 : Int32) + (1 : Int32)) + (1 : Int32)) + (1 : Int32)) + (1 : Int32)) + (1 : Int32)) + (1 : Int32)) < (10 : Int32))).2.1 k) ?_
                show own_Go _ _ _ _ T23 (mkF m 14 #[.val (.int ip0x1_1), .val (.ref b2x2_2c1), .val (.int (10 : Int32)), .val (.int (((((((0 : Int32) + (1 : Int32)) + (1 : Int32)) + (1 : Int32)) + (1 : Int32)) + (1 : Int32)) + (1 : Int32))), .val (.ref w_ENOTDIR)] [])
                refine own_st (fun t k => XS.aloadN X23.here hx rfl (hb hby own_d1_14) rfl rfl k) ?_
                show own_Go _ _ _ _ T23 (mkF m 15 #[.val (.int ip0x1_1), .val (.ref b2x2_2c1), .val (.int (10 : Int32)), .val (.int (((((((0 : Int32) + (1 : Int32)) + (1 : Int32)) + (1 : Int32)) + (1 : Int32)) + (1 : Int32)) + (1 : Int32))), .val (.ref w_ENOTDIR)] [(.ref b2x2_2c1)])
                refine own_st (fun t k => XS.iloadN X23.here hx rfl (hb hby own_d1_15) rfl k) ?_
                show own_Go _ _ _ _ T23 (mkF m 16 #[.val (.int ip0x1_1), .val (.ref b2x2_2c1), .val (.int (10 : Int32)), .val (.int (((((((0 : Int32) + (1 : Int32)) + (1 : Int32)) + (1 : Int32)) + (1 : Int32)) + (1 : Int32)) + (1 : Int32))), .val (.ref w_ENOTDIR)] [(.int (((((((0 : Int32) + (1 : Int32)) + (1 : Int32)) + (1 : Int32)) + (1 : Int32)) + (1 : Int32)) + (1 : Int32))), (.ref b2x2_2c1)])
                refine own_st (own_aaload X23 hx hZ e23 Fc1_0_0 rfl (j := (((((((0 : Int32) + (1 : Int32)) + (1 : Int32)) + (1 : Int32)) + (1 : Int32)) + (1 : Int32)) + (1 : Int32))) (v := (.ref w_EISDIR)) ⟨by decide, by decide⟩ rfl (g := (mkF m 16 #[.val (.int ip0x1_1), .val (.ref b2x2_2c1), .val (.int (10 : Int32)), .val (.int (((((((0 : Int32) + (1 : Int32)) + (1 : Int32)) + (1 : Int32)) + (1 : Int32)) + (1 : Int32)) + (1 : Int32))), .val (.ref w_ENOTDIR)] [(.int (((((((0 : Int32) + (1 : Int32)) + (1 : Int32)) + (1 : Int32)) + (1 : Int32)) + (1 : Int32)) + (1 : Int32))), (.ref b2x2_2c1)])) rfl rfl (hb hby own_d1_16)) ?_
                show own_Go _ _ _ _ T23 (mkF m 17 #[.val (.int ip0x1_1), .val (.ref b2x2_2c1), .val (.int (10 : Int32)), .val (.int (((((((0 : Int32) + (1 : Int32)) + (1 : Int32)) + (1 : Int32)) + (1 : Int32)) + (1 : Int32)) + (1 : Int32))), .val (.ref w_ENOTDIR)] [(.ref w_EISDIR)])
                refine own_st (fun t k => XS.astore X23.here hx rfl (hb hby own_d1_17) rfl rfl (l' := #[.val (.int ip0x1_1), .val (.ref b2x2_2c1), .val (.int (10 : Int32)), .val (.int (((((((0 : Int32) + (1 : Int32)) + (1 : Int32)) + (1 : Int32)) + (1 : Int32)) + (1 : Int32)) + (1 : Int32))), .val (.ref w_EISDIR)]) rfl k) ?_
                show own_Go _ _ _ _ T23 (mkF m 19 #[.val (.int ip0x1_1), .val (.ref b2x2_2c1), .val (.int (10 : Int32)), .val (.int (((((((0 : Int32) + (1 : Int32)) + (1 : Int32)) + (1 : Int32)) + (1 : Int32)) + (1 : Int32)) + (1 : Int32))), .val (.ref w_EISDIR)] [])
                refine own_st (fun t k => XS.aload X23.here hx rfl (hb hby own_d1_19) rfl rfl k) ?_
                show own_Go _ _ _ _ T23 (mkF m 21 #[.val (.int ip0x1_1), .val (.ref b2x2_2c1), .val (.int (10 : Int32)), .val (.int (((((((0 : Int32) + (1 : Int32)) + (1 : Int32)) + (1 : Int32)) + (1 : Int32)) + (1 : Int32)) + (1 : Int32))), .val (.ref w_EISDIR)] [(.ref w_EISDIR)])
                have f26 := (P9.keep Kq1 nin0)
                obtain ⟨T27, X27, e27, st27⟩ := getF X23 hx hZ hown (host := "") (Or.inl (own_w hw 29 rfl)) Via.refl e23 f26 (g := (mkF m 21 #[.val (.int ip0x1_1), .val (.ref b2x2_2c1), .val (.int (10 : Int32)), .val (.int (((((((0 : Int32) + (1 : Int32)) + (1 : Int32)) + (1 : Int32)) + (1 : Int32)) + (1 : Int32)) + (1 : Int32))), .val (.ref w_EISDIR)] [(.ref w_EISDIR)])) rfl rfl (hb hby own_d1_21)
                refine own_st st27 ?_
                show own_Go _ _ _ _ T27 (mkF m 24 #[.val (.int ip0x1_1), .val (.ref b2x2_2c1), .val (.int (10 : Int32)), .val (.int (((((((0 : Int32) + (1 : Int32)) + (1 : Int32)) + (1 : Int32)) + (1 : Int32)) + (1 : Int32)) + (1 : Int32))), .val (.ref w_EISDIR)] [(.int (21 : Int32))])
                refine own_st (fun t k => XS.iloadN X27.here hx rfl (hb hby own_d1_24) rfl k) ?_
                show own_Go _ _ _ _ T27 (mkF m 25 #[.val (.int ip0x1_1), .val (.ref b2x2_2c1), .val (.int (10 : Int32)), .val (.int (((((((0 : Int32) + (1 : Int32)) + (1 : Int32)) + (1 : Int32)) + (1 : Int32)) + (1 : Int32)) + (1 : Int32))), .val (.ref w_EISDIR)] [(.int ip0x1_1), (.int (21 : Int32))])
                by_cases hc28 : (21 : Int32) = ip0x1_1
                · skip
                  refine own_st (fun t k => XS.icmpNo X27.here hx rfl (hb hby own_d1_25) rfl (teq hc28).2 k) ?_
                  show own_Go _ _ _ _ T27 (mkF m 28 #[.val (.int ip0x1_1), .val (.ref b2x2_2c1), .val (.int (10 : Int32)), .val (.int (((((((0 : Int32) + (1 : Int32)) + (1 : Int32)) + (1 : Int32)) + (1 : Int32)) + (1 : Int32)) + (1 : Int32))), .val (.ref w_EISDIR)] [])
                  refine own_st (fun t k => XS.aload X27.here hx rfl (hb hby own_d1_28) rfl rfl k) ?_
                  show own_Go _ _ _ _ T27 (mkF m 30 #[.val (.int ip0x1_1), .val (.ref b2x2_2c1), .val (.int (10 : Int32)), .val (.int (((((((0 : Int32) + (1 : Int32)) + (1 : Int32)) + (1 : Int32)) + (1 : Int32)) + (1 : Int32)) + (1 : Int32))), .val (.ref w_EISDIR)] [(.ref w_EISDIR)])
                  obtain ⟨_, _, ⟨T29, L29, k29, n29⟩, -, X29, ⟨Lc29, hQ29, l29, y29, z29⟩, st29⟩ := Jvm.LawKit.callS X27 hx (y := (⟨"java/util/Optional", "of", "(Ljava/lang/Object;)Ljava/util/Optional;"⟩ : MethodName)) hown (mvT hZ (own_w hw 47 rfl)) (mvT hZ (own_w hw 48 rfl)) (mvT hZ (own_w hw 33 rfl)) (mvT hZ (own_w hw 49 rfl)) (by decide) (backOf (W := 0) (own_rm6_3 l Z a0 hw [] w_EISDIR T1.heap n0 Z1 ) hZ (own_w hw 49 rfl) (own_w hw 33 rfl) (by decide) (by decide)) (g := (mkF m 30 #[.val (.int ip0x1_1), .val (.ref b2x2_2c1), .val (.int (10 : Int32)), .val (.int (((((((0 : Int32) + (1 : Int32)) + (1 : Int32)) + (1 : Int32)) + (1 : Int32)) + (1 : Int32)) + (1 : Int32))), .val (.ref w_EISDIR)] [(.ref w_EISDIR)])) rfl (by rw [hml]; rfl) (argsL := [(.ref w_EISDIR)]) (rest := []) (lenOf own_pd3 rfl) rfl (by show 2 * 0 + _ ≤ _; exact Nat.le_of_eq rfl) (hb hby own_d1_30) (fun _ _ => ⟨rfl, e27, (by decide : 1 + 1 ≤ _), (by decide : 10 + 1 ≤ _)⟩)
                  dsimp only [Pt.U, Pt.locs, Pt.cells, Pt.slots] at X29 l29 y29 z29 st29 hQ29
                  subst l29 y29 z29
                  obtain ⟨N29q, Kq29, hL29⟩ := hQ29
                  have N29 := Fr.app N1 N29q
                  have K29 : Keep h0 T29.heap [] := K1.trans Kq29 all0
                  have Z29 := Nat.le_trans Z1 Kq29.1
                  rcases hL29 with ⟨b1x6_3c29, rfl, sq_b1x6_3c29, Fc29_0_0, Fc29_0_1, -⟩
                  · skip
                    have g_b1x6_3c29 : n0 ≤ b1x6_3c29 := Nat.le_trans Z1 sq_b1x6_3c29
                    have sz_b1x6_3c29 : h0.size ≤ b1x6_3c29 := Nat.le_trans K1.1 sq_b1x6_3c29
                    refine own_st st29 ?_
                    show own_Go _ _ _ _ T29 (mkF m 33 #[.val (.int ip0x1_1), .val (.ref b2x2_2c1), .val (.int (10 : Int32)), .val (.int (((((((0 : Int32) + (1 : Int32)) + (1 : Int32)) + (1 : Int32)) + (1 : Int32)) + (1 : Int32)) + (1 : Int32))), .val (.ref w_EISDIR)] [(.ref b1x6_3c29)])
                    exact own_retA X29 hx hlk hret rfl rfl (hb hby own_d1_33) (by decide) (by decide) rfl ⟨N29, K29, (Or.inr (Or.inr (Or.inr (Or.inr (Or.inr (Or.inr (Or.inl ⟨b1x6_3c29, rfl, hc4, hc8, hc12, hc16, hc20, hc24, hc28, sz_b1x6_3c29, Fc29_0_0, Fc29_0_1, trivial⟩)))))))⟩
                · skip
                  refine own_st (fun t k => XS.icmpYes X27.here hx rfl (pc0 := 25) (pc' := 34) rfl (hb hby own_d1_25) rfl (feq hc28).2 (by decide) (by decide) k) ?_
                  show own_Go _ _ _ _ T27 (mkF m 34 #[.val (.int ip0x1_1), .val (.ref b2x2_2c1), .val (.int (10 : Int32)), .val (.int (((((((0 : Int32) + (1 : Int32)) + (1 : Int32)) + (1 : Int32)) + (1 : Int32)) + (1 : Int32)) + (1 : Int32))), .val (.ref w_EISDIR)] [])
                  refine own_st (fun t k => XS.iinc X27.here hx rfl (hb hby own_d1_34) rfl (l' := #[.val (.int ip0x1_1), .val (.ref b2x2_2c1), .val (.int (10 : Int32)), .val (.int ((((((((0 : Int32) + (1 : Int32)) + (1 : Int32)) + (1 : Int32)) + (1 : Int32)) + (1 : Int32)) + (1 : Int32)) + (1 : Int32))), .val (.ref w_EISDIR)]) rfl k) ?_
                  show own_Go _ _ _ _ T27 (mkF m 37 #[.val (.int ip0x1_1), .val (.ref b2x2_2c1), .val (.int (10 : Int32)), .val (.int ((((((((0 : Int32) + (1 : Int32)) + (1 : Int32)) + (1 : Int32)) + (1 : Int32)) + (1 : Int32)) + (1 : Int32)) + (1 : Int32))), .val (.ref w_EISDIR)] [])
                  refine own_st (fun t k => XS.goto X27.here hx rfl (pc0 := 37) (pc' := 9) rfl (hb hby own_d1_37) (by decide) (by decide) k) ?_
                  show own_Go _ _ _ _ T27 (mkF m 9 #[.val (.int ip0x1_1), .val (.ref b2x2_2c1), .val (.int (10 : Int32)), .val (.int ((((((((0 : Int32) + (1 : Int32)) + (1 : Int32)) + (1 : Int32)) + (1 : Int32)) + (1 : Int32)) + (1 : Int32)) + (1 : Int32))), .val (.ref w_EISDIR)] [])
                  refine own_st (fun t k => XS.iloadN X27.here hx rfl (hb hby own_d1_9) rfl k) ?_
                  show own_Go _ _ _ _ T27 (mkF m 10 #[.val (.int ip0x1_1), .val (.ref b2x2_2c1), .val (.int (10 : Int32)), .val (.int ((((((((0 : Int32) + (1 : Int32)) + (1 : Int32)) + (1 : Int32)) + (1 : Int32)) + (1 : Int32)) + (1 : Int32)) + (1 : Int32))), .val (.ref w_EISDIR)] [(.int ((((((((0 : Int32) + (1 : Int32)) + (1 : Int32)) + (1 : Int32)) + (1 : Int32)) + (1 : Int32)) + (1 : Int32)) + (1 : Int32)))])
                  refine own_st (fun t k => XS.iloadN X27.here hx rfl (hb hby own_d1_10) rfl k) ?_
                  show own_Go _ _ _ _ T27 (mkF m 11 #[.val (.int ip0x1_1), .val (.ref b2x2_2c1), .val (.int (10 : Int32)), .val (.int ((((((((0 : Int32) + (1 : Int32)) + (1 : Int32)) + (1 : Int32)) + (1 : Int32)) + (1 : Int32)) + (1 : Int32)) + (1 : Int32))), .val (.ref w_EISDIR)] [(.int (10 : Int32)), (.int ((((((((0 : Int32) + (1 : Int32)) + (1 : Int32)) + (1 : Int32)) + (1 : Int32)) + (1 : Int32)) + (1 : Int32)) + (1 : Int32)))])
                  refine own_st (fun t k => XS.icmpNo X27.here hx rfl (hb hby own_d1_11) rfl (tlt (by decide : ((((((((0 : Int32) + (1 : Int32)) + (1 : Int32)) + (1 : Int32)) + (1 : Int32)) + (1 : Int32)) + (1 : Int32)) + (1 : Int32)) < (10 : Int32))).2.1 k) ?_
                  show own_Go _ _ _ _ T27 (mkF m 14 #[.val (.int ip0x1_1), .val (.ref b2x2_2c1), .val (.int (10 : Int32)), .val (.int ((((((((0 : Int32) + (1 : Int32)) + (1 : Int32)) + (1 : Int32)) + (1 : Int32)) + (1 : Int32)) + (1 : Int32)) + (1 : Int32))), .val (.ref w_EISDIR)] [])
                  refine own_st (fun t k => XS.aloadN X27.here hx rfl (hb hby own_d1_14) rfl rfl k) ?_
                  show own_Go _ _ _ _ T27 (mkF m 15 #[.val (.int ip0x1_1), .val (.ref b2x2_2c1), .val (.int (10 : Int32)), .val (.int ((((((((0 : Int32) + (1 : Int32)) + (1 : Int32)) + (1 : Int32)) + (1 : Int32)) + (1 : Int32)) + (1 : Int32)) + (1 : Int32))), .val (.ref w_EISDIR)] [(.ref b2x2_2c1)])
                  refine own_st (fun t k => XS.iloadN X27.here hx rfl (hb hby own_d1_15) rfl k) ?_
                  show own_Go _ _ _ _ T27 (mkF m 16 #[.val (.int ip0x1_1), .val (.ref b2x2_2c1), .val (.int (10 : Int32)), .val (.int ((((((((0 : Int32) + (1 : Int32)) + (1 : Int32)) + (1 : Int32)) + (1 : Int32)) + (1 : Int32)) + (1 : Int32)) + (1 : Int32))), .val (.ref w_EISDIR)] [(.int ((((((((0 : Int32) + (1 : Int32)) + (1 : Int32)) + (1 : Int32)) + (1 : Int32)) + (1 : Int32)) + (1 : Int32)) + (1 : Int32))), (.ref b2x2_2c1)])
                  refine own_st (own_aaload X27 hx hZ e27 Fc1_0_0 rfl (j := ((((((((0 : Int32) + (1 : Int32)) + (1 : Int32)) + (1 : Int32)) + (1 : Int32)) + (1 : Int32)) + (1 : Int32)) + (1 : Int32))) (v := (.ref w_EINVAL)) ⟨by decide, by decide⟩ rfl (g := (mkF m 16 #[.val (.int ip0x1_1), .val (.ref b2x2_2c1), .val (.int (10 : Int32)), .val (.int ((((((((0 : Int32) + (1 : Int32)) + (1 : Int32)) + (1 : Int32)) + (1 : Int32)) + (1 : Int32)) + (1 : Int32)) + (1 : Int32))), .val (.ref w_EISDIR)] [(.int ((((((((0 : Int32) + (1 : Int32)) + (1 : Int32)) + (1 : Int32)) + (1 : Int32)) + (1 : Int32)) + (1 : Int32)) + (1 : Int32))), (.ref b2x2_2c1)])) rfl rfl (hb hby own_d1_16)) ?_
                  show own_Go _ _ _ _ T27 (mkF m 17 #[.val (.int ip0x1_1), .val (.ref b2x2_2c1), .val (.int (10 : Int32)), .val (.int ((((((((0 : Int32) + (1 : Int32)) + (1 : Int32)) + (1 : Int32)) + (1 : Int32)) + (1 : Int32)) + (1 : Int32)) + (1 : Int32))), .val (.ref w_EISDIR)] [(.ref w_EINVAL)])
                  refine own_st (fun t k => XS.astore X27.here hx rfl (hb hby own_d1_17) rfl rfl (l' := #[.val (.int ip0x1_1), .val (.ref b2x2_2c1), .val (.int (10 : Int32)), .val (.int ((((((((0 : Int32) + (1 : Int32)) + (1 : Int32)) + (1 : Int32)) + (1 : Int32)) + (1 : Int32)) + (1 : Int32)) + (1 : Int32))), .val (.ref w_EINVAL)]) rfl k) ?_
                  show own_Go _ _ _ _ T27 (mkF m 19 #[.val (.int ip0x1_1), .val (.ref b2x2_2c1), .val (.int (10 : Int32)), .val (.int ((((((((0 : Int32) + (1 : Int32)) + (1 : Int32)) + (1 : Int32)) + (1 : Int32)) + (1 : Int32)) + (1 : Int32)) + (1 : Int32))), .val (.ref w_EINVAL)] [])
                  refine own_st (fun t k => XS.aload X27.here hx rfl (hb hby own_d1_19) rfl rfl k) ?_
                  show own_Go _ _ _ _ T27 (mkF m 21 #[.val (.int ip0x1_1), .val (.ref b2x2_2c1), .val (.int (10 : Int32)), .val (.int ((((((((0 : Int32) + (1 : Int32)) + (1 : Int32)) + (1 : Int32)) + (1 : Int32)) + (1 : Int32)) + (1 : Int32)) + (1 : Int32))), .val (.ref w_EINVAL)] [(.ref w_EINVAL)])
                  have f30 := (P10.keep Kq1 nin0)
                  obtain ⟨T31, X31, e31, st31⟩ := getF X27 hx hZ hown (host := "") (Or.inl (own_w hw 29 rfl)) Via.refl e27 f30 (g := (mkF m 21 #[.val (.int ip0x1_1), .val (.ref b2x2_2c1), .val (.int (10 : Int32)), .val (.int ((((((((0 : Int32) + (1 : Int32)) + (1 : Int32)) + (1 : Int32)) + (1 : Int32)) + (1 : Int32)) + (1 : Int32)) + (1 : Int32))), .val (.ref w_EINVAL)] [(.ref w_EINVAL)])) rfl rfl (hb hby own_d1_21)
                  refine own_st st31 ?_
                  show own_Go _ _ _ _ T31 (mkF m 24 #[.val (.int ip0x1_1), .val (.ref b2x2_2c1), .val (.int (10 : Int32)), .val (.int ((((((((0 : Int32) + (1 : Int32)) + (1 : Int32)) + (1 : Int32)) + (1 : Int32)) + (1 : Int32)) + (1 : Int32)) + (1 : Int32))), .val (.ref w_EINVAL)] [(.int (22 : Int32))])
                  refine own_st (fun t k => XS.iloadN X31.here hx rfl (hb hby own_d1_24) rfl k) ?_
                  show own_Go _ _ _ _ T31 (mkF m 25 #[.val (.int ip0x1_1), .val (.ref b2x2_2c1), .val (.int (10 : Int32)), .val (.int ((((((((0 : Int32) + (1 : Int32)) + (1 : Int32)) + (1 : Int32)) + (1 : Int32)) + (1 : Int32)) + (1 : Int32)) + (1 : Int32))), .val (.ref w_EINVAL)] [(.int ip0x1_1), (.int (22 : Int32))])
                  by_cases hc32 : (22 : Int32) = ip0x1_1
                  · skip
                    refine own_st (fun t k => XS.icmpNo X31.here hx rfl (hb hby own_d1_25) rfl (teq hc32).2 k) ?_
                    show own_Go _ _ _ _ T31 (mkF m 28 #[.val (.int ip0x1_1), .val (.ref b2x2_2c1), .val (.int (10 : Int32)), .val (.int ((((((((0 : Int32) + (1 : Int32)) + (1 : Int32)) + (1 : Int32)) + (1 : Int32)) + (1 : Int32)) + (1 : Int32)) + (1 : Int32))), .val (.ref w_EINVAL)] [])
                    refine own_st (fun t k => XS.aload X31.here hx rfl (hb hby own_d1_28) rfl rfl k) ?_
                    show own_Go _ _ _ _ T31 (mkF m 30 #[.val (.int ip0x1_1), .val (.ref b2x2_2c1), .val (.int (10 : Int32)), .val (.int ((((((((0 : Int32) + (1 : Int32)) + (1 : Int32)) + (1 : Int32)) + (1 : Int32)) + (1 : Int32)) + (1 : Int32)) + (1 : Int32))), .val (.ref w_EINVAL)] [(.ref w_EINVAL)])
                    obtain ⟨_, _, ⟨T33, L33, k33, n33⟩, -, X33, ⟨Lc33, hQ33, l33, y33, z33⟩, st33⟩ := Jvm.LawKit.callS X31 hx (y := (⟨"java/util/Optional", "of", "(Ljava/lang/Object;)Ljava/util/Optional;"⟩ : MethodName)) hown (mvT hZ (own_w hw 47 rfl)) (mvT hZ (own_w hw 48 rfl)) (mvT hZ (own_w hw 33 rfl)) (mvT hZ (own_w hw 49 rfl)) (by decide) (backOf (W := 0) (own_rm6_3 l Z a0 hw [] w_EINVAL T1.heap n0 Z1 ) hZ (own_w hw 49 rfl) (own_w hw 33 rfl) (by decide) (by decide)) (g := (mkF m 30 #[.val (.int ip0x1_1), .val (.ref b2x2_2c1), .val (.int (10 : Int32)), .val (.int ((((((((0 : Int32) + (1 : Int32)) + (1 : Int32)) + (1 : Int32)) + (1 : Int32)) + (1 : Int32)) + (1 : Int32)) + (1 : Int32))), .val (.ref w_EINVAL)] [(.ref w_EINVAL)])) rfl (by rw [hml]; rfl) (argsL := [(.ref w_EINVAL)]) (rest := []) (lenOf own_pd3 rfl) rfl (by show 2 * 0 + _ ≤ _; exact Nat.le_of_eq rfl) (hb hby own_d1_30) (fun _ _ => ⟨rfl, e31, (by decide : 1 + 1 ≤ _), (by decide : 10 + 1 ≤ _)⟩)
                    dsimp only [Pt.U, Pt.locs, Pt.cells, Pt.slots] at X33 l33 y33 z33 st33 hQ33
                    subst l33 y33 z33
                    obtain ⟨N33q, Kq33, hL33⟩ := hQ33
                    have N33 := Fr.app N1 N33q
                    have K33 : Keep h0 T33.heap [] := K1.trans Kq33 all0
                    have Z33 := Nat.le_trans Z1 Kq33.1
                    rcases hL33 with ⟨b1x6_3c33, rfl, sq_b1x6_3c33, Fc33_0_0, Fc33_0_1, -⟩
                    · skip
                      have g_b1x6_3c33 : n0 ≤ b1x6_3c33 := Nat.le_trans Z1 sq_b1x6_3c33
                      have sz_b1x6_3c33 : h0.size ≤ b1x6_3c33 := Nat.le_trans K1.1 sq_b1x6_3c33
                      refine own_st st33 ?_
                      show own_Go _ _ _ _ T33 (mkF m 33 #[.val (.int ip0x1_1), .val (.ref b2x2_2c1), .val (.int (10 : Int32)), .val (.int ((((((((0 : Int32) + (1 : Int32)) + (1 : Int32)) + (1 : Int32)) + (1 : Int32)) + (1 : Int32)) + (1 : Int32)) + (1 : Int32))), .val (.ref w_EINVAL)] [(.ref b1x6_3c33)])
                      exact own_retA X33 hx hlk hret rfl rfl (hb hby own_d1_33) (by decide) (by decide) rfl ⟨N33, K33, (Or.inr (Or.inr (Or.inr (Or.inr (Or.inr (Or.inr (Or.inr (Or.inl ⟨b1x6_3c33, rfl, hc4, hc8, hc12, hc16, hc20, hc24, hc28, hc32, sz_b1x6_3c33, Fc33_0_0, Fc33_0_1, trivial⟩))))))))⟩
                  · skip
                    refine own_st (fun t k => XS.icmpYes X31.here hx rfl (pc0 := 25) (pc' := 34) rfl (hb hby own_d1_25) rfl (feq hc32).2 (by decide) (by decide) k) ?_
                    show own_Go _ _ _ _ T31 (mkF m 34 #[.val (.int ip0x1_1), .val (.ref b2x2_2c1), .val (.int (10 : Int32)), .val (.int ((((((((0 : Int32) + (1 : Int32)) + (1 : Int32)) + (1 : Int32)) + (1 : Int32)) + (1 : Int32)) + (1 : Int32)) + (1 : Int32))), .val (.ref w_EINVAL)] [])
                    refine own_st (fun t k => XS.iinc X31.here hx rfl (hb hby own_d1_34) rfl (l' := #[.val (.int ip0x1_1), .val (.ref b2x2_2c1), .val (.int (10 : Int32)), .val (.int (((((((((0 : Int32) + (1 : Int32)) + (1 : Int32)) + (1 : Int32)) + (1 : Int32)) + (1 : Int32)) + (1 : Int32)) + (1 : Int32)) + (1 : Int32))), .val (.ref w_EINVAL)]) rfl k) ?_
                    show own_Go _ _ _ _ T31 (mkF m 37 #[.val (.int ip0x1_1), .val (.ref b2x2_2c1), .val (.int (10 : Int32)), .val (.int (((((((((0 : Int32) + (1 : Int32)) + (1 : Int32)) + (1 : Int32)) + (1 : Int32)) + (1 : Int32)) + (1 : Int32)) + (1 : Int32)) + (1 : Int32))), .val (.ref w_EINVAL)] [])
                    refine own_st (fun t k => XS.goto X31.here hx rfl (pc0 := 37) (pc' := 9) rfl (hb hby own_d1_37) (by decide) (by decide) k) ?_
                    show own_Go _ _ _ _ T31 (mkF m 9 #[.val (.int ip0x1_1), .val (.ref b2x2_2c1), .val (.int (10 : Int32)), .val (.int (((((((((0 : Int32) + (1 : Int32)) + (1 : Int32)) + (1 : Int32)) + (1 : Int32)) + (1 : Int32)) + (1 : Int32)) + (1 : Int32)) + (1 : Int32))), .val (.ref w_EINVAL)] [])
                    refine own_st (fun t k => XS.iloadN X31.here hx rfl (hb hby own_d1_9) rfl k) ?_
                    show own_Go _ _ _ _ T31 (mkF m 10 #[.val (.int ip0x1_1), .val (.ref b2x2_2c1), .val (.int (10 : Int32)), .val (.int (((((((((0 : Int32) + (1 : Int32)) + (1 : Int32)) + (1 : Int32)) + (1 : Int32)) + (1 : Int32)) + (1 : Int32)) + (1 : Int32)) + (1 : Int32))), .val (.ref w_EINVAL)] [(.int (((((((((0 : Int32) + (1 : Int32)) + (1 : Int32)) + (1 : Int32)) + (1 : Int32)) + (1 : Int32)) + (1 : Int32)) + (1 : Int32)) + (1 : Int32)))])
                    refine own_st (fun t k => XS.iloadN X31.here hx rfl (hb hby own_d1_10) rfl k) ?_
                    show own_Go _ _ _ _ T31 (mkF m 11 #[.val (.int ip0x1_1), .val (.ref b2x2_2c1), .val (.int (10 : Int32)), .val (.int (((((((((0 : Int32) + (1 : Int32)) + (1 : Int32)) + (1 : Int32)) + (1 : Int32)) + (1 : Int32)) + (1 : Int32)) + (1 : Int32)) + (1 : Int32))), .val (.ref w_EINVAL)] [(.int (10 : Int32)), (.int (((((((((0 : Int32) + (1 : Int32)) + (1 : Int32)) + (1 : Int32)) + (1 : Int32)) + (1 : Int32)) + (1 : Int32)) + (1 : Int32)) + (1 : Int32)))])
                    refine own_st (fun t k => XS.icmpNo X31.here hx rfl (hb hby own_d1_11) rfl (tlt (by decide : (((((((((0 : Int32) + (1 : Int32)) + (1 : Int32)) + (1 : Int32)) + (1 : Int32)) + (1 : Int32)) + (1 : Int32)) + (1 : Int32)) + (1 : Int32)) < (10 : Int32))).2.1 k) ?_
                    show own_Go _ _ _ _ T31 (mkF m 14 #[.val (.int ip0x1_1), .val (.ref b2x2_2c1), .val (.int (10 : Int32)), .val (.int (((((((((0 : Int32) + (1 : Int32)) + (1 : Int32)) + (1 : Int32)) + (1 : Int32)) + (1 : Int32)) + (1 : Int32)) + (1 : Int32)) + (1 : Int32))), .val (.ref w_EINVAL)] [])
                    refine own_st (fun t k => XS.aloadN X31.here hx rfl (hb hby own_d1_14) rfl rfl k) ?_
                    show own_Go _ _ _ _ T31 (mkF m 15 #[.val (.int ip0x1_1), .val (.ref b2x2_2c1), .val (.int (10 : Int32)), .val (.int (((((((((0 : Int32) + (1 : Int32)) + (1 : Int32)) + (1 : Int32)) + (1 : Int32)) + (1 : Int32)) + (1 : Int32)) + (1 : Int32)) + (1 : Int32))), .val (.ref w_EINVAL)] [(.ref b2x2_2c1)])
                    refine own_st (fun t k => XS.iloadN X31.here hx rfl (hb hby own_d1_15) rfl k) ?_
                    show own_Go _ _ _ _ T31 (mkF m 16 #[.val (.int ip0x1_1), .val (.ref b2x2_2c1), .val (.int (10 : Int32)), .val (.int (((((((((0 : Int32) + (1 : Int32)) + (1 : Int32)) + (1 : Int32)) + (1 : Int32)) + (1 : Int32)) + (1 : Int32)) + (1 : Int32)) + (1 : Int32))), .val (.ref w_EINVAL)] [(.int (((((((((0 : Int32) + (1 : Int32)) + (1 : Int32)) + (1 : Int32)) + (1 : Int32)) + (1 : Int32)) + (1 : Int32)) + (1 : Int32)) + (1 : Int32))), (.ref b2x2_2c1)])
                    refine own_st (own_aaload X31 hx hZ e31 Fc1_0_0 rfl (j := (((((((((0 : Int32) + (1 : Int32)) + (1 : Int32)) + (1 : Int32)) + (1 : Int32)) + (1 : Int32)) + (1 : Int32)) + (1 : Int32)) + (1 : Int32))) (v := (.ref w_ENOSPC)) ⟨by decide, by decide⟩ rfl (g := (mkF m 16 #[.val (.int ip0x1_1), .val (.ref b2x2_2c1), .val (.int (10 : Int32)), .val (.int (((((((((0 : Int32) + (1 : Int32)) + (1 : Int32)) + (1 : Int32)) + (1 : Int32)) + (1 : Int32)) + (1 : Int32)) + (1 : Int32)) + (1 : Int32))), .val (.ref w_EINVAL)] [(.int (((((((((0 : Int32) + (1 : Int32)) + (1 : Int32)) + (1 : Int32)) + (1 : Int32)) + (1 : Int32)) + (1 : Int32)) + (1 : Int32)) + (1 : Int32))), (.ref b2x2_2c1)])) rfl rfl (hb hby own_d1_16)) ?_
                    show own_Go _ _ _ _ T31 (mkF m 17 #[.val (.int ip0x1_1), .val (.ref b2x2_2c1), .val (.int (10 : Int32)), .val (.int (((((((((0 : Int32) + (1 : Int32)) + (1 : Int32)) + (1 : Int32)) + (1 : Int32)) + (1 : Int32)) + (1 : Int32)) + (1 : Int32)) + (1 : Int32))), .val (.ref w_EINVAL)] [(.ref w_ENOSPC)])
                    refine own_st (fun t k => XS.astore X31.here hx rfl (hb hby own_d1_17) rfl rfl (l' := #[.val (.int ip0x1_1), .val (.ref b2x2_2c1), .val (.int (10 : Int32)), .val (.int (((((((((0 : Int32) + (1 : Int32)) + (1 : Int32)) + (1 : Int32)) + (1 : Int32)) + (1 : Int32)) + (1 : Int32)) + (1 : Int32)) + (1 : Int32))), .val (.ref w_ENOSPC)]) rfl k) ?_
                    show own_Go _ _ _ _ T31 (mkF m 19 #[.val (.int ip0x1_1), .val (.ref b2x2_2c1), .val (.int (10 : Int32)), .val (.int (((((((((0 : Int32) + (1 : Int32)) + (1 : Int32)) + (1 : Int32)) + (1 : Int32)) + (1 : Int32)) + (1 : Int32)) + (1 : Int32)) + (1 : Int32))), .val (.ref w_ENOSPC)] [])
                    refine own_st (fun t k => XS.aload X31.here hx rfl (hb hby own_d1_19) rfl rfl k) ?_
                    show own_Go _ _ _ _ T31 (mkF m 21 #[.val (.int ip0x1_1), .val (.ref b2x2_2c1), .val (.int (10 : Int32)), .val (.int (((((((((0 : Int32) + (1 : Int32)) + (1 : Int32)) + (1 : Int32)) + (1 : Int32)) + (1 : Int32)) + (1 : Int32)) + (1 : Int32)) + (1 : Int32))), .val (.ref w_ENOSPC)] [(.ref w_ENOSPC)])
                    have f34 := (P11.keep Kq1 nin0)
                    obtain ⟨T35, X35, e35, st35⟩ := getF X31 hx hZ hown (host := "") (Or.inl (own_w hw 29 rfl)) Via.refl e31 f34 (g := (mkF m 21 #[.val (.int ip0x1_1), .val (.ref b2x2_2c1), .val (.int (10 : Int32)), .val (.int (((((((((0 : Int32) + (1 : Int32)) + (1 : Int32)) + (1 : Int32)) + (1 : Int32)) + (1 : Int32)) + (1 : Int32)) + (1 : Int32)) + (1 : Int32))), .val (.ref w_ENOSPC)] [(.ref w_ENOSPC)])) rfl rfl (hb hby own_d1_21)
                    refine own_st st35 ?_
                    show own_Go _ _ _ _ T35 (mkF m 24 #[.val (.int ip0x1_1), .val (.ref b2x2_2c1), .val (.int (10 : Int32)), .val (.int (((((((((0 : Int32) + (1 : Int32)) + (1 : Int32)) + (1 : Int32)) + (1 : Int32)) + (1 : Int32)) + (1 : Int32)) + (1 : Int32)) + (1 : Int32))), .val (.ref w_ENOSPC)] [(.int (28 : Int32))])
                    refine own_st (fun t k => XS.iloadN X35.here hx rfl (hb hby own_d1_24) rfl k) ?_
                    show own_Go _ _ _ _ T35 (mkF m 25 #[.val (.int ip0x1_1), .val (.ref b2x2_2c1), .val (.int (10 : Int32)), .val (.int (((((((((0 : Int32) + (1 : Int32)) + (1 : Int32)) + (1 : Int32)) + (1 : Int32)) + (1 : Int32)) + (1 : Int32)) + (1 : Int32)) + (1 : Int32))), .val (.ref w_ENOSPC)] [(.int ip0x1_1), (.int (28 : Int32))])
                    by_cases hc36 : (28 : Int32) = ip0x1_1
                    · skip
                      refine own_st (fun t k => XS.icmpNo X35.here hx rfl (hb hby own_d1_25) rfl (teq hc36).2 k) ?_
                      show own_Go _ _ _ _ T35 (mkF m 28 #[.val (.int ip0x1_1), .val (.ref b2x2_2c1), .val (.int (10 : Int32)), .val (.int (((((((((0 : Int32) + (1 : Int32)) + (1 : Int32)) + (1 : Int32)) + (1 : Int32)) + (1 : Int32)) + (1 : Int32)) + (1 : Int32)) + (1 : Int32))), .val (.ref w_ENOSPC)] [])
                      refine own_st (fun t k => XS.aload X35.here hx rfl (hb hby own_d1_28) rfl rfl k) ?_
                      show own_Go _ _ _ _ T35 (mkF m 30 #[.val (.int ip0x1_1), .val (.ref b2x2_2c1), .val (.int (10 : Int32)), .val (.int (((((((((0 : Int32) + (1 : Int32)) + (1 : Int32)) + (1 : Int32)) + (1 : Int32)) + (1 : Int32)) + (1 : Int32)) + (1 : Int32)) + (1 : Int32))), .val (.ref w_ENOSPC)] [(.ref w_ENOSPC)])
                      obtain ⟨_, _, ⟨T37, L37, k37, n37⟩, -, X37, ⟨Lc37, hQ37, l37, y37, z37⟩, st37⟩ := Jvm.LawKit.callS X35 hx (y := (⟨"java/util/Optional", "of", "(Ljava/lang/Object;)Ljava/util/Optional;"⟩ : MethodName)) hown (mvT hZ (own_w hw 47 rfl)) (mvT hZ (own_w hw 48 rfl)) (mvT hZ (own_w hw 33 rfl)) (mvT hZ (own_w hw 49 rfl)) (by decide) (backOf (W := 0) (own_rm6_3 l Z a0 hw [] w_ENOSPC T1.heap n0 Z1 ) hZ (own_w hw 49 rfl) (own_w hw 33 rfl) (by decide) (by decide)) (g := (mkF m 30 #[.val (.int ip0x1_1), .val (.ref b2x2_2c1), .val (.int (10 : Int32)), .val (.int (((((((((0 : Int32) + (1 : Int32)) + (1 : Int32)) + (1 : Int32)) + (1 : Int32)) + (1 : Int32)) + (1 : Int32)) + (1 : Int32)) + (1 : Int32))), .val (.ref w_ENOSPC)] [(.ref w_ENOSPC)])) rfl (by rw [hml]; rfl) (argsL := [(.ref w_ENOSPC)]) (rest := []) (lenOf own_pd3 rfl) rfl (by show 2 * 0 + _ ≤ _; exact Nat.le_of_eq rfl) (hb hby own_d1_30) (fun _ _ => ⟨rfl, e35, (by decide : 1 + 1 ≤ _), (by decide : 10 + 1 ≤ _)⟩)
                      dsimp only [Pt.U, Pt.locs, Pt.cells, Pt.slots] at X37 l37 y37 z37 st37 hQ37
                      subst l37 y37 z37
                      obtain ⟨N37q, Kq37, hL37⟩ := hQ37
                      have N37 := Fr.app N1 N37q
                      have K37 : Keep h0 T37.heap [] := K1.trans Kq37 all0
                      have Z37 := Nat.le_trans Z1 Kq37.1
                      rcases hL37 with ⟨b1x6_3c37, rfl, sq_b1x6_3c37, Fc37_0_0, Fc37_0_1, -⟩
                      · skip
                        have g_b1x6_3c37 : n0 ≤ b1x6_3c37 := Nat.le_trans Z1 sq_b1x6_3c37
                        have sz_b1x6_3c37 : h0.size ≤ b1x6_3c37 := Nat.le_trans K1.1 sq_b1x6_3c37
                        refine own_st st37 ?_
                        show own_Go _ _ _ _ T37 (mkF m 33 #[.val (.int ip0x1_1), .val (.ref b2x2_2c1), .val (.int (10 : Int32)), .val (.int (((((((((0 : Int32) + (1 : Int32)) + (1 : Int32)) + (1 : Int32)) + (1 : Int32)) + (1 : Int32)) + (1 : Int32)) + (1 : Int32)) + (1 : Int32))), .val (.ref w_ENOSPC)] [(.ref b1x6_3c37)])
                        exact own_retA X37 hx hlk hret rfl rfl (hb hby own_d1_33) (by decide) (by decide) rfl ⟨N37, K37, (Or.inr (Or.inr (Or.inr (Or.inr (Or.inr (Or.inr (Or.inr (Or.inr (Or.inl ⟨b1x6_3c37, rfl, hc4, hc8, hc12, hc16, hc20, hc24, hc28, hc32, hc36, sz_b1x6_3c37, Fc37_0_0, Fc37_0_1, trivial⟩)))))))))⟩
                    · skip
                      refine own_st (fun t k => XS.icmpYes X35.here hx rfl (pc0 := 25) (pc' := 34) rfl (hb hby own_d1_25) rfl (feq hc36).2 (by decide) (by decide) k) ?_
                      show own_Go _ _ _ _ T35 (mkF m 34 #[.val (.int ip0x1_1), .val (.ref b2x2_2c1), .val (.int (10 : Int32)), .val (.int (((((((((0 : Int32) + (1 : Int32)) + (1 : Int32)) + (1 : Int32)) + (1 : Int32)) + (1 : Int32)) + (1 : Int32)) + (1 : Int32)) + (1 : Int32))), .val (.ref w_ENOSPC)] [])
                      refine own_st (fun t k => XS.iinc X35.here hx rfl (hb hby own_d1_34) rfl (l' := #[.val (.int ip0x1_1), .val (.ref b2x2_2c1), .val (.int (10 : Int32)), .val (.int ((((((((((0 : Int32) + (1 : Int32)) + (1 : Int32)) + (1 : Int32)) + (1 : Int32)) + (1 : Int32)) + (1 : Int32)) + (1 : Int32)) + (1 : Int32)) + (1 : Int32))), .val (.ref w_ENOSPC)]) rfl k) ?_
                      show own_Go _ _ _ _ T35 (mkF m 37 #[.val (.int ip0x1_1), .val (.ref b2x2_2c1), .val (.int (10 : Int32)), .val (.int ((((((((((0 : Int32) + (1 : Int32)) + (1 : Int32)) + (1 : Int32)) + (1 : Int32)) + (1 : Int32)) + (1 : Int32)) + (1 : Int32)) + (1 : Int32)) + (1 : Int32))), .val (.ref w_ENOSPC)] [])
                      refine own_st (fun t k => XS.goto X35.here hx rfl (pc0 := 37) (pc' := 9) rfl (hb hby own_d1_37) (by decide) (by decide) k) ?_
                      show own_Go _ _ _ _ T35 (mkF m 9 #[.val (.int ip0x1_1), .val (.ref b2x2_2c1), .val (.int (10 : Int32)), .val (.int ((((((((((0 : Int32) + (1 : Int32)) + (1 : Int32)) + (1 : Int32)) + (1 : Int32)) + (1 : Int32)) + (1 : Int32)) + (1 : Int32)) + (1 : Int32)) + (1 : Int32))), .val (.ref w_ENOSPC)] [])
                      refine own_st (fun t k => XS.iloadN X35.here hx rfl (hb hby own_d1_9) rfl k) ?_
                      show own_Go _ _ _ _ T35 (mkF m 10 #[.val (.int ip0x1_1), .val (.ref b2x2_2c1), .val (.int (10 : Int32)), .val (.int ((((((((((0 : Int32) + (1 : Int32)) + (1 : Int32)) + (1 : Int32)) + (1 : Int32)) + (1 : Int32)) + (1 : Int32)) + (1 : Int32)) + (1 : Int32)) + (1 : Int32))), .val (.ref w_ENOSPC)] [(.int ((((((((((0 : Int32) + (1 : Int32)) + (1 : Int32)) + (1 : Int32)) + (1 : Int32)) + (1 : Int32)) + (1 : Int32)) + (1 : Int32)) + (1 : Int32)) + (1 : Int32)))])
                      refine own_st (fun t k => XS.iloadN X35.here hx rfl (hb hby own_d1_10) rfl k) ?_
                      show own_Go _ _ _ _ T35 (mkF m 11 #[.val (.int ip0x1_1), .val (.ref b2x2_2c1), .val (.int (10 : Int32)), .val (.int ((((((((((0 : Int32) + (1 : Int32)) + (1 : Int32)) + (1 : Int32)) + (1 : Int32)) + (1 : Int32)) + (1 : Int32)) + (1 : Int32)) + (1 : Int32)) + (1 : Int32))), .val (.ref w_ENOSPC)] [(.int (10 : Int32)), (.int ((((((((((0 : Int32) + (1 : Int32)) + (1 : Int32)) + (1 : Int32)) + (1 : Int32)) + (1 : Int32)) + (1 : Int32)) + (1 : Int32)) + (1 : Int32)) + (1 : Int32)))])
                      refine own_st (fun t k => XS.icmpNo X35.here hx rfl (hb hby own_d1_11) rfl (tlt (by decide : ((((((((((0 : Int32) + (1 : Int32)) + (1 : Int32)) + (1 : Int32)) + (1 : Int32)) + (1 : Int32)) + (1 : Int32)) + (1 : Int32)) + (1 : Int32)) + (1 : Int32)) < (10 : Int32))).2.1 k) ?_
                      show own_Go _ _ _ _ T35 (mkF m 14 #[.val (.int ip0x1_1), .val (.ref b2x2_2c1), .val (.int (10 : Int32)), .val (.int ((((((((((0 : Int32) + (1 : Int32)) + (1 : Int32)) + (1 : Int32)) + (1 : Int32)) + (1 : Int32)) + (1 : Int32)) + (1 : Int32)) + (1 : Int32)) + (1 : Int32))), .val (.ref w_ENOSPC)] [])
                      refine own_st (fun t k => XS.aloadN X35.here hx rfl (hb hby own_d1_14) rfl rfl k) ?_
                      show own_Go _ _ _ _ T35 (mkF m 15 #[.val (.int ip0x1_1), .val (.ref b2x2_2c1), .val (.int (10 : Int32)), .val (.int ((((((((((0 : Int32) + (1 : Int32)) + (1 : Int32)) + (1 : Int32)) + (1 : Int32)) + (1 : Int32)) + (1 : Int32)) + (1 : Int32)) + (1 : Int32)) + (1 : Int32))), .val (.ref w_ENOSPC)] [(.ref b2x2_2c1)])
                      refine own_st (fun t k => XS.iloadN X35.here hx rfl (hb hby own_d1_15) rfl k) ?_
                      show own_Go _ _ _ _ T35 (mkF m 16 #[.val (.int ip0x1_1), .val (.ref b2x2_2c1), .val (.int (10 : Int32)), .val (.int ((((((((((0 : Int32) + (1 : Int32)) + (1 : Int32)) + (1 : Int32)) + (1 : Int32)) + (1 : Int32)) + (1 : Int32)) + (1 : Int32)) + (1 : Int32)) + (1 : Int32))), .val (.ref w_ENOSPC)] [(.int ((((((((((0 : Int32) + (1 : Int32)) + (1 : Int32)) + (1 : Int32)) + (1 : Int32)) + (1 : Int32)) + (1 : Int32)) + (1 : Int32)) + (1 : Int32)) + (1 : Int32))), (.ref b2x2_2c1)])
                      refine own_st (own_aaload X35 hx hZ e35 Fc1_0_0 rfl (j := ((((((((((0 : Int32) + (1 : Int32)) + (1 : Int32)) + (1 : Int32)) + (1 : Int32)) + (1 : Int32)) + (1 : Int32)) + (1 : Int32)) + (1 : Int32)) + (1 : Int32))) (v := (.ref w_ENAMETOOLONG)) ⟨by decide, by decide⟩ rfl (g := (mkF m 16 #[.val (.int ip0x1_1), .val (.ref b2x2_2c1), .val (.int (10 : Int32)), .val (.int ((((((((((0 : Int32) + (1 : Int32)) + (1 : Int32)) + (1 : Int32)) + (1 : Int32)) + (1 : Int32)) + (1 : Int32)) + (1 : Int32)) + (1 : Int32)) + (1 : Int32))), .val (.ref w_ENOSPC)] [(.int ((((((((((0 : Int32) + (1 : Int32)) + (1 : Int32)) + (1 : Int32)) + (1 : Int32)) + (1 : Int32)) + (1 : Int32)) + (1 : Int32)) + (1 : Int32)) + (1 : Int32))), (.ref b2x2_2c1)])) rfl rfl (hb hby own_d1_16)) ?_
                      show own_Go _ _ _ _ T35 (mkF m 17 #[.val (.int ip0x1_1), .val (.ref b2x2_2c1), .val (.int (10 : Int32)), .val (.int ((((((((((0 : Int32) + (1 : Int32)) + (1 : Int32)) + (1 : Int32)) + (1 : Int32)) + (1 : Int32)) + (1 : Int32)) + (1 : Int32)) + (1 : Int32)) + (1 : Int32))), .val (.ref w_ENOSPC)] [(.ref w_ENAMETOOLONG)])
                      refine own_st (fun t k => XS.astore X35.here hx rfl (hb hby own_d1_17) rfl rfl (l' := #[.val (.int ip0x1_1), .val (.ref b2x2_2c1), .val (.int (10 : Int32)), .val (.int ((((((((((0 : Int32) + (1 : Int32)) + (1 : Int32)) + (1 : Int32)) + (1 : Int32)) + (1 : Int32)) + (1 : Int32)) + (1 : Int32)) + (1 : Int32)) + (1 : Int32))), .val (.ref w_ENAMETOOLONG)]) rfl k) ?_
                      show own_Go _ _ _ _ T35 (mkF m 19 #[.val (.int ip0x1_1), .val (.ref b2x2_2c1), .val (.int (10 : Int32)), .val (.int ((((((((((0 : Int32) + (1 : Int32)) + (1 : Int32)) + (1 : Int32)) + (1 : Int32)) + (1 : Int32)) + (1 : Int32)) + (1 : Int32)) + (1 : Int32)) + (1 : Int32))), .val (.ref w_ENAMETOOLONG)] [])
                      refine own_st (fun t k => XS.aload X35.here hx rfl (hb hby own_d1_19) rfl rfl k) ?_
                      show own_Go _ _ _ _ T35 (mkF m 21 #[.val (.int ip0x1_1), .val (.ref b2x2_2c1), .val (.int (10 : Int32)), .val (.int ((((((((((0 : Int32) + (1 : Int32)) + (1 : Int32)) + (1 : Int32)) + (1 : Int32)) + (1 : Int32)) + (1 : Int32)) + (1 : Int32)) + (1 : Int32)) + (1 : Int32))), .val (.ref w_ENAMETOOLONG)] [(.ref w_ENAMETOOLONG)])
                      have f38 := (P12.keep Kq1 nin0)
                      obtain ⟨T39, X39, e39, st39⟩ := getF X35 hx hZ hown (host := "") (Or.inl (own_w hw 29 rfl)) Via.refl e35 f38 (g := (mkF m 21 #[.val (.int ip0x1_1), .val (.ref b2x2_2c1), .val (.int (10 : Int32)), .val (.int ((((((((((0 : Int32) + (1 : Int32)) + (1 : Int32)) + (1 : Int32)) + (1 : Int32)) + (1 : Int32)) + (1 : Int32)) + (1 : Int32)) + (1 : Int32)) + (1 : Int32))), .val (.ref w_ENAMETOOLONG)] [(.ref w_ENAMETOOLONG)])) rfl rfl (hb hby own_d1_21)
                      refine own_st st39 ?_
                      show own_Go _ _ _ _ T39 (mkF m 24 #[.val (.int ip0x1_1), .val (.ref b2x2_2c1), .val (.int (10 : Int32)), .val (.int ((((((((((0 : Int32) + (1 : Int32)) + (1 : Int32)) + (1 : Int32)) + (1 : Int32)) + (1 : Int32)) + (1 : Int32)) + (1 : Int32)) + (1 : Int32)) + (1 : Int32))), .val (.ref w_ENAMETOOLONG)] [(.int (36 : Int32))])
                      refine own_st (fun t k => XS.iloadN X39.here hx rfl (hb hby own_d1_24) rfl k) ?_
                      show own_Go _ _ _ _ T39 (mkF m 25 #[.val (.int ip0x1_1), .val (.ref b2x2_2c1), .val (.int (10 : Int32)), .val (.int ((((((((((0 : Int32) + (1 : Int32)) + (1 : Int32)) + (1 : Int32)) + (1 : Int32)) + (1 : Int32)) + (1 : Int32)) + (1 : Int32)) + (1 : Int32)) + (1 : Int32))), .val (.ref w_ENAMETOOLONG)] [(.int ip0x1_1), (.int (36 : Int32))])
                      by_cases hc40 : (36 : Int32) = ip0x1_1
                      · skip
                        refine own_st (fun t k => XS.icmpNo X39.here hx rfl (hb hby own_d1_25) rfl (teq hc40).2 k) ?_
                        show own_Go _ _ _ _ T39 (mkF m 28 #[.val (.int ip0x1_1), .val (.ref b2x2_2c1), .val (.int (10 : Int32)), .val (.int ((((((((((0 : Int32) + (1 : Int32)) + (1 : Int32)) + (1 : Int32)) + (1 : Int32)) + (1 : Int32)) + (1 : Int32)) + (1 : Int32)) + (1 : Int32)) + (1 : Int32))), .val (.ref w_ENAMETOOLONG)] [])
                        refine own_st (fun t k => XS.aload X39.here hx rfl (hb hby own_d1_28) rfl rfl k) ?_
                        show own_Go _ _ _ _ T39 (mkF m 30 #[.val (.int ip0x1_1), .val (.ref b2x2_2c1), .val (.int (10 : Int32)), .val (.int ((((((((((0 : Int32) + (1 : Int32)) + (1 : Int32)) + (1 : Int32)) + (1 : Int32)) + (1 : Int32)) + (1 : Int32)) + (1 : Int32)) + (1 : Int32)) + (1 : Int32))), .val (.ref w_ENAMETOOLONG)] [(.ref w_ENAMETOOLONG)])
                        obtain ⟨_, _, ⟨T41, L41, k41, n41⟩, -, X41, ⟨Lc41, hQ41, l41, y41, z41⟩, st41⟩ := Jvm.LawKit.callS X39 hx (y := (⟨"java/util/Optional", "of", "(Ljava/lang/Object;)Ljava/util/Optional;"⟩ : MethodName)) hown (mvT hZ (own_w hw 47 rfl)) (mvT hZ (own_w hw 48 rfl)) (mvT hZ (own_w hw 33 rfl)) (mvT hZ (own_w hw 49 rfl)) (by decide) (backOf (W := 0) (own_rm6_3 l Z a0 hw [] w_ENAMETOOLONG T1.heap n0 Z1 ) hZ (own_w hw 49 rfl) (own_w hw 33 rfl) (by decide) (by decide)) (g := (mkF m 30 #[.val (.int ip0x1_1), .val (.ref b2x2_2c1), .val (.int (10 : Int32)), .val (.int ((((((((((0 : Int32) + (1 : Int32)) + (1 : Int32)) + (1 : Int32)) + (1 : Int32)) + (1 : Int32)) + (1 : Int32)) + (1 : Int32)) + (1 : Int32)) + (1 : Int32))), .val (.ref w_ENAMETOOLONG)] [(.ref w_ENAMETOOLONG)])) rfl (by rw [hml]; rfl) (argsL := [(.ref w_ENAMETOOLONG)]) (rest := []) (lenOf own_pd3 rfl) rfl (by show 2 * 0 + _ ≤ _; exact Nat.le_of_eq rfl) (hb hby own_d1_30) (fun _ _ => ⟨rfl, e39, (by decide : 1 + 1 ≤ _), (by decide : 10 + 1 ≤ _)⟩)
                        dsimp only [Pt.U, Pt.locs, Pt.cells, Pt.slots] at X41 l41 y41 z41 st41 hQ41
                        subst l41 y41 z41
                        obtain ⟨N41q, Kq41, hL41⟩ := hQ41
                        have N41 := Fr.app N1 N41q
                        have K41 : Keep h0 T41.heap [] := K1.trans Kq41 all0
                        have Z41 := Nat.le_trans Z1 Kq41.1
                        rcases hL41 with ⟨b1x6_3c41, rfl, sq_b1x6_3c41, Fc41_0_0, Fc41_0_1, -⟩
                        · skip
                          have g_b1x6_3c41 : n0 ≤ b1x6_3c41 := Nat.le_trans Z1 sq_b1x6_3c41
                          have sz_b1x6_3c41 : h0.size ≤ b1x6_3c41 := Nat.le_trans K1.1 sq_b1x6_3c41
                          refine own_st st41 ?_
                          show own_Go _ _ _ _ T41 (mkF m 33 #[.val (.int ip0x1_1), .val (.ref b2x2_2c1), .val (.int (10 : Int32)), .val (.int ((((((((((0 : Int32) + (1 : Int32)) + (1 : Int32)) + (1 : Int32)) + (1 : Int32)) + (1 : Int32)) + (1 : Int32)) + (1 : Int32)) + (1 : Int32)) + (1 : Int32))), .val (.ref w_ENAMETOOLONG)] [(.ref b1x6_3c41)])
                          exact own_retA X41 hx hlk hret rfl rfl (hb hby own_d1_33) (by decide) (by decide) rfl ⟨N41, K41, (Or.inr (Or.inr (Or.inr (Or.inr (Or.inr (Or.inr (Or.inr (Or.inr (Or.inr (Or.inl ⟨b1x6_3c41, rfl, hc4, hc8, hc12, hc16, hc20, hc24, hc28, hc32, hc36, hc40, sz_b1x6_3c41, Fc41_0_0, Fc41_0_1, trivial⟩))))))))))⟩
                      · skip
                        refine own_st (fun t k => XS.icmpYes X39.here hx rfl (pc0 := 25) (pc' := 34) rfl (hb hby own_d1_25) rfl (feq hc40).2 (by decide) (by decide) k) ?_
                        show own_Go _ _ _ _ T39 (mkF m 34 #[.val (.int ip0x1_1), .val (.ref b2x2_2c1), .val (.int (10 : Int32)), .val (.int ((((((((((0 : Int32) + (1 : Int32)) + (1 : Int32)) + (1 : Int32)) + (1 : Int32)) + (1 : Int32)) + (1 : Int32)) + (1 : Int32)) + (1 : Int32)) + (1 : Int32))), .val (.ref w_ENAMETOOLONG)] [])
                        refine own_st (fun t k => XS.iinc X39.here hx rfl (hb hby own_d1_34) rfl (l' := #[.val (.int ip0x1_1), .val (.ref b2x2_2c1), .val (.int (10 : Int32)), .val (.int (((((((((((0 : Int32) + (1 : Int32)) + (1 : Int32)) + (1 : Int32)) + (1 : Int32)) + (1 : Int32)) + (1 : Int32)) + (1 : Int32)) + (1 : Int32)) + (1 : Int32)) + (1 : Int32))), .val (.ref w_ENAMETOOLONG)]) rfl k) ?_
                        show own_Go _ _ _ _ T39 (mkF m 37 #[.val (.int ip0x1_1), .val (.ref b2x2_2c1), .val (.int (10 : Int32)), .val (.int (((((((((((0 : Int32) + (1 : Int32)) + (1 : Int32)) + (1 : Int32)) + (1 : Int32)) + (1 : Int32)) + (1 : Int32)) + (1 : Int32)) + (1 : Int32)) + (1 : Int32)) + (1 : Int32))), .val (.ref w_ENAMETOOLONG)] [])
                        refine own_st (fun t k => XS.goto X39.here hx rfl (pc0 := 37) (pc' := 9) rfl (hb hby own_d1_37) (by decide) (by decide) k) ?_
                        show own_Go _ _ _ _ T39 (mkF m 9 #[.val (.int ip0x1_1), .val (.ref b2x2_2c1), .val (.int (10 : Int32)), .val (.int (((((((((((0 : Int32) + (1 : Int32)) + (1 : Int32)) + (1 : Int32)) + (1 : Int32)) + (1 : Int32)) + (1 : Int32)) + (1 : Int32)) + (1 : Int32)) + (1 : Int32)) + (1 : Int32))), .val (.ref w_ENAMETOOLONG)] [])
                        refine own_st (fun t k => XS.iloadN X39.here hx rfl (hb hby own_d1_9) rfl k) ?_
                        show own_Go _ _ _ _ T39 (mkF m 10 #[.val (.int ip0x1_1), .val (.ref b2x2_2c1), .val (.int (10 : Int32)), .val (.int (((((((((((0 : Int32) + (1 : Int32)) + (1 : Int32)) + (1 : Int32)) + (1 : Int32)) + (1 : Int32)) + (1 : Int32)) + (1 : Int32)) + (1 : Int32)) + (1 : Int32)) + (1 : Int32))), .val (.ref w_ENAMETOOLONG)] [(.int (((((((((((0 : Int32) + (1 : Int32)) + (1 : Int32)) + (1 : Int32)) + (1 : Int32)) + (1 : Int32)) + (1 : Int32)) + (1 : Int32)) + (1 : Int32)) + (1 : Int32)) + (1 : Int32)))])
                        refine own_st (fun t k => XS.iloadN X39.here hx rfl (hb hby own_d1_10) rfl k) ?_
                        show own_Go _ _ _ _ T39 (mkF m 11 #[.val (.int ip0x1_1), .val (.ref b2x2_2c1), .val (.int (10 : Int32)), .val (.int (((((((((((0 : Int32) + (1 : Int32)) + (1 : Int32)) + (1 : Int32)) + (1 : Int32)) + (1 : Int32)) + (1 : Int32)) + (1 : Int32)) + (1 : Int32)) + (1 : Int32)) + (1 : Int32))), .val (.ref w_ENAMETOOLONG)] [(.int (10 : Int32)), (.int (((((((((((0 : Int32) + (1 : Int32)) + (1 : Int32)) + (1 : Int32)) + (1 : Int32)) + (1 : Int32)) + (1 : Int32)) + (1 : Int32)) + (1 : Int32)) + (1 : Int32)) + (1 : Int32)))])
                        refine own_st (fun t k => XS.icmpYes X39.here hx rfl (pc0 := 11) (pc' := 40) rfl (hb hby own_d1_11) rfl (flt (by decide : ¬ ((((((((((((0 : Int32) + (1 : Int32)) + (1 : Int32)) + (1 : Int32)) + (1 : Int32)) + (1 : Int32)) + (1 : Int32)) + (1 : Int32)) + (1 : Int32)) + (1 : Int32)) + (1 : Int32)) < (10 : Int32)))).2.1 (by decide) (by decide) k) ?_
                        show own_Go _ _ _ _ T39 (mkF m 40 #[.val (.int ip0x1_1), .val (.ref b2x2_2c1), .val (.int (10 : Int32)), .val (.int (((((((((((0 : Int32) + (1 : Int32)) + (1 : Int32)) + (1 : Int32)) + (1 : Int32)) + (1 : Int32)) + (1 : Int32)) + (1 : Int32)) + (1 : Int32)) + (1 : Int32)) + (1 : Int32))), .val (.ref w_ENAMETOOLONG)] [])
                        have f42 := (own_stak P13 Kq1 all0)
                        obtain ⟨_, _, ⟨T43, L43, k43, n43⟩, -, X43, ⟨Lc43, hQ43, l43, y43, z43⟩, st43⟩ := Jvm.LawKit.callS X39 hx (y := (⟨"java/util/Optional", "empty", "()Ljava/util/Optional;"⟩ : MethodName)) hown (mvT hZ (own_w hw 31 rfl)) (mvT hZ (own_w hw 32 rfl)) (mvT hZ (own_w hw 33 rfl)) (mvT hZ (own_w hw 34 rfl)) (by decide) (backOf (W := 0) (own_rm3 l Z a0 hw [] w_EMPTY T1.heap n0 Z1 f42) hZ (own_w hw 34 rfl) (own_w hw 33 rfl) (by decide) (by decide)) (g := (mkF m 40 #[.val (.int ip0x1_1), .val (.ref b2x2_2c1), .val (.int (10 : Int32)), .val (.int (((((((((((0 : Int32) + (1 : Int32)) + (1 : Int32)) + (1 : Int32)) + (1 : Int32)) + (1 : Int32)) + (1 : Int32)) + (1 : Int32)) + (1 : Int32)) + (1 : Int32)) + (1 : Int32))), .val (.ref w_ENAMETOOLONG)] [])) rfl (by rw [hml]; rfl) (argsL := []) (rest := []) (lenOf own_pd4 rfl) rfl (by show 2 * 0 + _ ≤ _; exact Nat.le_of_eq rfl) (hb hby own_d1_40) (fun _ _ => ⟨rfl, e39, (by decide : 1 + 0 ≤ _), (by decide : 10 + 0 ≤ _)⟩)
                        dsimp only [Pt.U, Pt.locs, Pt.cells, Pt.slots] at X43 l43 y43 z43 st43 hQ43
                        subst l43 y43 z43
                        obtain ⟨N43q, e43, hL43⟩ := hQ43
                        have N43 := Fr.app N1 N43q
                        rcases hL43 with ⟨rfl, -⟩
                        · skip
                          refine own_st st43 ?_
                          show own_Go _ _ _ _ T43 (mkF m 43 #[.val (.int ip0x1_1), .val (.ref b2x2_2c1), .val (.int (10 : Int32)), .val (.int (((((((((((0 : Int32) + (1 : Int32)) + (1 : Int32)) + (1 : Int32)) + (1 : Int32)) + (1 : Int32)) + (1 : Int32)) + (1 : Int32)) + (1 : Int32)) + (1 : Int32)) + (1 : Int32))), .val (.ref w_ENAMETOOLONG)] [(.ref w_EMPTY)])
                          exact own_retA X43 hx hlk hret rfl rfl (hb hby own_d1_43) (by decide) (by decide) e43 ⟨N43, K1, (Or.inr (Or.inr (Or.inr (Or.inr (Or.inr (Or.inr (Or.inr (Or.inr (Or.inr (Or.inr ⟨rfl, hc4, hc8, hc12, hc16, hc20, hc24, hc28, hc32, hc36, hc40, trivial⟩))))))))))⟩
theorem own_pd5 : parseMethodDescriptor "(I)Ljava/util/Optional;" = some ⟨[.int], some (.object "java/util/Optional")⟩ := by decide +kernel
theorem own_d4_0 : decode jdk_32_method_15_code 0 = .ok (.aload_n 0, 1) := by decide +kernel
theorem own_d4_1 : decode jdk_32_method_15_code 1 = .ok (.getfield 13, 3) := by decide +kernel
theorem own_d4_4 : decode jdk_32_method_15_code 4 = .ok (.ifnull 10, 3) := by decide +kernel
theorem own_d4_7 : decode jdk_32_method_15_code 7 = .ok (.aload_n 0, 1) := by decide +kernel
theorem own_d4_8 : decode jdk_32_method_15_code 8 = .ok (.getfield 13, 3) := by decide +kernel
theorem own_d4_11 : decode jdk_32_method_15_code 11 = .ok (.goto 4, 3) := by decide +kernel
theorem own_d4_15 : decode jdk_32_method_15_code 15 = .ok (.areturn, 1) := by decide +kernel
theorem own_ef4RN (m : MethodId) (x0 : Addr) : entryFrame m #[(.ref x0), .null] 2 = mkF m 0 #[.val (.ref x0), .val .null] [] := by first | (simp [entryFrame, mkF, argsToLocals, Value.category]; done) | rfl
def own_Q4_7 (Z : State) (b1x6_3c5c2 : Addr) (w_ENOENT : Addr) (h0 : Heap) (n0 : Nat) (v : Option Value) (h : Heap) (L : List Loc) : Prop := Fr n0 L ∧ Keep h0 h [] ∧ ((v = some (.ref w_ENOENT) ∧ True))
set_option maxRecDepth 65536 in
set_option maxHeartbeats 40000000 in
theorem own_rm4_7 (l : Launch) (Z : State) (a0 : Array Value) (hw : ∀ d ∈ tables_1, d.before a0 Z = true) (ws : List Jvm.Cond) (b1x6_3c5c2 : Addr) (w_ENOENT : Addr) (h0 : Heap) (n0 : Nat) (Z0 : n0 ≤ h0.size) (P0 : Fld Z h0 b1x6_3c5c2 "java/util/Optional" "value" "Ljava/lang/Object;" (.ref w_ENOENT)) :
    MetFree l (⟨"java/util/Optional", "orElse", "(Ljava/lang/Object;)Ljava/lang/Object;"⟩ : MethodName) (head1 (Jvm.Cond.code (⟨"java/util/Optional", "orElse", "(Ljava/lang/Object;)Ljava/lang/Object;"⟩ : MethodName) jdk_32_method_15_code 2 (some (.object "java/lang/Object")) :: ws) ({ frames := 0, cells := 0, slots := 0, locals := 0 } : Room)) (fun a U => a = #[(.ref b1x6_3c5c2), .null] ∧ Z.Warmed39 U.vm ∧ U.heap = h0) (fun _ _ _ _ _ => True) (fun _ U o U' => ∃ v L, o = .returned v ∧ own_Q4_7 Z b1x6_3c5c2 w_ENOENT h0 n0 v U'.heap L ∧ FrameEnd U o U' L ({ frames := 0, cells := 0, slots := 0, locals := 0 } : Room).cells ({ frames := 0, cells := 0, slots := 0, locals := 0 } : Room).slots) := by
  refine MetFree.of_bodySF (plainFor_of_name own_pn2) hisR ?_
  intro p e s m args below meth c s₁ Bd hml0 hP hK
  obtain ⟨rfl, hZ, hh⟩ := hP
  have hx := Bd.exec
  have hlk := Bd.notSynchronized
  have hret := Bd.returns
  have hby := Bd.bytes
  have hml : c.maxLocals = 2 := hml0
  have hown : s.vm.findClass "java/util/Optional" = some m.cls := findClass_of_methodNamed Bd.named
  have hnm := (name_of_methodNamed Bd.named Bd.method).1
  have X0 : Stand p l e ({ frames := 0, cells := 0, slots := 0, locals := 0 } : Room) s m #[(.ref b1x6_3c5c2), .null] below meth c s₁ [] 0 0 := Stand.of_body Bd
  have e0 : s₁.heap = h0 := by rw [← hh, Bd.state]; rfl
  have N0 := Fr.nil n0
  refine own_open (Q := own_Q4_7 Z b1x6_3c5c2 w_ENOENT h0 n0) (own_ef4RN m b1x6_3c5c2) ?_
  show own_Go _ _ _ _ s₁ (mkF m 0 #[.val (.ref b1x6_3c5c2), .val .null] [])
  refine own_st (fun t k => XS.aloadN X0.here hx rfl (hb hby own_d4_0) rfl rfl k) ?_
  show own_Go _ _ _ _ s₁ (mkF m 1 #[.val (.ref b1x6_3c5c2), .val .null] [(.ref b1x6_3c5c2)])
  obtain ⟨T1, X1, e1, st1⟩ := getF X0 hx hZ hown (host := "") (Or.inl (own_w hw 41 rfl)) Via.refl e0 P0 (g := (mkF m 1 #[.val (.ref b1x6_3c5c2), .val .null] [(.ref b1x6_3c5c2)])) rfl rfl (hb hby own_d4_1)
  refine own_st st1 ?_
  show own_Go _ _ _ _ T1 (mkF m 4 #[.val (.ref b1x6_3c5c2), .val .null] [(.ref w_ENOENT)])
  refine own_st (fun t k => XS.ifnullNo X1.here hx rfl (hb hby own_d4_4) rfl k) ?_
  show own_Go _ _ _ _ T1 (mkF m 7 #[.val (.ref b1x6_3c5c2), .val .null] [])
  refine own_st (fun t k => XS.aloadN X1.here hx rfl (hb hby own_d4_7) rfl rfl k) ?_
  show own_Go _ _ _ _ T1 (mkF m 8 #[.val (.ref b1x6_3c5c2), .val .null] [(.ref b1x6_3c5c2)])
  obtain ⟨T2, X2, e2, st2⟩ := getF X1 hx hZ hown (host := "") (Or.inl (own_w hw 41 rfl)) Via.refl e1 P0 (g := (mkF m 8 #[.val (.ref b1x6_3c5c2), .val .null] [(.ref b1x6_3c5c2)])) rfl rfl (hb hby own_d4_8)
  refine own_st st2 ?_
  show own_Go _ _ _ _ T2 (mkF m 11 #[.val (.ref b1x6_3c5c2), .val .null] [(.ref w_ENOENT)])
  refine own_st (fun t k => XS.goto X2.here hx rfl (pc0 := 11) (pc' := 15) rfl (hb hby own_d4_11) (by decide) (by decide) k) ?_
  show own_Go _ _ _ _ T2 (mkF m 15 #[.val (.ref b1x6_3c5c2), .val .null] [(.ref w_ENOENT)])
  exact own_retA X2 hx hlk hret rfl rfl (hb hby own_d4_15) (by decide) (by decide) e2 ⟨N0, (Keep.refl h0 []), ⟨rfl, trivial⟩⟩
theorem own_d5_0 : decode method_2_code 0 = .ok (.iload_n 0, 1) := by decide +kernel
theorem own_d5_1 : decode method_2_code 1 = .ok (.iconst 2, 1) := by decide +kernel
theorem own_d5_2 : decode method_2_code 2 = .ok (.if_icmp .ne 7, 3) := by decide +kernel
theorem own_d5_5 : decode method_2_code 5 = .ok (.getstatic 7, 3) := by decide +kernel
theorem own_d5_8 : decode method_2_code 8 = .ok (.areturn, 1) := by decide +kernel
theorem own_d5_9 : decode method_2_code 9 = .ok (.iload_n 0, 1) := by decide +kernel
theorem own_d5_10 : decode method_2_code 10 = .ok (.iconst 5, 1) := by decide +kernel
theorem own_d5_11 : decode method_2_code 11 = .ok (.if_icmp .ne 7, 3) := by decide +kernel
theorem own_d5_14 : decode method_2_code 14 = .ok (.getstatic 13, 3) := by decide +kernel
theorem own_d5_17 : decode method_2_code 17 = .ok (.areturn, 1) := by decide +kernel
theorem own_d5_18 : decode method_2_code 18 = .ok (.iload_n 0, 1) := by decide +kernel
theorem own_d5_19 : decode method_2_code 19 = .ok (.bipush 9, 2) := by decide +kernel
theorem own_d5_21 : decode method_2_code 21 = .ok (.if_icmp .ne 7, 3) := by decide +kernel
theorem own_d5_24 : decode method_2_code 24 = .ok (.getstatic 16, 3) := by decide +kernel
theorem own_d5_27 : decode method_2_code 27 = .ok (.areturn, 1) := by decide +kernel
theorem own_d5_28 : decode method_2_code 28 = .ok (.iload_n 0, 1) := by decide +kernel
theorem own_d5_29 : decode method_2_code 29 = .ok (.bipush 13, 2) := by decide +kernel
theorem own_d5_31 : decode method_2_code 31 = .ok (.if_icmp .ne 7, 3) := by decide +kernel
theorem own_d5_34 : decode method_2_code 34 = .ok (.getstatic 19, 3) := by decide +kernel
theorem own_d5_37 : decode method_2_code 37 = .ok (.areturn, 1) := by decide +kernel
theorem own_d5_38 : decode method_2_code 38 = .ok (.iload_n 0, 1) := by decide +kernel
theorem own_d5_39 : decode method_2_code 39 = .ok (.bipush 17, 2) := by decide +kernel
theorem own_d5_41 : decode method_2_code 41 = .ok (.if_icmp .ne 7, 3) := by decide +kernel
theorem own_d5_44 : decode method_2_code 44 = .ok (.getstatic 22, 3) := by decide +kernel
theorem own_d5_47 : decode method_2_code 47 = .ok (.areturn, 1) := by decide +kernel
theorem own_d5_48 : decode method_2_code 48 = .ok (.iload_n 0, 1) := by decide +kernel
theorem own_d5_49 : decode method_2_code 49 = .ok (.bipush 20, 2) := by decide +kernel
theorem own_d5_51 : decode method_2_code 51 = .ok (.if_icmp .ne 7, 3) := by decide +kernel
theorem own_d5_54 : decode method_2_code 54 = .ok (.getstatic 25, 3) := by decide +kernel
theorem own_d5_57 : decode method_2_code 57 = .ok (.areturn, 1) := by decide +kernel
theorem own_d5_58 : decode method_2_code 58 = .ok (.iload_n 0, 1) := by decide +kernel
theorem own_d5_59 : decode method_2_code 59 = .ok (.bipush 21, 2) := by decide +kernel
theorem own_d5_61 : decode method_2_code 61 = .ok (.if_icmp .ne 7, 3) := by decide +kernel
theorem own_d5_64 : decode method_2_code 64 = .ok (.getstatic 28, 3) := by decide +kernel
theorem own_d5_67 : decode method_2_code 67 = .ok (.areturn, 1) := by decide +kernel
theorem own_d5_68 : decode method_2_code 68 = .ok (.iload_n 0, 1) := by decide +kernel
theorem own_d5_69 : decode method_2_code 69 = .ok (.bipush 22, 2) := by decide +kernel
theorem own_d5_71 : decode method_2_code 71 = .ok (.if_icmp .ne 7, 3) := by decide +kernel
theorem own_d5_74 : decode method_2_code 74 = .ok (.getstatic 31, 3) := by decide +kernel
theorem own_d5_77 : decode method_2_code 77 = .ok (.areturn, 1) := by decide +kernel
theorem own_d5_78 : decode method_2_code 78 = .ok (.iload_n 0, 1) := by decide +kernel
theorem own_d5_79 : decode method_2_code 79 = .ok (.bipush 28, 2) := by decide +kernel
theorem own_d5_81 : decode method_2_code 81 = .ok (.if_icmp .ne 7, 3) := by decide +kernel
theorem own_d5_84 : decode method_2_code 84 = .ok (.getstatic 34, 3) := by decide +kernel
theorem own_d5_87 : decode method_2_code 87 = .ok (.areturn, 1) := by decide +kernel
theorem own_d5_88 : decode method_2_code 88 = .ok (.iload_n 0, 1) := by decide +kernel
theorem own_d5_89 : decode method_2_code 89 = .ok (.bipush 36, 2) := by decide +kernel
theorem own_d5_91 : decode method_2_code 91 = .ok (.if_icmp .ne 7, 3) := by decide +kernel
theorem own_d5_94 : decode method_2_code 94 = .ok (.getstatic 37, 3) := by decide +kernel
theorem own_d5_97 : decode method_2_code 97 = .ok (.areturn, 1) := by decide +kernel
theorem own_d5_98 : decode method_2_code 98 = .ok (.aconst_null, 1) := by decide +kernel
theorem own_d5_99 : decode method_2_code 99 = .ok (.areturn, 1) := by decide +kernel
theorem own_ef5 (m : MethodId) (x0 : Int32) : entryFrame m #[(.int x0)] 1 = mkF m 0 #[.val (.int x0)] [] := by first | (simp [entryFrame, mkF, argsToLocals, Value.category]; done) | rfl
theorem own_pn3 : plainName "com/example/checkpost/checkpost/protocol/ErrnoByNumberPinLaw" = true := by first | (simp [plainName, overriddenIn]; done) | decide +kernel
def own_Q5 (ip0 : Int32) (w_ENOENT : Addr) (w_EIO : Addr) (w_EBADF : Addr) (w_EACCES : Addr) (w_EEXIST : Addr) (w_ENOTDIR : Addr) (w_EISDIR : Addr) (w_EINVAL : Addr) (w_ENOSPC : Addr) (w_ENAMETOOLONG : Addr) (h0 : Heap) (n0 : Nat) (v : Option Value) (h : Heap) (L : List Loc) : Prop := Fr n0 L ∧ h = h0 ∧ ((v = some (.ref w_ENOENT) ∧ (ip0 = (2 : Int32)) ∧ True) ∨ (v = some (.ref w_EIO) ∧ (¬ (ip0 = (2 : Int32))) ∧ (ip0 = (5 : Int32)) ∧ True) ∨ (v = some (.ref w_EBADF) ∧ (¬ (ip0 = (2 : Int32))) ∧ (¬ (ip0 = (5 : Int32))) ∧ (ip0 = (9 : Int32)) ∧ True) ∨ (v = some (.ref w_EACCES) ∧ (¬ (ip0 = (2 : Int32))) ∧ (¬ (ip0 = (5 : Int32))) ∧ (¬ (ip0 = (9 : Int32))) ∧ (ip0 = (13 : Int32)) ∧ True) ∨ (v = some (.ref w_EEXIST) ∧ (¬ (ip0 = (2 : Int32))) ∧ (¬ (ip0 = (5 : Int32))) ∧ (¬ (ip0 = (9 : Int32))) ∧ (¬ (ip0 = (13 : Int32))) ∧ (ip0 = (17 : Int32)) ∧ True) ∨ (v = some (.ref w_ENOTDIR) ∧ (¬ (ip0 = (2 : Int32))) ∧ (¬ (ip0 = (5 : Int32))) ∧ (¬ (ip0 = (9 : Int32))) ∧ (¬ (ip0 = (13 : Int32))) ∧ (¬ (ip0 = (17 : Int32))) ∧ (ip0 = (20 : Int32)) ∧ True) ∨ (v = some (.ref w_EISDIR) ∧ (¬ (ip0 = (2 : Int32))) ∧ (¬ (ip0 = (5 : Int32))) ∧ (¬ (ip0 = (9 : Int32))) ∧ (¬ (ip0 = (13 : Int32))) ∧ (¬ (ip0 = (17 : Int32))) ∧ (¬ (ip0 = (20 : Int32))) ∧ (ip0 = (21 : Int32)) ∧ True) ∨ (v = some (.ref w_EINVAL) ∧ (¬ (ip0 = (2 : Int32))) ∧ (¬ (ip0 = (5 : Int32))) ∧ (¬ (ip0 = (9 : Int32))) ∧ (¬ (ip0 = (13 : Int32))) ∧ (¬ (ip0 = (17 : Int32))) ∧ (¬ (ip0 = (20 : Int32))) ∧ (¬ (ip0 = (21 : Int32))) ∧ (ip0 = (22 : Int32)) ∧ True) ∨ (v = some (.ref w_ENOSPC) ∧ (¬ (ip0 = (2 : Int32))) ∧ (¬ (ip0 = (5 : Int32))) ∧ (¬ (ip0 = (9 : Int32))) ∧ (¬ (ip0 = (13 : Int32))) ∧ (¬ (ip0 = (17 : Int32))) ∧ (¬ (ip0 = (20 : Int32))) ∧ (¬ (ip0 = (21 : Int32))) ∧ (¬ (ip0 = (22 : Int32))) ∧ (ip0 = (28 : Int32)) ∧ True) ∨ (v = some (.ref w_ENAMETOOLONG) ∧ (¬ (ip0 = (2 : Int32))) ∧ (¬ (ip0 = (5 : Int32))) ∧ (¬ (ip0 = (9 : Int32))) ∧ (¬ (ip0 = (13 : Int32))) ∧ (¬ (ip0 = (17 : Int32))) ∧ (¬ (ip0 = (20 : Int32))) ∧ (¬ (ip0 = (21 : Int32))) ∧ (¬ (ip0 = (22 : Int32))) ∧ (¬ (ip0 = (28 : Int32))) ∧ (ip0 = (36 : Int32)) ∧ True) ∨ (v = some .null ∧ (¬ (ip0 = (2 : Int32))) ∧ (¬ (ip0 = (5 : Int32))) ∧ (¬ (ip0 = (9 : Int32))) ∧ (¬ (ip0 = (13 : Int32))) ∧ (¬ (ip0 = (17 : Int32))) ∧ (¬ (ip0 = (20 : Int32))) ∧ (¬ (ip0 = (21 : Int32))) ∧ (¬ (ip0 = (22 : Int32))) ∧ (¬ (ip0 = (28 : Int32))) ∧ (¬ (ip0 = (36 : Int32))) ∧ True))
set_option maxRecDepth 65536 in
set_option maxHeartbeats 40000000 in
theorem own_rm5 (l : Launch) (Z : State) (a0 : Array Value) (hw : ∀ d ∈ tables_1, d.before a0 Z = true) (ws : List Jvm.Cond) (ip0 : Int32) (w_ENOENT : Addr) (w_EIO : Addr) (w_EBADF : Addr) (w_EACCES : Addr) (w_EEXIST : Addr) (w_ENOTDIR : Addr) (w_EISDIR : Addr) (w_EINVAL : Addr) (w_ENOSPC : Addr) (w_ENAMETOOLONG : Addr) (h0 : Heap) (n0 : Nat) (Z0 : n0 ≤ h0.size) (S_ENOENT : Sta Z h0 "com/example/checkpost/checkpost/protocol/Errno" "ENOENT" "Lcom/example/checkpost/checkpost/protocol/Errno;" (.ref w_ENOENT)) (S_EIO : Sta Z h0 "com/example/checkpost/checkpost/protocol/Errno" "EIO" "Lcom/example/checkpost/checkpost/protocol/Errno;" (.ref w_EIO)) (S_EBADF : Sta Z h0 "com/example/checkpost/checkpost/protocol/Errno" "EBADF" "Lcom/example/checkpost/checkpost/protocol/Errno;" (.ref w_EBADF)) (S_EACCES : Sta Z h0 "com/example/checkpost/checkpost/protocol/Errno" "EACCES" "Lcom/example/checkpost/checkpost/protocol/Errno;" (.ref w_EACCES)) (S_EEXIST : Sta Z h0 "com/example/checkpost/checkpost/protocol/Errno" "EEXIST" "Lcom/example/checkpost/checkpost/protocol/Errno;" (.ref w_EEXIST)) (S_ENOTDIR : Sta Z h0 "com/example/checkpost/checkpost/protocol/Errno" "ENOTDIR" "Lcom/example/checkpost/checkpost/protocol/Errno;" (.ref w_ENOTDIR)) (S_EISDIR : Sta Z h0 "com/example/checkpost/checkpost/protocol/Errno" "EISDIR" "Lcom/example/checkpost/checkpost/protocol/Errno;" (.ref w_EISDIR)) (S_EINVAL : Sta Z h0 "com/example/checkpost/checkpost/protocol/Errno" "EINVAL" "Lcom/example/checkpost/checkpost/protocol/Errno;" (.ref w_EINVAL)) (S_ENOSPC : Sta Z h0 "com/example/checkpost/checkpost/protocol/Errno" "ENOSPC" "Lcom/example/checkpost/checkpost/protocol/Errno;" (.ref w_ENOSPC)) (S_ENAMETOOLONG : Sta Z h0 "com/example/checkpost/checkpost/protocol/Errno" "ENAMETOOLONG" "Lcom/example/checkpost/checkpost/protocol/Errno;" (.ref w_ENAMETOOLONG)) :
    MetFree l (⟨"com/example/checkpost/checkpost/protocol/ErrnoByNumberPinLaw", "expected", "(I)Lcom/example/checkpost/checkpost/protocol/Errno;"⟩ : MethodName) (head1 (Jvm.Cond.code (⟨"com/example/checkpost/checkpost/protocol/ErrnoByNumberPinLaw", "expected", "(I)Lcom/example/checkpost/checkpost/protocol/Errno;"⟩ : MethodName) method_2_code 1 (some (.object "com/example/checkpost/checkpost/protocol/Errno")) :: ws) ({ frames := 0, cells := 0, slots := 0, locals := 0 } : Room)) (fun a U => a = #[(.int ip0)] ∧ Z.Warmed39 U.vm ∧ U.heap = h0) (fun _ _ _ _ _ => True) (fun _ U o U' => ∃ v L, o = .returned v ∧ own_Q5 ip0 w_ENOENT w_EIO w_EBADF w_EACCES w_EEXIST w_ENOTDIR w_EISDIR w_EINVAL w_ENOSPC w_ENAMETOOLONG h0 n0 v U'.heap L ∧ FrameEnd U o U' L ({ frames := 0, cells := 0, slots := 0, locals := 0 } : Room).cells ({ frames := 0, cells := 0, slots := 0, locals := 0 } : Room).slots) := by
  refine MetFree.of_bodySF (plainFor_of_name own_pn3) hisR ?_
  intro p e s m args below meth c s₁ Bd hml0 hP hK
  obtain ⟨rfl, hZ, hh⟩ := hP
  have hx := Bd.exec
  have hlk := Bd.notSynchronized
  have hret := Bd.returns
  have hby := Bd.bytes
  have hml : c.maxLocals = 1 := hml0
  have hown : s.vm.findClass "com/example/checkpost/checkpost/protocol/ErrnoByNumberPinLaw" = some m.cls := findClass_of_methodNamed Bd.named
  have hnm := (name_of_methodNamed Bd.named Bd.method).1
  have X0 : Stand p l e ({ frames := 0, cells := 0, slots := 0, locals := 0 } : Room) s m #[(.int ip0)] below meth c s₁ [] 0 0 := Stand.of_body Bd
  have e0 : s₁.heap = h0 := by rw [← hh, Bd.state]; rfl
  have N0 := Fr.nil n0
  refine own_open (Q := own_Q5 ip0 w_ENOENT w_EIO w_EBADF w_EACCES w_EEXIST w_ENOTDIR w_EISDIR w_EINVAL w_ENOSPC w_ENAMETOOLONG h0 n0) (own_ef5 m ip0) ?_
  show own_Go _ _ _ _ s₁ (mkF m 0 #[.val (.int ip0)] [])
  refine own_st (fun t k => XS.iloadN X0.here hx rfl (hb hby own_d5_0) rfl k) ?_
  show own_Go _ _ _ _ s₁ (mkF m 1 #[.val (.int ip0)] [(.int ip0)])
  refine own_st (fun t k => XS.iconst X0.here hx rfl (hb hby own_d5_1) k) ?_
  show own_Go _ _ _ _ s₁ (mkF m 2 #[.val (.int ip0)] [(.int (2 : Int32)), (.int ip0)])
  by_cases hc1 : ip0 = (2 : Int32)
  · skip
    refine own_st (fun t k => XS.icmpNo X0.here hx rfl (hb hby own_d5_2) rfl (teq hc1).2 k) ?_
    show own_Go _ _ _ _ s₁ (mkF m 5 #[.val (.int ip0)] [])
    obtain ⟨T2, X2, e2, st2⟩ := getS2 X0 hx hZ hown (host := "") (Or.inl (own_w hw 65 rfl)) Via.refl e0 S_ENOENT (g := (mkF m 5 #[.val (.int ip0)] [])) rfl (hb hby own_d5_5)
    refine own_st st2 ?_
    show own_Go _ _ _ _ T2 (mkF m 8 #[.val (.int ip0)] [(.ref w_ENOENT)])
    exact own_retA X2 hx hlk hret rfl rfl (hb hby own_d5_8) (by decide) (by decide) e2 ⟨N0, rfl, (Or.inl ⟨rfl, hc1, trivial⟩)⟩
  · skip
    refine own_st (fun t k => XS.icmpYes X0.here hx rfl (pc0 := 2) (pc' := 9) rfl (hb hby own_d5_2) rfl (feq hc1).2 (by decide) (by decide) k) ?_
    show own_Go _ _ _ _ s₁ (mkF m 9 #[.val (.int ip0)] [])
    refine own_st (fun t k => XS.iloadN X0.here hx rfl (hb hby own_d5_9) rfl k) ?_
    show own_Go _ _ _ _ s₁ (mkF m 10 #[.val (.int ip0)] [(.int ip0)])
    refine own_st (fun t k => XS.iconst X0.here hx rfl (hb hby own_d5_10) k) ?_
    show own_Go _ _ _ _ s₁ (mkF m 11 #[.val (.int ip0)] [(.int (5 : Int32)), (.int ip0)])
    by_cases hc3 : ip0 = (5 : Int32)
    · skip
      refine own_st (fun t k => XS.icmpNo X0.here hx rfl (hb hby own_d5_11) rfl (teq hc3).2 k) ?_
      show own_Go _ _ _ _ s₁ (mkF m 14 #[.val (.int ip0)] [])
      obtain ⟨T4, X4, e4, st4⟩ := getS2 X0 hx hZ hown (host := "") (Or.inl (own_w hw 66 rfl)) Via.refl e0 S_EIO (g := (mkF m 14 #[.val (.int ip0)] [])) rfl (hb hby own_d5_14)
      refine own_st st4 ?_
      show own_Go _ _ _ _ T4 (mkF m 17 #[.val (.int ip0)] [(.ref w_EIO)])
      exact own_retA X4 hx hlk hret rfl rfl (hb hby own_d5_17) (by decide) (by decide) e4 ⟨N0, rfl, (Or.inr (Or.inl ⟨rfl, hc1, hc3, trivial⟩))⟩
    · skip
      refine own_st (fun t k => XS.icmpYes X0.here hx rfl (pc0 := 11) (pc' := 18) rfl (hb hby own_d5_11) rfl (feq hc3).2 (by decide) (by decide) k) ?_
      show own_Go _ _ _ _ s₁ (mkF m 18 #[.val (.int ip0)] [])
      refine own_st (fun t k => XS.iloadN X0.here hx rfl (hb hby own_d5_18) rfl k) ?_
      show own_Go _ _ _ _ s₁ (mkF m 19 #[.val (.int ip0)] [(.int ip0)])
      refine own_st (fun t k => XS.bipush X0.here hx rfl (hb hby own_d5_19) k) ?_
      show own_Go _ _ _ _ s₁ (mkF m 21 #[.val (.int ip0)] [(.int (9 : Int32)), (.int ip0)])
      by_cases hc5 : ip0 = (9 : Int32)
      · skip
        refine own_st (fun t k => XS.icmpNo X0.here hx rfl (hb hby own_d5_21) rfl (teq hc5).2 k) ?_
        show own_Go _ _ _ _ s₁ (mkF m 24 #[.val (.int ip0)] [])
        obtain ⟨T6, X6, e6, st6⟩ := getS2 X0 hx hZ hown (host := "") (Or.inl (own_w hw 67 rfl)) Via.refl e0 S_EBADF (g := (mkF m 24 #[.val (.int ip0)] [])) rfl (hb hby own_d5_24)
        refine own_st st6 ?_
        show own_Go _ _ _ _ T6 (mkF m 27 #[.val (.int ip0)] [(.ref w_EBADF)])
        exact own_retA X6 hx hlk hret rfl rfl (hb hby own_d5_27) (by decide) (by decide) e6 ⟨N0, rfl, (Or.inr (Or.inr (Or.inl ⟨rfl, hc1, hc3, hc5, trivial⟩)))⟩
      · skip
        refine own_st (fun t k => XS.icmpYes X0.here hx rfl (pc0 := 21) (pc' := 28) rfl (hb hby own_d5_21) rfl (feq hc5).2 (by decide) (by decide) k) ?_
        show own_Go _ _ _ _ s₁ (mkF m 28 #[.val (.int ip0)] [])
        refine own_st (fun t k => XS.iloadN X0.here hx rfl (hb hby own_d5_28) rfl k) ?_
        show own_Go _ _ _ _ s₁ (mkF m 29 #[.val (.int ip0)] [(.int ip0)])
        refine own_st (fun t k => XS.bipush X0.here hx rfl (hb hby own_d5_29) k) ?_
        show own_Go _ _ _ _ s₁ (mkF m 31 #[.val (.int ip0)] [(.int (13 : Int32)), (.int ip0)])
        by_cases hc7 : ip0 = (13 : Int32)
        · skip
          refine own_st (fun t k => XS.icmpNo X0.here hx rfl (hb hby own_d5_31) rfl (teq hc7).2 k) ?_
          show own_Go _ _ _ _ s₁ (mkF m 34 #[.val (.int ip0)] [])
          obtain ⟨T8, X8, e8, st8⟩ := getS2 X0 hx hZ hown (host := "") (Or.inl (own_w hw 69 rfl)) Via.refl e0 S_EACCES (g := (mkF m 34 #[.val (.int ip0)] [])) rfl (hb hby own_d5_34)
          refine own_st st8 ?_
          show own_Go _ _ _ _ T8 (mkF m 37 #[.val (.int ip0)] [(.ref w_EACCES)])
          exact own_retA X8 hx hlk hret rfl rfl (hb hby own_d5_37) (by decide) (by decide) e8 ⟨N0, rfl, (Or.inr (Or.inr (Or.inr (Or.inl ⟨rfl, hc1, hc3, hc5, hc7, trivial⟩))))⟩
        · skip
          refine own_st (fun t k => XS.icmpYes X0.here hx rfl (pc0 := 31) (pc' := 38) rfl (hb hby own_d5_31) rfl (feq hc7).2 (by decide) (by decide) k) ?_
          show own_Go _ _ _ _ s₁ (mkF m 38 #[.val (.int ip0)] [])
          refine own_st (fun t k => XS.iloadN X0.here hx rfl (hb hby own_d5_38) rfl k) ?_
          show own_Go _ _ _ _ s₁ (mkF m 39 #[.val (.int ip0)] [(.int ip0)])
          refine own_st (fun t k => XS.bipush X0.here hx rfl (hb hby own_d5_39) k) ?_
          show own_Go _ _ _ _ s₁ (mkF m 41 #[.val (.int ip0)] [(.int (17 : Int32)), (.int ip0)])
          by_cases hc9 : ip0 = (17 : Int32)
          · skip
            refine own_st (fun t k => XS.icmpNo X0.here hx rfl (hb hby own_d5_41) rfl (teq hc9).2 k) ?_
            show own_Go _ _ _ _ s₁ (mkF m 44 #[.val (.int ip0)] [])
            obtain ⟨T10, X10, e10, st10⟩ := getS2 X0 hx hZ hown (host := "") (Or.inl (own_w hw 73 rfl)) Via.refl e0 S_EEXIST (g := (mkF m 44 #[.val (.int ip0)] [])) rfl (hb hby own_d5_44)
            refine own_st st10 ?_
            show own_Go _ _ _ _ T10 (mkF m 47 #[.val (.int ip0)] [(.ref w_EEXIST)])
            exact own_retA X10 hx hlk hret rfl rfl (hb hby own_d5_47) (by decide) (by decide) e10 ⟨N0, rfl, (Or.inr (Or.inr (Or.inr (Or.inr (Or.inl ⟨rfl, hc1, hc3, hc5, hc7, hc9, trivial⟩)))))⟩
          · skip
            refine own_st (fun t k => XS.icmpYes X0.here hx rfl (pc0 := 41) (pc' := 48) rfl (hb hby own_d5_41) rfl (feq hc9).2 (by decide) (by decide) k) ?_
            show own_Go _ _ _ _ s₁ (mkF m 48 #[.val (.int ip0)] [])
            refine own_st (fun t k => XS.iloadN X0.here hx rfl (hb hby own_d5_48) rfl k) ?_
            show own_Go _ _ _ _ s₁ (mkF m 49 #[.val (.int ip0)] [(.int ip0)])
            refine own_st (fun t k => XS.bipush X0.here hx rfl (hb hby own_d5_49) k) ?_
            show own_Go _ _ _ _ s₁ (mkF m 51 #[.val (.int ip0)] [(.int (20 : Int32)), (.int ip0)])
            by_cases hc11 : ip0 = (20 : Int32)
            · skip
              refine own_st (fun t k => XS.icmpNo X0.here hx rfl (hb hby own_d5_51) rfl (teq hc11).2 k) ?_
              show own_Go _ _ _ _ s₁ (mkF m 54 #[.val (.int ip0)] [])
              obtain ⟨T12, X12, e12, st12⟩ := getS2 X0 hx hZ hown (host := "") (Or.inl (own_w hw 70 rfl)) Via.refl e0 S_ENOTDIR (g := (mkF m 54 #[.val (.int ip0)] [])) rfl (hb hby own_d5_54)
              refine own_st st12 ?_
              show own_Go _ _ _ _ T12 (mkF m 57 #[.val (.int ip0)] [(.ref w_ENOTDIR)])
              exact own_retA X12 hx hlk hret rfl rfl (hb hby own_d5_57) (by decide) (by decide) e12 ⟨N0, rfl, (Or.inr (Or.inr (Or.inr (Or.inr (Or.inr (Or.inl ⟨rfl, hc1, hc3, hc5, hc7, hc9, hc11, trivial⟩))))))⟩
            · skip
              refine own_st (fun t k => XS.icmpYes X0.here hx rfl (pc0 := 51) (pc' := 58) rfl (hb hby own_d5_51) rfl (feq hc11).2 (by decide) (by decide) k) ?_
              show own_Go _ _ _ _ s₁ (mkF m 58 #[.val (.int ip0)] [])
              refine own_st (fun t k => XS.iloadN X0.here hx rfl (hb hby own_d5_58) rfl k) ?_
              show own_Go _ _ _ _ s₁ (mkF m 59 #[.val (.int ip0)] [(.int ip0)])
              refine own_st (fun t k => XS.bipush X0.here hx rfl (hb hby own_d5_59) k) ?_
              show own_Go _ _ _ _ s₁ (mkF m 61 #[.val (.int ip0)] [(.int (21 : Int32)), (.int ip0)])
              by_cases hc13 : ip0 = (21 : Int32)
              · skip
                refine own_st (fun t k => XS.icmpNo X0.here hx rfl (hb hby own_d5_61) rfl (teq hc13).2 k) ?_
                show own_Go _ _ _ _ s₁ (mkF m 64 #[.val (.int ip0)] [])
                obtain ⟨T14, X14, e14, st14⟩ := getS2 X0 hx hZ hown (host := "") (Or.inl (own_w hw 68 rfl)) Via.refl e0 S_EISDIR (g := (mkF m 64 #[.val (.int ip0)] [])) rfl (hb hby own_d5_64)
                refine own_st st14 ?_
                show own_Go _ _ _ _ T14 (mkF m 67 #[.val (.int ip0)] [(.ref w_EISDIR)])
                exact own_retA X14 hx hlk hret rfl rfl (hb hby own_d5_67) (by decide) (by decide) e14 ⟨N0, rfl, (Or.inr (Or.inr (Or.inr (Or.inr (Or.inr (Or.inr (Or.inl ⟨rfl, hc1, hc3, hc5, hc7, hc9, hc11, hc13, trivial⟩)))))))⟩
              · skip
                refine own_st (fun t k => XS.icmpYes X0.here hx rfl (pc0 := 61) (pc' := 68) rfl (hb hby own_d5_61) rfl (feq hc13).2 (by decide) (by decide) k) ?_
                show own_Go _ _ _ _ s₁ (mkF m 68 #[.val (.int ip0)] [])
                refine own_st (fun t k => XS.iloadN X0.here hx rfl (hb hby own_d5_68) rfl k) ?_
                show own_Go _ _ _ _ s₁ (mkF m 69 #[.val (.int ip0)] [(.int ip0)])
                refine own_st (fun t k => XS.bipush X0.here hx rfl (hb hby own_d5_69) k) ?_
                show own_Go _ _ _ _ s₁ (mkF m 71 #[.val (.int ip0)] [(.int (22 : Int32)), (.int ip0)])
                by_cases hc15 : ip0 = (22 : Int32)
                · skip
                  refine own_st (fun t k => XS.icmpNo X0.here hx rfl (hb hby own_d5_71) rfl (teq hc15).2 k) ?_
                  show own_Go _ _ _ _ s₁ (mkF m 74 #[.val (.int ip0)] [])
                  obtain ⟨T16, X16, e16, st16⟩ := getS2 X0 hx hZ hown (host := "") (Or.inl (own_w hw 74 rfl)) Via.refl e0 S_EINVAL (g := (mkF m 74 #[.val (.int ip0)] [])) rfl (hb hby own_d5_74)
                  refine own_st st16 ?_
                  show own_Go _ _ _ _ T16 (mkF m 77 #[.val (.int ip0)] [(.ref w_EINVAL)])
                  exact own_retA X16 hx hlk hret rfl rfl (hb hby own_d5_77) (by decide) (by decide) e16 ⟨N0, rfl, (Or.inr (Or.inr (Or.inr (Or.inr (Or.inr (Or.inr (Or.inr (Or.inl ⟨rfl, hc1, hc3, hc5, hc7, hc9, hc11, hc13, hc15, trivial⟩))))))))⟩
                · skip
                  refine own_st (fun t k => XS.icmpYes X0.here hx rfl (pc0 := 71) (pc' := 78) rfl (hb hby own_d5_71) rfl (feq hc15).2 (by decide) (by decide) k) ?_
                  show own_Go _ _ _ _ s₁ (mkF m 78 #[.val (.int ip0)] [])
                  refine own_st (fun t k => XS.iloadN X0.here hx rfl (hb hby own_d5_78) rfl k) ?_
                  show own_Go _ _ _ _ s₁ (mkF m 79 #[.val (.int ip0)] [(.int ip0)])
                  refine own_st (fun t k => XS.bipush X0.here hx rfl (hb hby own_d5_79) k) ?_
                  show own_Go _ _ _ _ s₁ (mkF m 81 #[.val (.int ip0)] [(.int (28 : Int32)), (.int ip0)])
                  by_cases hc17 : ip0 = (28 : Int32)
                  · skip
                    refine own_st (fun t k => XS.icmpNo X0.here hx rfl (hb hby own_d5_81) rfl (teq hc17).2 k) ?_
                    show own_Go _ _ _ _ s₁ (mkF m 84 #[.val (.int ip0)] [])
                    obtain ⟨T18, X18, e18, st18⟩ := getS2 X0 hx hZ hown (host := "") (Or.inl (own_w hw 71 rfl)) Via.refl e0 S_ENOSPC (g := (mkF m 84 #[.val (.int ip0)] [])) rfl (hb hby own_d5_84)
                    refine own_st st18 ?_
                    show own_Go _ _ _ _ T18 (mkF m 87 #[.val (.int ip0)] [(.ref w_ENOSPC)])
                    exact own_retA X18 hx hlk hret rfl rfl (hb hby own_d5_87) (by decide) (by decide) e18 ⟨N0, rfl, (Or.inr (Or.inr (Or.inr (Or.inr (Or.inr (Or.inr (Or.inr (Or.inr (Or.inl ⟨rfl, hc1, hc3, hc5, hc7, hc9, hc11, hc13, hc15, hc17, trivial⟩)))))))))⟩
                  · skip
                    refine own_st (fun t k => XS.icmpYes X0.here hx rfl (pc0 := 81) (pc' := 88) rfl (hb hby own_d5_81) rfl (feq hc17).2 (by decide) (by decide) k) ?_
                    show own_Go _ _ _ _ s₁ (mkF m 88 #[.val (.int ip0)] [])
                    refine own_st (fun t k => XS.iloadN X0.here hx rfl (hb hby own_d5_88) rfl k) ?_
                    show own_Go _ _ _ _ s₁ (mkF m 89 #[.val (.int ip0)] [(.int ip0)])
                    refine own_st (fun t k => XS.bipush X0.here hx rfl (hb hby own_d5_89) k) ?_
                    show own_Go _ _ _ _ s₁ (mkF m 91 #[.val (.int ip0)] [(.int (36 : Int32)), (.int ip0)])
                    by_cases hc19 : ip0 = (36 : Int32)
                    · skip
                      refine own_st (fun t k => XS.icmpNo X0.here hx rfl (hb hby own_d5_91) rfl (teq hc19).2 k) ?_
                      show own_Go _ _ _ _ s₁ (mkF m 94 #[.val (.int ip0)] [])
                      obtain ⟨T20, X20, e20, st20⟩ := getS2 X0 hx hZ hown (host := "") (Or.inl (own_w hw 72 rfl)) Via.refl e0 S_ENAMETOOLONG (g := (mkF m 94 #[.val (.int ip0)] [])) rfl (hb hby own_d5_94)
                      refine own_st st20 ?_
                      show own_Go _ _ _ _ T20 (mkF m 97 #[.val (.int ip0)] [(.ref w_ENAMETOOLONG)])
                      exact own_retA X20 hx hlk hret rfl rfl (hb hby own_d5_97) (by decide) (by decide) e20 ⟨N0, rfl, (Or.inr (Or.inr (Or.inr (Or.inr (Or.inr (Or.inr (Or.inr (Or.inr (Or.inr (Or.inl ⟨rfl, hc1, hc3, hc5, hc7, hc9, hc11, hc13, hc15, hc17, hc19, trivial⟩))))))))))⟩
                    · skip
                      refine own_st (fun t k => XS.icmpYes X0.here hx rfl (pc0 := 91) (pc' := 98) rfl (hb hby own_d5_91) rfl (feq hc19).2 (by decide) (by decide) k) ?_
                      show own_Go _ _ _ _ s₁ (mkF m 98 #[.val (.int ip0)] [])
                      refine own_st (fun t k => XS.aconstNull X0.here hx rfl (hb hby own_d5_98) k) ?_
                      show own_Go _ _ _ _ s₁ (mkF m 99 #[.val (.int ip0)] [.null])
                      exact own_retA X0 hx hlk hret rfl rfl (hb hby own_d5_99) (by decide) (by decide) e0 ⟨N0, rfl, (Or.inr (Or.inr (Or.inr (Or.inr (Or.inr (Or.inr (Or.inr (Or.inr (Or.inr (Or.inr ⟨rfl, hc1, hc3, hc5, hc7, hc9, hc11, hc13, hc15, hc17, hc19, trivial⟩))))))))))⟩
theorem own_pd6 : parseMethodDescriptor "(I)Lcom/example/checkpost/checkpost/protocol/Errno;" = some ⟨[.int], some (.object "com/example/checkpost/checkpost/protocol/Errno")⟩ := by decide +kernel
theorem own_d4_14 : decode jdk_32_method_15_code 14 = .ok (.aload_n 1, 1) := by decide +kernel
def own_Q4_8 (Z : State) (w_EMPTY : Addr) (h0 : Heap) (n0 : Nat) (v : Option Value) (h : Heap) (L : List Loc) : Prop := Fr n0 L ∧ Keep h0 h [] ∧ ((v = some .null ∧ True))
set_option maxRecDepth 65536 in
set_option maxHeartbeats 40000000 in
theorem own_rm4_8 (l : Launch) (Z : State) (a0 : Array Value) (hw : ∀ d ∈ tables_1, d.before a0 Z = true) (ws : List Jvm.Cond) (w_EMPTY : Addr) (h0 : Heap) (n0 : Nat) (Z0 : n0 ≤ h0.size) (P0 : Fld Z h0 w_EMPTY "java/util/Optional" "value" "Ljava/lang/Object;" .null) :
    MetFree l (⟨"java/util/Optional", "orElse", "(Ljava/lang/Object;)Ljava/lang/Object;"⟩ : MethodName) (head1 (Jvm.Cond.code (⟨"java/util/Optional", "orElse", "(Ljava/lang/Object;)Ljava/lang/Object;"⟩ : MethodName) jdk_32_method_15_code 2 (some (.object "java/lang/Object")) :: ws) ({ frames := 0, cells := 0, slots := 0, locals := 0 } : Room)) (fun a U => a = #[(.ref w_EMPTY), .null] ∧ Z.Warmed39 U.vm ∧ U.heap = h0) (fun _ _ _ _ _ => True) (fun _ U o U' => ∃ v L, o = .returned v ∧ own_Q4_8 Z w_EMPTY h0 n0 v U'.heap L ∧ FrameEnd U o U' L ({ frames := 0, cells := 0, slots := 0, locals := 0 } : Room).cells ({ frames := 0, cells := 0, slots := 0, locals := 0 } : Room).slots) := by
  refine MetFree.of_bodySF (plainFor_of_name own_pn2) hisR ?_
  intro p e s m args below meth c s₁ Bd hml0 hP hK
  obtain ⟨rfl, hZ, hh⟩ := hP
  have hx := Bd.exec
  have hlk := Bd.notSynchronized
  have hret := Bd.returns
  have hby := Bd.bytes
  have hml : c.maxLocals = 2 := hml0
  have hown : s.vm.findClass "java/util/Optional" = some m.cls := findClass_of_methodNamed Bd.named
  have hnm := (name_of_methodNamed Bd.named Bd.method).1
  have X0 : Stand p l e ({ frames := 0, cells := 0, slots := 0, locals := 0 } : Room) s m #[(.ref w_EMPTY), .null] below meth c s₁ [] 0 0 := Stand.of_body Bd
  have e0 : s₁.heap = h0 := by rw [← hh, Bd.state]; rfl
  have N0 := Fr.nil n0
  refine own_open (Q := own_Q4_8 Z w_EMPTY h0 n0) (own_ef4RN m w_EMPTY) ?_
  show own_Go _ _ _ _ s₁ (mkF m 0 #[.val (.ref w_EMPTY), .val .null] [])
  refine own_st (fun t k => XS.aloadN X0.here hx rfl (hb hby own_d4_0) rfl rfl k) ?_
  show own_Go _ _ _ _ s₁ (mkF m 1 #[.val (.ref w_EMPTY), .val .null] [(.ref w_EMPTY)])
  obtain ⟨T1, X1, e1, st1⟩ := getF X0 hx hZ hown (host := "") (Or.inl (own_w hw 41 rfl)) Via.refl e0 P0 (g := (mkF m 1 #[.val (.ref w_EMPTY), .val .null] [(.ref w_EMPTY)])) rfl rfl (hb hby own_d4_1)
  refine own_st st1 ?_
  show own_Go _ _ _ _ T1 (mkF m 4 #[.val (.ref w_EMPTY), .val .null] [.null])
  refine own_st (fun t k => XS.ifnullYes X1.here hx rfl (pc0 := 4) (pc' := 14) rfl (hb hby own_d4_4) rfl (by decide) (by decide) k) ?_
  show own_Go _ _ _ _ T1 (mkF m 14 #[.val (.ref w_EMPTY), .val .null] [])
  refine own_st (fun t k => XS.aloadN X1.here hx rfl (hb hby own_d4_14) rfl rfl k) ?_
  show own_Go _ _ _ _ T1 (mkF m 15 #[.val (.ref w_EMPTY), .val .null] [.null])
  exact own_retA X1 hx hlk hret rfl rfl (hb hby own_d4_15) (by decide) (by decide) e1 ⟨N0, (Keep.refl h0 []), ⟨rfl, trivial⟩⟩
theorem own_ef0 (m : MethodId) (x0 : Int32) (x1 : Int32) : entryFrame m #[(.int x0), (.int x1)] maxLocals = mkF m 0 #[.val (.int x0), .val (.int x1), .unset, .unset] [] := by first | (simp [entryFrame, mkF, argsToLocals, Value.category, maxLocals]; done) | rfl
def own_Q0 (n0 : Nat) (v : Option Value) (h : Heap) (L : List Loc) : Prop := v = some (.int (1 : Int32)) ∧ Fr n0 L
set_option maxRecDepth 65536 in
set_option maxHeartbeats 40000000 in
theorem own_rm0 (l : Launch) (Z : State) (a0 : Array Value) (hw : ∀ d ∈ tables_1, d.before a0 Z = true) (ws : List Jvm.Cond) (ip0 : Int32) (ip1 : Int32) (w__VALUES : Addr) (w_ENOENT : Addr) (w_EIO : Addr) (w_EBADF : Addr) (w_EACCES : Addr) (w_EEXIST : Addr) (w_ENOTDIR : Addr) (w_EISDIR : Addr) (w_EINVAL : Addr) (w_ENOSPC : Addr) (w_ENAMETOOLONG : Addr) (w_EMPTY : Addr) (k_w__VALUES : ClassId) (h0 : Heap) (n0 : Nat) (Z0 : n0 ≤ h0.size) (S__VALUES : Sta Z h0 "com/example/checkpost/checkpost/protocol/Errno" "$VALUES" "[Lcom/example/checkpost/checkpost/protocol/Errno;" (.ref w__VALUES)) (E_w__VALUES : Exa Z h0 w__VALUES "[Lcom/example/checkpost/checkpost/protocol/Errno;") (S_ENOENT : Sta Z h0 "com/example/checkpost/checkpost/protocol/Errno" "ENOENT" "Lcom/example/checkpost/checkpost/protocol/Errno;" (.ref w_ENOENT)) (E_w_ENOENT : Exa Z h0 w_ENOENT "com/example/checkpost/checkpost/protocol/Errno") (S_EIO : Sta Z h0 "com/example/checkpost/checkpost/protocol/Errno" "EIO" "Lcom/example/checkpost/checkpost/protocol/Errno;" (.ref w_EIO)) (E_w_EIO : Exa Z h0 w_EIO "com/example/checkpost/checkpost/protocol/Errno") (S_EBADF : Sta Z h0 "com/example/checkpost/checkpost/protocol/Errno" "EBADF" "Lcom/example/checkpost/checkpost/protocol/Errno;" (.ref w_EBADF)) (E_w_EBADF : Exa Z h0 w_EBADF "com/example/checkpost/checkpost/protocol/Errno") (S_EACCES : Sta Z h0 "com/example/checkpost/checkpost/protocol/Errno" "EACCES" "Lcom/example/checkpost/checkpost/protocol/Errno;" (.ref w_EACCES)) (E_w_EACCES : Exa Z h0 w_EACCES "com/example/checkpost/checkpost/protocol/Errno") (S_EEXIST : Sta Z h0 "com/example/checkpost/checkpost/protocol/Errno" "EEXIST" "Lcom/example/checkpost/checkpost/protocol/Errno;" (.ref w_EEXIST)) (E_w_EEXIST : Exa Z h0 w_EEXIST "com/example/checkpost/checkpost/protocol/Errno") (S_ENOTDIR : Sta Z h0 "com/example/checkpost/checkpost/protocol/Errno" "ENOTDIR" "Lcom/example/checkpost/checkpost/protocol/Errno;" (.ref w_ENOTDIR)) (E_w_ENOTDIR : Exa Z h0 w_ENOTDIR "com/example/checkpost/checkpost/protocol/Errno") (S_EISDIR : Sta Z h0 "com/example/checkpost/checkpost/protocol/Errno" "EISDIR" "Lcom/example/checkpost/checkpost/protocol/Errno;" (.ref w_EISDIR)) (E_w_EISDIR : Exa Z h0 w_EISDIR "com/example/checkpost/checkpost/protocol/Errno") (S_EINVAL : Sta Z h0 "com/example/checkpost/checkpost/protocol/Errno" "EINVAL" "Lcom/example/checkpost/checkpost/protocol/Errno;" (.ref w_EINVAL)) (E_w_EINVAL : Exa Z h0 w_EINVAL "com/example/checkpost/checkpost/protocol/Errno") (S_ENOSPC : Sta Z h0 "com/example/checkpost/checkpost/protocol/Errno" "ENOSPC" "Lcom/example/checkpost/checkpost/protocol/Errno;" (.ref w_ENOSPC)) (E_w_ENOSPC : Exa Z h0 w_ENOSPC "com/example/checkpost/checkpost/protocol/Errno") (S_ENAMETOOLONG : Sta Z h0 "com/example/checkpost/checkpost/protocol/Errno" "ENAMETOOLONG" "Lcom/example/checkpost/checkpost/protocol/Errno;" (.ref w_ENAMETOOLONG)) (E_w_ENAMETOOLONG : Exa Z h0 w_ENAMETOOLONG "com/example/checkpost/checkpost/protocol/Errno") (S_EMPTY : Sta Z h0 "java/util/Optional" "EMPTY" "Ljava/util/Optional;" (.ref w_EMPTY)) (E_w_EMPTY : Exa Z h0 w_EMPTY "java/util/Optional") (F_number_w_ENOENT : Fld Z h0 w_ENOENT "com/example/checkpost/checkpost/protocol/Errno" "number" "I" (.int (2 : Int32))) (F_number_w_EIO : Fld Z h0 w_EIO "com/example/checkpost/checkpost/protocol/Errno" "number" "I" (.int (5 : Int32))) (F_number_w_EBADF : Fld Z h0 w_EBADF "com/example/checkpost/checkpost/protocol/Errno" "number" "I" (.int (9 : Int32))) (F_number_w_EACCES : Fld Z h0 w_EACCES "com/example/checkpost/checkpost/protocol/Errno" "number" "I" (.int (13 : Int32))) (F_number_w_EEXIST : Fld Z h0 w_EEXIST "com/example/checkpost/checkpost/protocol/Errno" "number" "I" (.int (17 : Int32))) (F_number_w_ENOTDIR : Fld Z h0 w_ENOTDIR "com/example/checkpost/checkpost/protocol/Errno" "number" "I" (.int (20 : Int32))) (F_number_w_EISDIR : Fld Z h0 w_EISDIR "com/example/checkpost/checkpost/protocol/Errno" "number" "I" (.int (21 : Int32))) (F_number_w_EINVAL : Fld Z h0 w_EINVAL "com/example/checkpost/checkpost/protocol/Errno" "number" "I" (.int (22 : Int32))) (F_number_w_ENOSPC : Fld Z h0 w_ENOSPC "com/example/checkpost/checkpost/protocol/Errno" "number" "I" (.int (28 : Int32))) (F_number_w_ENAMETOOLONG : Fld Z h0 w_ENAMETOOLONG "com/example/checkpost/checkpost/protocol/Errno" "number" "I" (.int (36 : Int32))) (F_value_w_EMPTY : Fld Z h0 w_EMPTY "java/util/Optional" "value" "Ljava/lang/Object;" .null) (V_w__VALUES : Arv Z h0 w__VALUES k_w__VALUES (.object "com/example/checkpost/checkpost/protocol/Errno") (10 : Int32) [(.ref w_ENOENT), (.ref w_EIO), (.ref w_EBADF), (.ref w_EACCES), (.ref w_EEXIST), (.ref w_ENOTDIR), (.ref w_EISDIR), (.ref w_EINVAL), (.ref w_ENOSPC), (.ref w_ENAMETOOLONG)] .null) :
    MetFree l x (head1 (Jvm.Cond.code x code maxLocals ret :: ws) room_1) (fun a U => a = #[(.int ip0), (.int ip1)] ∧ Z.Warmed39 U.vm ∧ U.heap = h0) (fun _ _ _ _ _ => True) (fun _ U o U' => ∃ v L, o = .returned v ∧ own_Q0 n0 v U'.heap L ∧ FrameEnd U o U' L room_1.cells room_1.slots) := by
  refine MetFree.of_bodySF (plainFor_of_name own_pn3) hisR ?_
  intro p e s m args below meth c s₁ Bd hml0 hP hK
  obtain ⟨rfl, hZ, hh⟩ := hP
  have hx := Bd.exec
  have hlk := Bd.notSynchronized
  have hret := Bd.returns
  have hby := Bd.bytes
  have hml : c.maxLocals = 4 := hml0
  have hown : s.vm.findClass "com/example/checkpost/checkpost/protocol/ErrnoByNumberPinLaw" = some m.cls := findClass_of_methodNamed Bd.named
  have hnm := (name_of_methodNamed Bd.named Bd.method).1
  have X0 : Stand p l e room_1 s m #[(.int ip0), (.int ip1)] below meth c s₁ [] 0 0 := Stand.of_body Bd
  have e0 : s₁.heap = h0 := by rw [← hh, Bd.state]; rfl
  have N0 := Fr.nil n0
  refine own_open (Q := own_Q0 n0) (own_ef0 m ip0 ip1) ?_
  show own_Go _ _ _ _ s₁ (mkF m 0 #[.val (.int ip0), .val (.int ip1), .unset, .unset] [])
  refine own_st (fun t k => XS.iloadN X0.here hx rfl (hb hby at_0) rfl k) ?_
  show own_Go _ _ _ _ s₁ (mkF m 1 #[.val (.int ip0), .val (.int ip1), .unset, .unset] [(.int ip1)])
  refine own_st (fun t k => XS.iconst X0.here hx rfl (hb hby at_1) k) ?_
  show own_Go _ _ _ _ s₁ (mkF m 2 #[.val (.int ip0), .val (.int ip1), .unset, .unset] [(.int (1 : Int32)), (.int ip1)])
  refine own_st (fun t k => XS.iand X0.here hx rfl (hb hby at_2) rfl k) ?_
  show own_Go _ _ _ _ s₁ (mkF m 3 #[.val (.int ip0), .val (.int ip1), .unset, .unset] [(.int (ip1 &&& (1 : Int32)))])
  by_cases hc1 : (ip1 &&& (1 : Int32)) = (0 : Int32)
  · skip
    refine own_st (fun t k => XS.ifNo X0.here hx rfl (hb hby at_3) rfl ((if0 _ _).trans (teq hc1).2) k) ?_
    show own_Go _ _ _ _ s₁ (mkF m 6 #[.val (.int ip0), .val (.int ip1), .unset, .unset] [])
    refine own_st (fun t k => XS.iloadN X0.here hx rfl (hb hby at_6) rfl k) ?_
    show own_Go _ _ _ _ s₁ (mkF m 7 #[.val (.int ip0), .val (.int ip1), .unset, .unset] [(.int ip0)])
    refine own_st (fun t k => XS.goto X0.here hx rfl (pc0 := 7) (pc' := 14) rfl (hb hby at_7) (by decide) (by decide) k) ?_
    show own_Go _ _ _ _ s₁ (mkF m 14 #[.val (.int ip0), .val (.int ip1), .unset, .unset] [(.int ip0)])
    refine own_st (fun t k => XS.istoreN X0.here hx rfl (hb hby at_14) rfl (l' := #[.val (.int ip0), .val (.int ip1), .val (.int ip0), .unset]) rfl k) ?_
    show own_Go _ _ _ _ s₁ (mkF m 15 #[.val (.int ip0), .val (.int ip1), .val (.int ip0), .unset] [])
    refine own_st (fun t k => XS.iloadN X0.here hx rfl (hb hby at_15) rfl k) ?_
    show own_Go _ _ _ _ s₁ (mkF m 16 #[.val (.int ip0), .val (.int ip1), .val (.int ip0), .unset] [(.int ip0)])
    obtain ⟨_, _, ⟨T2, L2, k2, n2⟩, -, X2, ⟨Lc2, hQ2, l2, y2, z2⟩, st2⟩ := Jvm.LawKit.callS X0 hx (y := (⟨"com/example/checkpost/checkpost/protocol/Errno", "byNumber", "(I)Ljava/util/Optional;"⟩ : MethodName)) hown (mvT hZ (own_w hw 0 rfl)) (mvT hZ (own_w hw 1 rfl)) (mvT hZ (own_w hw 2 rfl)) (mvT hZ (own_w hw 3 rfl)) (by decide) (backOf (W := 0) (own_rm1_1 l Z a0 hw [] ip0 w__VALUES k_w__VALUES w_ENOENT w_EIO w_EBADF w_EACCES w_EEXIST w_ENOTDIR w_EISDIR w_EINVAL w_ENOSPC w_ENAMETOOLONG w_EMPTY h0 n0 Z0 S__VALUES V_w__VALUES E_w__VALUES F_number_w_ENOENT F_number_w_EIO F_number_w_EBADF F_number_w_EACCES F_number_w_EEXIST F_number_w_ENOTDIR F_number_w_EISDIR F_number_w_EINVAL F_number_w_ENOSPC F_number_w_ENAMETOOLONG S_EMPTY) hZ (own_w hw 3 rfl) (own_w hw 2 rfl) (by decide) (by decide)) (g := (mkF m 16 #[.val (.int ip0), .val (.int ip1), .val (.int ip0), .unset] [(.int ip0)])) rfl (by rw [hml]; rfl) (argsL := [(.int ip0)]) (rest := []) (lenOf own_pd5 rfl) rfl (by show 2 * 0 + _ ≤ _; exact Nat.le_of_eq rfl) (hb hby at_16) (fun _ _ => ⟨rfl, e0, (by decide : 0 + 2 ≤ _), (by decide : 0 + 11 ≤ _)⟩)
    dsimp only [Pt.U, Pt.locs, Pt.cells, Pt.slots] at X2 l2 y2 z2 st2 hQ2
    subst l2 y2 z2
    obtain ⟨N2q, Kq2, hL2⟩ := hQ2
    have N2 := Fr.app N0 N2q
    have K2 : Keep h0 T2.heap [] := (Keep.refl h0 []).trans Kq2 all0
    have Z2 := Nat.le_trans Z0 Kq2.1
    rcases hL2 with ⟨b1x6_3c5c2, rfl, hq2_0_0, sq_b1x6_3c5c2, Fc2_0_0, Fc2_0_1, -⟩ | ⟨b1x6_3c9c2, rfl, hq2_1_0, hq2_1_1, sq_b1x6_3c9c2, Fc2_1_0, Fc2_1_1, -⟩ | ⟨b1x6_3c13c2, rfl, hq2_2_0, hq2_2_1, hq2_2_2, sq_b1x6_3c13c2, Fc2_2_0, Fc2_2_1, -⟩ | ⟨b1x6_3c17c2, rfl, hq2_3_0, hq2_3_1, hq2_3_2, hq2_3_3, sq_b1x6_3c17c2, Fc2_3_0, Fc2_3_1, -⟩ | ⟨b1x6_3c21c2, rfl, hq2_4_0, hq2_4_1, hq2_4_2, hq2_4_3, hq2_4_4, sq_b1x6_3c21c2, Fc2_4_0, Fc2_4_1, -⟩ | ⟨b1x6_3c25c2, rfl, hq2_5_0, hq2_5_1, hq2_5_2, hq2_5_3, hq2_5_4, hq2_5_5, sq_b1x6_3c25c2, Fc2_5_0, Fc2_5_1, -⟩ | ⟨b1x6_3c29c2, rfl, hq2_6_0, hq2_6_1, hq2_6_2, hq2_6_3, hq2_6_4, hq2_6_5, hq2_6_6, sq_b1x6_3c29c2, Fc2_6_0, Fc2_6_1, -⟩ | ⟨b1x6_3c33c2, rfl, hq2_7_0, hq2_7_1, hq2_7_2, hq2_7_3, hq2_7_4, hq2_7_5, hq2_7_6, hq2_7_7, sq_b1x6_3c33c2, Fc2_7_0, Fc2_7_1, -⟩ | ⟨b1x6_3c37c2, rfl, hq2_8_0, hq2_8_1, hq2_8_2, hq2_8_3, hq2_8_4, hq2_8_5, hq2_8_6, hq2_8_7, hq2_8_8, sq_b1x6_3c37c2, Fc2_8_0, Fc2_8_1, -⟩ | ⟨b1x6_3c41c2, rfl, hq2_9_0, hq2_9_1, hq2_9_2, hq2_9_3, hq2_9_4, hq2_9_5, hq2_9_6, hq2_9_7, hq2_9_8, hq2_9_9, sq_b1x6_3c41c2, Fc2_9_0, Fc2_9_1, -⟩ | ⟨rfl, hq2_10_0, hq2_10_1, hq2_10_2, hq2_10_3, hq2_10_4, hq2_10_5, hq2_10_6, hq2_10_7, hq2_10_8, hq2_10_9, -⟩
    · skip
      have g_b1x6_3c5c2 : n0 ≤ b1x6_3c5c2 := Nat.le_trans Z0 sq_b1x6_3c5c2
      have sz_b1x6_3c5c2 : h0.size ≤ b1x6_3c5c2 := Nat.le_trans (Keep.refl h0 []).1 sq_b1x6_3c5c2
      refine own_st st2 ?_
      show own_Go _ _ _ _ T2 (mkF m 19 #[.val (.int ip0), .val (.int ip1), .val (.int ip0), .unset] [(.ref b1x6_3c5c2)])
      refine own_st (fun t k => XS.aconstNull X2.here hx rfl (hb hby at_19) k) ?_
      show own_Go _ _ _ _ T2 (mkF m 20 #[.val (.int ip0), .val (.int ip1), .val (.int ip0), .unset] [.null, (.ref b1x6_3c5c2)])
      obtain ⟨cq3, kq3, q3a, q3b, q3c⟩ := isOf hZ rfl Fc2_0_0
      obtain ⟨_, _, ⟨T3, L3, k3, n3⟩, -, X3, ⟨Lc3, hQ3, l3, y3, z3⟩, st3⟩ := X2.virtualBack hx (y := (⟨"java/util/Optional", "orElse", "(Ljava/lang/Object;)Ljava/lang/Object;"⟩ : MethodName)) (z := (⟨"java/util/Optional", "orElse", "(Ljava/lang/Object;)Ljava/lang/Object;"⟩ : MethodName)) hown (mvT hZ (own_w hw 36 rfl)) (mvT hZ (own_w hw 37 rfl)) (notFace_of_selects (args := #[]) (mvT hZ (own_w hw 39 rfl))) (mvT hZ (own_w hw 39 rfl)) (mvT hZ (own_w hw 38 rfl)) (by decide) (backOf (W := 0) (own_rm4_7 l Z a0 hw [] b1x6_3c5c2 w_ENOENT T2.heap n0 Z2 Fc2_0_1) hZ (own_w hw 40 rfl) (own_w hw 33 rfl) (by decide) (by decide)) q3a q3c (g := (mkF m 20 #[.val (.int ip0), .val (.int ip1), .val (.int ip0), .unset] [.null, (.ref b1x6_3c5c2)])) rfl (by rw [hml]; rfl) (Steps.refl _) (argsL := [.null]) (rest := []) (lenOf own_pd1 rfl) rfl (by show 2 * 0 + _ ≤ _; exact Nat.le_of_eq rfl) (hb hby at_20) (fun _ _ => ⟨rfl, rfl, (by decide : 2 + 0 ≤ _), (by decide : 11 + 0 ≤ _)⟩)
      dsimp only [Pt.U, Pt.locs, Pt.cells, Pt.slots] at X3 l3 y3 z3 st3 hQ3
      subst l3 y3 z3
      obtain ⟨N3q, Kq3, hL3⟩ := hQ3
      have N3 := Fr.app N2 N3q
      have K3 : Keep h0 T3.heap [] := K2.trans Kq3 all0
      have Z3 := Nat.le_trans Z2 Kq3.1
      rcases hL3 with ⟨rfl, -⟩
      · skip
        refine own_st (fun t k => st3.trans k) ?_
        show own_Go _ _ _ _ T3 (mkF m 23 #[.val (.int ip0), .val (.int ip1), .val (.int ip0), .unset] [(.ref w_ENOENT)])
        have f4 := (E_w_ENOENT.keep K3)
        obtain ⟨T5, X5, e5, st5⟩ := castY X3 hx hZ hown (own_w hw 63 rfl) rfl (Ins.self f4) (g := (mkF m 23 #[.val (.int ip0), .val (.int ip1), .val (.int ip0), .unset] [(.ref w_ENOENT)])) rfl rfl (hb hby at_23)
        refine own_st st5 ?_
        show own_Go _ _ _ _ T5 (mkF m 26 #[.val (.int ip0), .val (.int ip1), .val (.int ip0), .unset] [(.ref w_ENOENT)])
        refine own_st (fun t k => XS.astoreN X5.here hx rfl (hb hby at_26) rfl rfl (l' := #[.val (.int ip0), .val (.int ip1), .val (.int ip0), .val (.ref w_ENOENT)]) rfl k) ?_
        show own_Go _ _ _ _ T5 (mkF m 27 #[.val (.int ip0), .val (.int ip1), .val (.int ip0), .val (.ref w_ENOENT)] [])
        refine own_st (fun t k => XS.aloadN X5.here hx rfl (hb hby at_27) rfl rfl k) ?_
        show own_Go _ _ _ _ T5 (mkF m 28 #[.val (.int ip0), .val (.int ip1), .val (.int ip0), .val (.ref w_ENOENT)] [(.ref w_ENOENT)])
        refine own_st (fun t k => XS.iloadN X5.here hx rfl (hb hby at_28) rfl k) ?_
        show own_Go _ _ _ _ T5 (mkF m 29 #[.val (.int ip0), .val (.int ip1), .val (.int ip0), .val (.ref w_ENOENT)] [(.int ip0), (.ref w_ENOENT)])
        have f6 := (own_stak S_ENOENT K3 all0)
        have f7 := (own_stak S_EIO K3 all0)
        have f8 := (own_stak S_EBADF K3 all0)
        have f9 := (own_stak S_EACCES K3 all0)
        have f10 := (own_stak S_EEXIST K3 all0)
        have f11 := (own_stak S_ENOTDIR K3 all0)
        have f12 := (own_stak S_EISDIR K3 all0)
        have f13 := (own_stak S_EINVAL K3 all0)
        have f14 := (own_stak S_ENOSPC K3 all0)
        have f15 := (own_stak S_ENAMETOOLONG K3 all0)
        obtain ⟨_, _, ⟨T16, L16, k16, n16⟩, -, X16, ⟨Lc16, hQ16, l16, y16, z16⟩, st16⟩ := Jvm.LawKit.callS X5 hx (y := (⟨"com/example/checkpost/checkpost/protocol/ErrnoByNumberPinLaw", "expected", "(I)Lcom/example/checkpost/checkpost/protocol/Errno;"⟩ : MethodName)) hown (mvT hZ (own_w hw 43 rfl)) (mvT hZ (own_w hw 44 rfl)) (mvT hZ (own_w hw 45 rfl)) (mvT hZ (own_w hw 46 rfl)) (by decide) (backOf (W := 1) (own_rm5 l Z a0 hw [] ip0 w_ENOENT w_EIO w_EBADF w_EACCES w_EEXIST w_ENOTDIR w_EISDIR w_EINVAL w_ENOSPC w_ENAMETOOLONG T3.heap n0 Z3 f6 f7 f8 f9 f10 f11 f12 f13 f14 f15) hZ (own_w hw 46 rfl) (own_w hw 45 rfl) (by decide) (by decide)) (g := (mkF m 29 #[.val (.int ip0), .val (.int ip1), .val (.int ip0), .val (.ref w_ENOENT)] [(.int ip0), (.ref w_ENOENT)])) rfl (by rw [hml]; rfl) (argsL := [(.int ip0)]) (rest := [(.ref w_ENOENT)]) (lenOf own_pd6 rfl) rfl (by show 2 * 0 + _ ≤ _; exact Nat.le_of_eq rfl) (hb hby at_29) (fun _ _ => ⟨rfl, e5, (by decide : 2 + 0 ≤ _), (by decide : 11 + 0 ≤ _)⟩)
        dsimp only [Pt.U, Pt.locs, Pt.cells, Pt.slots] at X16 l16 y16 z16 st16 hQ16
        subst l16 y16 z16
        obtain ⟨N16q, e16, hL16⟩ := hQ16
        have N16 := Fr.app N3 N16q
        rcases hL16 with ⟨rfl, hq16_0_0, -⟩ | ⟨rfl, hq16_1_0, hq16_1_1, -⟩ | ⟨rfl, hq16_2_0, hq16_2_1, hq16_2_2, -⟩ | ⟨rfl, hq16_3_0, hq16_3_1, hq16_3_2, hq16_3_3, -⟩ | ⟨rfl, hq16_4_0, hq16_4_1, hq16_4_2, hq16_4_3, hq16_4_4, -⟩ | ⟨rfl, hq16_5_0, hq16_5_1, hq16_5_2, hq16_5_3, hq16_5_4, hq16_5_5, -⟩ | ⟨rfl, hq16_6_0, hq16_6_1, hq16_6_2, hq16_6_3, hq16_6_4, hq16_6_5, hq16_6_6, -⟩ | ⟨rfl, hq16_7_0, hq16_7_1, hq16_7_2, hq16_7_3, hq16_7_4, hq16_7_5, hq16_7_6, hq16_7_7, -⟩ | ⟨rfl, hq16_8_0, hq16_8_1, hq16_8_2, hq16_8_3, hq16_8_4, hq16_8_5, hq16_8_6, hq16_8_7, hq16_8_8, -⟩ | ⟨rfl, hq16_9_0, hq16_9_1, hq16_9_2, hq16_9_3, hq16_9_4, hq16_9_5, hq16_9_6, hq16_9_7, hq16_9_8, hq16_9_9, -⟩ | ⟨rfl, hq16_10_0, hq16_10_1, hq16_10_2, hq16_10_3, hq16_10_4, hq16_10_5, hq16_10_6, hq16_10_7, hq16_10_8, hq16_10_9, -⟩
        · skip
          refine own_st st16 ?_
          show own_Go _ _ _ _ T16 (mkF m 32 #[.val (.int ip0), .val (.int ip1), .val (.int ip0), .val (.ref w_ENOENT)] [(.ref w_ENOENT), (.ref w_ENOENT)])
          refine own_st (fun t k => Jvm.RoadKit.acmp (g := (mkF m 32 #[.val (.int ip0), .val (.int ip1), .val (.int ip0), .val (.ref w_ENOENT)] [(.ref w_ENOENT), (.ref w_ENOENT)])) X16 hx rfl rfl rfl (pc0 := 32) (pc' := 35) (same := true) rfl (hb hby at_32) rfl (decide_eq_true (congrArg Value.ref (rfl : w_ENOENT = w_ENOENT))) (by decide) (by decide) k) ?_
          show own_Go _ _ _ _ T16 (mkF m 35 #[.val (.int ip0), .val (.int ip1), .val (.int ip0), .val (.ref w_ENOENT)] [])
          refine own_st (fun t k => XS.iconst X16.here hx rfl (hb hby at_35) k) ?_
          show own_Go _ _ _ _ T16 (mkF m 36 #[.val (.int ip0), .val (.int ip1), .val (.int ip0), .val (.ref w_ENOENT)] [(.int (1 : Int32))])
          refine own_st (fun t k => XS.goto X16.here hx rfl (pc0 := 36) (pc' := 40) rfl (hb hby at_36) (by decide) (by decide) k) ?_
          show own_Go _ _ _ _ T16 (mkF m 40 #[.val (.int ip0), .val (.int ip1), .val (.int ip0), .val (.ref w_ENOENT)] [(.int (1 : Int32))])
          exact own_retZ X16 hx hlk (t := .boolean) hret (by simp) (hb hby at_40) (by decide) (by decide) e16 ⟨rfl, N16⟩
        · skip
          exact absurd (Eq.symm hq2_0_0) hq16_1_0
        · skip
          exact absurd (Eq.symm hq2_0_0) hq16_2_0
        · skip
          exact absurd (Eq.symm hq2_0_0) hq16_3_0
        · skip
          exact absurd (Eq.symm hq2_0_0) hq16_4_0
        · skip
          exact absurd (Eq.symm hq2_0_0) hq16_5_0
        · skip
          exact absurd (Eq.symm hq2_0_0) hq16_6_0
        · skip
          exact absurd (Eq.symm hq2_0_0) hq16_7_0
        · skip
          exact absurd (Eq.symm hq2_0_0) hq16_8_0
        · skip
          exact absurd (Eq.symm hq2_0_0) hq16_9_0
        · skip
          exact absurd (Eq.symm hq2_0_0) hq16_10_0
    · skip
      have g_b1x6_3c9c2 : n0 ≤ b1x6_3c9c2 := Nat.le_trans Z0 sq_b1x6_3c9c2
      have sz_b1x6_3c9c2 : h0.size ≤ b1x6_3c9c2 := Nat.le_trans (Keep.refl h0 []).1 sq_b1x6_3c9c2
      refine own_st st2 ?_
      show own_Go _ _ _ _ T2 (mkF m 19 #[.val (.int ip0), .val (.int ip1), .val (.int ip0), .unset] [(.ref b1x6_3c9c2)])
      refine own_st (fun t k => XS.aconstNull X2.here hx rfl (hb hby at_19) k) ?_
      show own_Go _ _ _ _ T2 (mkF m 20 #[.val (.int ip0), .val (.int ip1), .val (.int ip0), .unset] [.null, (.ref b1x6_3c9c2)])
      obtain ⟨cq17, kq17, q17a, q17b, q17c⟩ := isOf hZ rfl Fc2_1_0
      obtain ⟨_, _, ⟨T17, L17, k17, n17⟩, -, X17, ⟨Lc17, hQ17, l17, y17, z17⟩, st17⟩ := X2.virtualBack hx (y := (⟨"java/util/Optional", "orElse", "(Ljava/lang/Object;)Ljava/lang/Object;"⟩ : MethodName)) (z := (⟨"java/util/Optional", "orElse", "(Ljava/lang/Object;)Ljava/lang/Object;"⟩ : MethodName)) hown (mvT hZ (own_w hw 36 rfl)) (mvT hZ (own_w hw 37 rfl)) (notFace_of_selects (args := #[]) (mvT hZ (own_w hw 39 rfl))) (mvT hZ (own_w hw 39 rfl)) (mvT hZ (own_w hw 38 rfl)) (by decide) (backOf (W := 0) (own_rm4_7 l Z a0 hw [] b1x6_3c9c2 w_EIO T2.heap n0 Z2 Fc2_1_1) hZ (own_w hw 40 rfl) (own_w hw 33 rfl) (by decide) (by decide)) q17a q17c (g := (mkF m 20 #[.val (.int ip0), .val (.int ip1), .val (.int ip0), .unset] [.null, (.ref b1x6_3c9c2)])) rfl (by rw [hml]; rfl) (Steps.refl _) (argsL := [.null]) (rest := []) (lenOf own_pd1 rfl) rfl (by show 2 * 0 + _ ≤ _; exact Nat.le_of_eq rfl) (hb hby at_20) (fun _ _ => ⟨rfl, rfl, (by decide : 2 + 0 ≤ _), (by decide : 11 + 0 ≤ _)⟩)
      dsimp only [Pt.U, Pt.locs, Pt.cells, Pt.slots] at X17 l17 y17 z17 st17 hQ17
      subst l17 y17 z17
      obtain ⟨N17q, Kq17, hL17⟩ := hQ17
      have N17 := Fr.app N2 N17q
      have K17 : Keep h0 T17.heap [] := K2.trans Kq17 all0
      have Z17 := Nat.le_trans Z2 Kq17.1
      rcases hL17 with ⟨rfl, -⟩
      · skip
        refine own_st (fun t k => st17.trans k) ?_
        show own_Go _ _ _ _ T17 (mkF m 23 #[.val (.int ip0), .val (.int ip1), .val (.int ip0), .unset] [(.ref w_EIO)])
        have f18 := (E_w_EIO.keep K17)
        obtain ⟨T19, X19, e19, st19⟩ := castY X17 hx hZ hown (own_w hw 63 rfl) rfl (Ins.self f18) (g := (mkF m 23 #[.val (.int ip0), .val (.int ip1), .val (.int ip0), .unset] [(.ref w_EIO)])) rfl rfl (hb hby at_23)
        refine own_st st19 ?_
        show own_Go _ _ _ _ T19 (mkF m 26 #[.val (.int ip0), .val (.int ip1), .val (.int ip0), .unset] [(.ref w_EIO)])
        refine own_st (fun t k => XS.astoreN X19.here hx rfl (hb hby at_26) rfl rfl (l' := #[.val (.int ip0), .val (.int ip1), .val (.int ip0), .val (.ref w_EIO)]) rfl k) ?_
        show own_Go _ _ _ _ T19 (mkF m 27 #[.val (.int ip0), .val (.int ip1), .val (.int ip0), .val (.ref w_EIO)] [])
        refine own_st (fun t k => XS.aloadN X19.here hx rfl (hb hby at_27) rfl rfl k) ?_
        show own_Go _ _ _ _ T19 (mkF m 28 #[.val (.int ip0), .val (.int ip1), .val (.int ip0), .val (.ref w_EIO)] [(.ref w_EIO)])
        refine own_st (fun t k => XS.iloadN X19.here hx rfl (hb hby at_28) rfl k) ?_
        show own_Go _ _ _ _ T19 (mkF m 29 #[.val (.int ip0), .val (.int ip1), .val (.int ip0), .val (.ref w_EIO)] [(.int ip0), (.ref w_EIO)])
        have f20 := (own_stak S_ENOENT K17 all0)
        have f21 := (own_stak S_EIO K17 all0)
        have f22 := (own_stak S_EBADF K17 all0)
        have f23 := (own_stak S_EACCES K17 all0)
        have f24 := (own_stak S_EEXIST K17 all0)
        have f25 := (own_stak S_ENOTDIR K17 all0)
        have f26 := (own_stak S_EISDIR K17 all0)
        have f27 := (own_stak S_EINVAL K17 all0)
        have f28 := (own_stak S_ENOSPC K17 all0)
        have f29 := (own_stak S_ENAMETOOLONG K17 all0)
        obtain ⟨_, _, ⟨T30, L30, k30, n30⟩, -, X30, ⟨Lc30, hQ30, l30, y30, z30⟩, st30⟩ := Jvm.LawKit.callS X19 hx (y := (⟨"com/example/checkpost/checkpost/protocol/ErrnoByNumberPinLaw", "expected", "(I)Lcom/example/checkpost/checkpost/protocol/Errno;"⟩ : MethodName)) hown (mvT hZ (own_w hw 43 rfl)) (mvT hZ (own_w hw 44 rfl)) (mvT hZ (own_w hw 45 rfl)) (mvT hZ (own_w hw 46 rfl)) (by decide) (backOf (W := 1) (own_rm5 l Z a0 hw [] ip0 w_ENOENT w_EIO w_EBADF w_EACCES w_EEXIST w_ENOTDIR w_EISDIR w_EINVAL w_ENOSPC w_ENAMETOOLONG T17.heap n0 Z17 f20 f21 f22 f23 f24 f25 f26 f27 f28 f29) hZ (own_w hw 46 rfl) (own_w hw 45 rfl) (by decide) (by decide)) (g := (mkF m 29 #[.val (.int ip0), .val (.int ip1), .val (.int ip0), .val (.ref w_EIO)] [(.int ip0), (.ref w_EIO)])) rfl (by rw [hml]; rfl) (argsL := [(.int ip0)]) (rest := [(.ref w_EIO)]) (lenOf own_pd6 rfl) rfl (by show 2 * 0 + _ ≤ _; exact Nat.le_of_eq rfl) (hb hby at_29) (fun _ _ => ⟨rfl, e19, (by decide : 2 + 0 ≤ _), (by decide : 11 + 0 ≤ _)⟩)
        dsimp only [Pt.U, Pt.locs, Pt.cells, Pt.slots] at X30 l30 y30 z30 st30 hQ30
        subst l30 y30 z30
        obtain ⟨N30q, e30, hL30⟩ := hQ30
        have N30 := Fr.app N17 N30q
        rcases hL30 with ⟨rfl, hq30_0_0, -⟩ | ⟨rfl, hq30_1_0, hq30_1_1, -⟩ | ⟨rfl, hq30_2_0, hq30_2_1, hq30_2_2, -⟩ | ⟨rfl, hq30_3_0, hq30_3_1, hq30_3_2, hq30_3_3, -⟩ | ⟨rfl, hq30_4_0, hq30_4_1, hq30_4_2, hq30_4_3, hq30_4_4, -⟩ | ⟨rfl, hq30_5_0, hq30_5_1, hq30_5_2, hq30_5_3, hq30_5_4, hq30_5_5, -⟩ | ⟨rfl, hq30_6_0, hq30_6_1, hq30_6_2, hq30_6_3, hq30_6_4, hq30_6_5, hq30_6_6, -⟩ | ⟨rfl, hq30_7_0, hq30_7_1, hq30_7_2, hq30_7_3, hq30_7_4, hq30_7_5, hq30_7_6, hq30_7_7, -⟩ | ⟨rfl, hq30_8_0, hq30_8_1, hq30_8_2, hq30_8_3, hq30_8_4, hq30_8_5, hq30_8_6, hq30_8_7, hq30_8_8, -⟩ | ⟨rfl, hq30_9_0, hq30_9_1, hq30_9_2, hq30_9_3, hq30_9_4, hq30_9_5, hq30_9_6, hq30_9_7, hq30_9_8, hq30_9_9, -⟩ | ⟨rfl, hq30_10_0, hq30_10_1, hq30_10_2, hq30_10_3, hq30_10_4, hq30_10_5, hq30_10_6, hq30_10_7, hq30_10_8, hq30_10_9, -⟩
        · skip
          exact absurd hq30_0_0 (Ne.symm hq2_1_0)
        · skip
          refine own_st st30 ?_
          show own_Go _ _ _ _ T30 (mkF m 32 #[.val (.int ip0), .val (.int ip1), .val (.int ip0), .val (.ref w_EIO)] [(.ref w_EIO), (.ref w_EIO)])
          refine own_st (fun t k => Jvm.RoadKit.acmp (g := (mkF m 32 #[.val (.int ip0), .val (.int ip1), .val (.int ip0), .val (.ref w_EIO)] [(.ref w_EIO), (.ref w_EIO)])) X30 hx rfl rfl rfl (pc0 := 32) (pc' := 35) (same := true) rfl (hb hby at_32) rfl (decide_eq_true (congrArg Value.ref (rfl : w_EIO = w_EIO))) (by decide) (by decide) k) ?_
          show own_Go _ _ _ _ T30 (mkF m 35 #[.val (.int ip0), .val (.int ip1), .val (.int ip0), .val (.ref w_EIO)] [])
          refine own_st (fun t k => XS.iconst X30.here hx rfl (hb hby at_35) k) ?_
          show own_Go _ _ _ _ T30 (mkF m 36 #[.val (.int ip0), .val (.int ip1), .val (.int ip0), .val (.ref w_EIO)] [(.int (1 : Int32))])
          refine own_st (fun t k => XS.goto X30.here hx rfl (pc0 := 36) (pc' := 40) rfl (hb hby at_36) (by decide) (by decide) k) ?_
          show own_Go _ _ _ _ T30 (mkF m 40 #[.val (.int ip0), .val (.int ip1), .val (.int ip0), .val (.ref w_EIO)] [(.int (1 : Int32))])
          exact own_retZ X30 hx hlk (t := .boolean) hret (by simp) (hb hby at_40) (by decide) (by decide) e30 ⟨rfl, N30⟩
        · skip
          exact absurd (Eq.symm hq2_1_1) hq30_2_1
        · skip
          exact absurd (Eq.symm hq2_1_1) hq30_3_1
        · skip
          exact absurd (Eq.symm hq2_1_1) hq30_4_1
        · skip
          exact absurd (Eq.symm hq2_1_1) hq30_5_1
        · skip
          exact absurd (Eq.symm hq2_1_1) hq30_6_1
        · skip
          exact absurd (Eq.symm hq2_1_1) hq30_7_1
        · skip
          exact absurd (Eq.symm hq2_1_1) hq30_8_1
        · skip
          exact absurd (Eq.symm hq2_1_1) hq30_9_1
        · skip
          exact absurd (Eq.symm hq2_1_1) hq30_10_1
    · skip
      have g_b1x6_3c13c2 : n0 ≤ b1x6_3c13c2 := Nat.le_trans Z0 sq_b1x6_3c13c2
      have sz_b1x6_3c13c2 : h0.size ≤ b1x6_3c13c2 := Nat.le_trans (Keep.refl h0 []).1 sq_b1x6_3c13c2
      refine own_st st2 ?_
      show own_Go _ _ _ _ T2 (mkF m 19 #[.val (.int ip0), .val (.int ip1), .val (.int ip0), .unset] [(.ref b1x6_3c13c2)])
      refine own_st (fun t k => XS.aconstNull X2.here hx rfl (hb hby at_19) k) ?_
      show own_Go _ _ _ _ T2 (mkF m 20 #[.val (.int ip0), .val (.int ip1), .val (.int ip0), .unset] [.null, (.ref b1x6_3c13c2)])
      obtain ⟨cq31, kq31, q31a, q31b, q31c⟩ := isOf hZ rfl Fc2_2_0
      obtain ⟨_, _, ⟨T31, L31, k31, n31⟩, -, X31, ⟨Lc31, hQ31, l31, y31, z31⟩, st31⟩ := X2.virtualBack hx (y := (⟨"java/util/Optional", "orElse", "(Ljava/lang/Object;)Ljava/lang/Object;"⟩ : MethodName)) (z := (⟨"java/util/Optional", "orElse", "(Ljava/lang/Object;)Ljava/lang/Object;"⟩ : MethodName)) hown (mvT hZ (own_w hw 36 rfl)) (mvT hZ (own_w hw 37 rfl)) (notFace_of_selects (args := #[]) (mvT hZ (own_w hw 39 rfl))) (mvT hZ (own_w hw 39 rfl)) (mvT hZ (own_w hw 38 rfl)) (by decide) (backOf (W := 0) (own_rm4_7 l Z a0 hw [] b1x6_3c13c2 w_EBADF T2.heap n0 Z2 Fc2_2_1) hZ (own_w hw 40 rfl) (own_w hw 33 rfl) (by decide) (by decide)) q31a q31c (g := (mkF m 20 #[.val (.int ip0), .val (.int ip1), .val (.int ip0), .unset] [.null, (.ref b1x6_3c13c2)])) rfl (by rw [hml]; rfl) (Steps.refl _) (argsL := [.null]) (rest := []) (lenOf own_pd1 rfl) rfl (by show 2 * 0 + _ ≤ _; exact Nat.le_of_eq rfl) (hb hby at_20) (fun _ _ => ⟨rfl, rfl, (by decide : 2 + 0 ≤ _), (by decide : 11 + 0 ≤ _)⟩)
      dsimp only [Pt.U, Pt.locs, Pt.cells, Pt.slots] at X31 l31 y31 z31 st31 hQ31
      subst l31 y31 z31
      obtain ⟨N31q, Kq31, hL31⟩ := hQ31
      have N31 := Fr.app N2 N31q
      have K31 : Keep h0 T31.heap [] := K2.trans Kq31 all0
      have Z31 := Nat.le_trans Z2 Kq31.1
      rcases hL31 with ⟨rfl, -⟩
      · skip
        refine own_st (fun t k => st31.trans k) ?_
        show own_Go _ _ _ _ T31 (mkF m 23 #[.val (.int ip0), .val (.int ip1), .val (.int ip0), .unset] [(.ref w_EBADF)])
        have f32 := (E_w_EBADF.keep K31)
        obtain ⟨T33, X33, e33, st33⟩ := castY X31 hx hZ hown (own_w hw 63 rfl) rfl (Ins.self f32) (g := (mkF m 23 #[.val (.int ip0), .val (.int ip1), .val (.int ip0), .unset] [(.ref w_EBADF)])) rfl rfl (hb hby at_23)
        refine own_st st33 ?_
        show own_Go _ _ _ _ T33 (mkF m 26 #[.val (.int ip0), .val (.int ip1), .val (.int ip0), .unset] [(.ref w_EBADF)])
        refine own_st (fun t k => XS.astoreN X33.here hx rfl (hb hby at_26) rfl rfl (l' := #[.val (.int ip0), .val (.int ip1), .val (.int ip0), .val (.ref w_EBADF)]) rfl k) ?_
        show own_Go _ _ _ _ T33 (mkF m 27 #[.val (.int ip0), .val (.int ip1), .val (.int ip0), .val (.ref w_EBADF)] [])
        refine own_st (fun t k => XS.aloadN X33.here hx rfl (hb hby at_27) rfl rfl k) ?_
        show own_Go _ _ _ _ T33 (mkF m 28 #[.val (.int ip0), .val (.int ip1), .val (.int ip0), .val (.ref w_EBADF)] [(.ref w_EBADF)])
        refine own_st (fun t k => XS.iloadN X33.here hx rfl (hb hby at_28) rfl k) ?_
        show own_Go _ _ _ _ T33 (mkF m 29 #[.val (.int ip0), .val (.int ip1), .val (.int ip0), .val (.ref w_EBADF)] [(.int ip0), (.ref w_EBADF)])
        have f34 := (own_stak S_ENOENT K31 all0)
        have f35 := (own_stak S_EIO K31 all0)
        have f36 := (own_stak S_EBADF K31 all0)
        have f37 := (own_stak S_EACCES K31 all0)
        have f38 := (own_stak S_EEXIST K31 all0)
        have f39 := (own_stak S_ENOTDIR K31 all0)
        have f40 := (own_stak S_EISDIR K31 all0)
        have f41 := (own_stak S_EINVAL K31 all0)
        have f42 := (own_stak S_ENOSPC K31 all0)
        have f43 := (own_stak S_ENAMETOOLONG K31 all0)
        obtain ⟨_, _, ⟨T44, L44, k44, n44⟩, -, X44, ⟨Lc44, hQ44, l44, y44, z44⟩, st44⟩ := Jvm.LawKit.callS X33 hx (y := (⟨"com/example/checkpost/checkpost/protocol/ErrnoByNumberPinLaw", "expected", "(I)Lcom/example/checkpost/checkpost/protocol/Errno;"⟩ : MethodName)) hown (mvT hZ (own_w hw 43 rfl)) (mvT hZ (own_w hw 44 rfl)) (mvT hZ (own_w hw 45 rfl)) (mvT hZ (own_w hw 46 rfl)) (by decide) (backOf (W := 1) (own_rm5 l Z a0 hw [] ip0 w_ENOENT w_EIO w_EBADF w_EACCES w_EEXIST w_ENOTDIR w_EISDIR w_EINVAL w_ENOSPC w_ENAMETOOLONG T31.heap n0 Z31 f34 f35 f36 f37 f38 f39 f40 f41 f42 f43) hZ (own_w hw 46 rfl) (own_w hw 45 rfl) (by decide) (by decide)) (g := (mkF m 29 #[.val (.int ip0), .val (.int ip1), .val (.int ip0), .val (.ref w_EBADF)] [(.int ip0), (.ref w_EBADF)])) rfl (by rw [hml]; rfl) (argsL := [(.int ip0)]) (rest := [(.ref w_EBADF)]) (lenOf own_pd6 rfl) rfl (by show 2 * 0 + _ ≤ _; exact Nat.le_of_eq rfl) (hb hby at_29) (fun _ _ => ⟨rfl, e33, (by decide : 2 + 0 ≤ _), (by decide : 11 + 0 ≤ _)⟩)
        dsimp only [Pt.U, Pt.locs, Pt.cells, Pt.slots] at X44 l44 y44 z44 st44 hQ44
        subst l44 y44 z44
        obtain ⟨N44q, e44, hL44⟩ := hQ44
        have N44 := Fr.app N31 N44q
        rcases hL44 with ⟨rfl, hq44_0_0, -⟩ | ⟨rfl, hq44_1_0, hq44_1_1, -⟩ | ⟨rfl, hq44_2_0, hq44_2_1, hq44_2_2, -⟩ | ⟨rfl, hq44_3_0, hq44_3_1, hq44_3_2, hq44_3_3, -⟩ | ⟨rfl, hq44_4_0, hq44_4_1, hq44_4_2, hq44_4_3, hq44_4_4, -⟩ | ⟨rfl, hq44_5_0, hq44_5_1, hq44_5_2, hq44_5_3, hq44_5_4, hq44_5_5, -⟩ | ⟨rfl, hq44_6_0, hq44_6_1, hq44_6_2, hq44_6_3, hq44_6_4, hq44_6_5, hq44_6_6, -⟩ | ⟨rfl, hq44_7_0, hq44_7_1, hq44_7_2, hq44_7_3, hq44_7_4, hq44_7_5, hq44_7_6, hq44_7_7, -⟩ | ⟨rfl, hq44_8_0, hq44_8_1, hq44_8_2, hq44_8_3, hq44_8_4, hq44_8_5, hq44_8_6, hq44_8_7, hq44_8_8, -⟩ | ⟨rfl, hq44_9_0, hq44_9_1, hq44_9_2, hq44_9_3, hq44_9_4, hq44_9_5, hq44_9_6, hq44_9_7, hq44_9_8, hq44_9_9, -⟩ | ⟨rfl, hq44_10_0, hq44_10_1, hq44_10_2, hq44_10_3, hq44_10_4, hq44_10_5, hq44_10_6, hq44_10_7, hq44_10_8, hq44_10_9, -⟩
        · skip
          exact absurd hq44_0_0 (Ne.symm hq2_2_0)
        · skip
          exact absurd hq44_1_1 (Ne.symm hq2_2_1)
        · skip
          refine own_st st44 ?_
          show own_Go _ _ _ _ T44 (mkF m 32 #[.val (.int ip0), .val (.int ip1), .val (.int ip0), .val (.ref w_EBADF)] [(.ref w_EBADF), (.ref w_EBADF)])
          refine own_st (fun t k => Jvm.RoadKit.acmp (g := (mkF m 32 #[.val (.int ip0), .val (.int ip1), .val (.int ip0), .val (.ref w_EBADF)] [(.ref w_EBADF), (.ref w_EBADF)])) X44 hx rfl rfl rfl (pc0 := 32) (pc' := 35) (same := true) rfl (hb hby at_32) rfl (decide_eq_true (congrArg Value.ref (rfl : w_EBADF = w_EBADF))) (by decide) (by decide) k) ?_
          show own_Go _ _ _ _ T44 (mkF m 35 #[.val (.int ip0), .val (.int ip1), .val (.int ip0), .val (.ref w_EBADF)] [])
          refine own_st (fun t k => XS.iconst X44.here hx rfl (hb hby at_35) k) ?_
          show own_Go _ _ _ _ T44 (mkF m 36 #[.val (.int ip0), .val (.int ip1), .val (.int ip0), .val (.ref w_EBADF)] [(.int (1 : Int32))])
          refine own_st (fun t k => XS.goto X44.here hx rfl (pc0 := 36) (pc' := 40) rfl (hb hby at_36) (by decide) (by decide) k) ?_
          show own_Go _ _ _ _ T44 (mkF m 40 #[.val (.int ip0), .val (.int ip1), .val (.int ip0), .val (.ref w_EBADF)] [(.int (1 : Int32))])
          exact own_retZ X44 hx hlk (t := .boolean) hret (by simp) (hb hby at_40) (by decide) (by decide) e44 ⟨rfl, N44⟩
        · skip
          exact absurd (Eq.symm hq2_2_2) hq44_3_2
        · skip
          exact absurd (Eq.symm hq2_2_2) hq44_4_2
        · skip
          exact absurd (Eq.symm hq2_2_2) hq44_5_2
        · skip
          exact absurd (Eq.symm hq2_2_2) hq44_6_2
        · skip
          exact absurd (Eq.symm hq2_2_2) hq44_7_2
        · skip
          exact absurd (Eq.symm hq2_2_2) hq44_8_2
        · skip
          exact absurd (Eq.symm hq2_2_2) hq44_9_2
        · skip
          exact absurd (Eq.symm hq2_2_2) hq44_10_2
    · skip
      have g_b1x6_3c17c2 : n0 ≤ b1x6_3c17c2 := Nat.le_trans Z0 sq_b1x6_3c17c2
      have sz_b1x6_3c17c2 : h0.size ≤ b1x6_3c17c2 := Nat.le_trans (Keep.refl h0 []).1 sq_b1x6_3c17c2
      refine own_st st2 ?_
      show own_Go _ _ _ _ T2 (mkF m 19 #[.val (.int ip0), .val (.int ip1), .val (.int ip0), .unset] [(.ref b1x6_3c17c2)])
      refine own_st (fun t k => XS.aconstNull X2.here hx rfl (hb hby at_19) k) ?_
      show own_Go _ _ _ _ T2 (mkF m 20 #[.val (.int ip0), .val (.int ip1), .val (.int ip0), .unset] [.null, (.ref b1x6_3c17c2)])
      obtain ⟨cq45, kq45, q45a, q45b, q45c⟩ := isOf hZ rfl Fc2_3_0
      obtain ⟨_, _, ⟨T45, L45, k45, n45⟩, -, X45, ⟨Lc45, hQ45, l45, y45, z45⟩, st45⟩ := X2.virtualBack hx (y := (⟨"java/util/Optional", "orElse", "(Ljava/lang/Object;)Ljava/lang/Object;"⟩ : MethodName)) (z := (⟨"java/util/Optional", "orElse", "(Ljava/lang/Object;)Ljava/lang/Object;"⟩ : MethodName)) hown (mvT hZ (own_w hw 36 rfl)) (mvT hZ (own_w hw 37 rfl)) (notFace_of_selects (args := #[]) (mvT hZ (own_w hw 39 rfl))) (mvT hZ (own_w hw 39 rfl)) (mvT hZ (own_w hw 38 rfl)) (by decide) (backOf (W := 0) (own_rm4_7 l Z a0 hw [] b1x6_3c17c2 w_EACCES T2.heap n0 Z2 Fc2_3_1) hZ (own_w hw 40 rfl) (own_w hw 33 rfl) (by decide) (by decide)) q45a q45c (g := (mkF m 20 #[.val (.int ip0), .val (.int ip1), .val (.int ip0), .unset] [.null, (.ref b1x6_3c17c2)])) rfl (by rw [hml]; rfl) (Steps.refl _) (argsL := [.null]) (rest := []) (lenOf own_pd1 rfl) rfl (by show 2 * 0 + _ ≤ _; exact Nat.le_of_eq rfl) (hb hby at_20) (fun _ _ => ⟨rfl, rfl, (by decide : 2 + 0 ≤ _), (by decide : 11 + 0 ≤ _)⟩)
      dsimp only [Pt.U, Pt.locs, Pt.cells, Pt.slots] at X45 l45 y45 z45 st45 hQ45
      subst l45 y45 z45
      obtain ⟨N45q, Kq45, hL45⟩ := hQ45
      have N45 := Fr.app N2 N45q
      have K45 : Keep h0 T45.heap [] := K2.trans Kq45 all0
      have Z45 := Nat.le_trans Z2 Kq45.1
      rcases hL45 with ⟨rfl, -⟩
      · skip
        refine own_st (fun t k => st45.trans k) ?_
        show own_Go _ _ _ _ T45 (mkF m 23 #[.val (.int ip0), .val (.int ip1), .val (.int ip0), .unset] [(.ref w_EACCES)])
        have f46 := (E_w_EACCES.keep K45)
        obtain ⟨T47, X47, e47, st47⟩ := castY X45 hx hZ hown (own_w hw 63 rfl) rfl (Ins.self f46) (g := (mkF m 23 #[.val (.int ip0), .val (.int ip1), .val (.int ip0), .unset] [(.ref w_EACCES)])) rfl rfl (hb hby at_23)
        refine own_st st47 ?_
        show own_Go _ _ _ _ T47 (mkF m 26 #[.val (.int ip0), .val (.int ip1), .val (.int ip0), .unset] [(.ref w_EACCES)])
        refine own_st (fun t k => XS.astoreN X47.here hx rfl (hb hby at_26) rfl rfl (l' := #[.val (.int ip0), .val (.int ip1), .val (.int ip0), .val (.ref w_EACCES)]) rfl k) ?_
        show own_Go _ _ _ _ T47 (mkF m 27 #[.val (.int ip0), .val (.int ip1), .val (.int ip0), .val (.ref w_EACCES)] [])
        refine own_st (fun t k => XS.aloadN X47.here hx rfl (hb hby at_27) rfl rfl k) ?_
        show own_Go _ _ _ _ T47 (mkF m 28 #[.val (.int ip0), .val (.int ip1), .val (.int ip0), .val (.ref w_EACCES)] [(.ref w_EACCES)])
        refine own_st (fun t k => XS.iloadN X47.here hx rfl (hb hby at_28) rfl k) ?_
        show own_Go _ _ _ _ T47 (mkF m 29 #[.val (.int ip0), .val (.int ip1), .val (.int ip0), .val (.ref w_EACCES)] [(.int ip0), (.ref w_EACCES)])
        have f48 := (own_stak S_ENOENT K45 all0)
        have f49 := (own_stak S_EIO K45 all0)
        have f50 := (own_stak S_EBADF K45 all0)
        have f51 := (own_stak S_EACCES K45 all0)
        have f52 := (own_stak S_EEXIST K45 all0)
        have f53 := (own_stak S_ENOTDIR K45 all0)
        have f54 := (own_stak S_EISDIR K45 all0)
        have f55 := (own_stak S_EINVAL K45 all0)
        have f56 := (own_stak S_ENOSPC K45 all0)
        have f57 := (own_stak S_ENAMETOOLONG K45 all0)
        obtain ⟨_, _, ⟨T58, L58, k58, n58⟩, -, X58, ⟨Lc58, hQ58, l58, y58, z58⟩, st58⟩ := Jvm.LawKit.callS X47 hx (y := (⟨"com/example/checkpost/checkpost/protocol/ErrnoByNumberPinLaw", "expected", "(I)Lcom/example/checkpost/checkpost/protocol/Errno;"⟩ : MethodName)) hown (mvT hZ (own_w hw 43 rfl)) (mvT hZ (own_w hw 44 rfl)) (mvT hZ (own_w hw 45 rfl)) (mvT hZ (own_w hw 46 rfl)) (by decide) (backOf (W := 1) (own_rm5 l Z a0 hw [] ip0 w_ENOENT w_EIO w_EBADF w_EACCES w_EEXIST w_ENOTDIR w_EISDIR w_EINVAL w_ENOSPC w_ENAMETOOLONG T45.heap n0 Z45 f48 f49 f50 f51 f52 f53 f54 f55 f56 f57) hZ (own_w hw 46 rfl) (own_w hw 45 rfl) (by decide) (by decide)) (g := (mkF m 29 #[.val (.int ip0), .val (.int ip1), .val (.int ip0), .val (.ref w_EACCES)] [(.int ip0), (.ref w_EACCES)])) rfl (by rw [hml]; rfl) (argsL := [(.int ip0)]) (rest := [(.ref w_EACCES)]) (lenOf own_pd6 rfl) rfl (by show 2 * 0 + _ ≤ _; exact Nat.le_of_eq rfl) (hb hby at_29) (fun _ _ => ⟨rfl, e47, (by decide : 2 + 0 ≤ _), (by decide : 11 + 0 ≤ _)⟩)
        dsimp only [Pt.U, Pt.locs, Pt.cells, Pt.slots] at X58 l58 y58 z58 st58 hQ58
        subst l58 y58 z58
        obtain ⟨N58q, e58, hL58⟩ := hQ58
        have N58 := Fr.app N45 N58q
        rcases hL58 with ⟨rfl, hq58_0_0, -⟩ | ⟨rfl, hq58_1_0, hq58_1_1, -⟩ | ⟨rfl, hq58_2_0, hq58_2_1, hq58_2_2, -⟩ | ⟨rfl, hq58_3_0, hq58_3_1, hq58_3_2, hq58_3_3, -⟩ | ⟨rfl, hq58_4_0, hq58_4_1, hq58_4_2, hq58_4_3, hq58_4_4, -⟩ | ⟨rfl, hq58_5_0, hq58_5_1, hq58_5_2, hq58_5_3, hq58_5_4, hq58_5_5, -⟩ | ⟨rfl, hq58_6_0, hq58_6_1, hq58_6_2, hq58_6_3, hq58_6_4, hq58_6_5, hq58_6_6, -⟩ | ⟨rfl, hq58_7_0, hq58_7_1, hq58_7_2, hq58_7_3, hq58_7_4, hq58_7_5, hq58_7_6, hq58_7_7, -⟩ | ⟨rfl, hq58_8_0, hq58_8_1, hq58_8_2, hq58_8_3, hq58_8_4, hq58_8_5, hq58_8_6, hq58_8_7, hq58_8_8, -⟩ | ⟨rfl, hq58_9_0, hq58_9_1, hq58_9_2, hq58_9_3, hq58_9_4, hq58_9_5, hq58_9_6, hq58_9_7, hq58_9_8, hq58_9_9, -⟩ | ⟨rfl, hq58_10_0, hq58_10_1, hq58_10_2, hq58_10_3, hq58_10_4, hq58_10_5, hq58_10_6, hq58_10_7, hq58_10_8, hq58_10_9, -⟩
        · skip
          exact absurd hq58_0_0 (Ne.symm hq2_3_0)
        · skip
          exact absurd hq58_1_1 (Ne.symm hq2_3_1)
        · skip
          exact absurd hq58_2_2 (Ne.symm hq2_3_2)
        · skip
          refine own_st st58 ?_
          show own_Go _ _ _ _ T58 (mkF m 32 #[.val (.int ip0), .val (.int ip1), .val (.int ip0), .val (.ref w_EACCES)] [(.ref w_EACCES), (.ref w_EACCES)])
          refine own_st (fun t k => Jvm.RoadKit.acmp (g := (mkF m 32 #[.val (.int ip0), .val (.int ip1), .val (.int ip0), .val (.ref w_EACCES)] [(.ref w_EACCES), (.ref w_EACCES)])) X58 hx rfl rfl rfl (pc0 := 32) (pc' := 35) (same := true) rfl (hb hby at_32) rfl (decide_eq_true (congrArg Value.ref (rfl : w_EACCES = w_EACCES))) (by decide) (by decide) k) ?_
          show own_Go _ _ _ _ T58 (mkF m 35 #[.val (.int ip0), .val (.int ip1), .val (.int ip0), .val (.ref w_EACCES)] [])
          refine own_st (fun t k => XS.iconst X58.here hx rfl (hb hby at_35) k) ?_
          show own_Go _ _ _ _ T58 (mkF m 36 #[.val (.int ip0), .val (.int ip1), .val (.int ip0), .val (.ref w_EACCES)] [(.int (1 : Int32))])
          refine own_st (fun t k => XS.goto X58.here hx rfl (pc0 := 36) (pc' := 40) rfl (hb hby at_36) (by decide) (by decide) k) ?_
          show own_Go _ _ _ _ T58 (mkF m 40 #[.val (.int ip0), .val (.int ip1), .val (.int ip0), .val (.ref w_EACCES)] [(.int (1 : Int32))])
          exact own_retZ X58 hx hlk (t := .boolean) hret (by simp) (hb hby at_40) (by decide) (by decide) e58 ⟨rfl, N58⟩
        · skip
          exact absurd (Eq.symm hq2_3_3) hq58_4_3
        · skip
          exact absurd (Eq.symm hq2_3_3) hq58_5_3
        · skip
          exact absurd (Eq.symm hq2_3_3) hq58_6_3
        · skip
          exact absurd (Eq.symm hq2_3_3) hq58_7_3
        · skip
          exact absurd (Eq.symm hq2_3_3) hq58_8_3
        · skip
          exact absurd (Eq.symm hq2_3_3) hq58_9_3
        · skip
          exact absurd (Eq.symm hq2_3_3) hq58_10_3
    · skip
      have g_b1x6_3c21c2 : n0 ≤ b1x6_3c21c2 := Nat.le_trans Z0 sq_b1x6_3c21c2
      have sz_b1x6_3c21c2 : h0.size ≤ b1x6_3c21c2 := Nat.le_trans (Keep.refl h0 []).1 sq_b1x6_3c21c2
      refine own_st st2 ?_
      show own_Go _ _ _ _ T2 (mkF m 19 #[.val (.int ip0), .val (.int ip1), .val (.int ip0), .unset] [(.ref b1x6_3c21c2)])
      refine own_st (fun t k => XS.aconstNull X2.here hx rfl (hb hby at_19) k) ?_
      show own_Go _ _ _ _ T2 (mkF m 20 #[.val (.int ip0), .val (.int ip1), .val (.int ip0), .unset] [.null, (.ref b1x6_3c21c2)])
      obtain ⟨cq59, kq59, q59a, q59b, q59c⟩ := isOf hZ rfl Fc2_4_0
      obtain ⟨_, _, ⟨T59, L59, k59, n59⟩, -, X59, ⟨Lc59, hQ59, l59, y59, z59⟩, st59⟩ := X2.virtualBack hx (y := (⟨"java/util/Optional", "orElse", "(Ljava/lang/Object;)Ljava/lang/Object;"⟩ : MethodName)) (z := (⟨"java/util/Optional", "orElse", "(Ljava/lang/Object;)Ljava/lang/Object;"⟩ : MethodName)) hown (mvT hZ (own_w hw 36 rfl)) (mvT hZ (own_w hw 37 rfl)) (notFace_of_selects (args := #[]) (mvT hZ (own_w hw 39 rfl))) (mvT hZ (own_w hw 39 rfl)) (mvT hZ (own_w hw 38 rfl)) (by decide) (backOf (W := 0) (own_rm4_7 l Z a0 hw [] b1x6_3c21c2 w_EEXIST T2.heap n0 Z2 Fc2_4_1) hZ (own_w hw 40 rfl) (own_w hw 33 rfl) (by decide) (by decide)) q59a q59c (g := (mkF m 20 #[.val (.int ip0), .val (.int ip1), .val (.int ip0), .unset] [.null, (.ref b1x6_3c21c2)])) rfl (by rw [hml]; rfl) (Steps.refl _) (argsL := [.null]) (rest := []) (lenOf own_pd1 rfl) rfl (by show 2 * 0 + _ ≤ _; exact Nat.le_of_eq rfl) (hb hby at_20) (fun _ _ => ⟨rfl, rfl, (by decide : 2 + 0 ≤ _), (by decide : 11 + 0 ≤ _)⟩)
      dsimp only [Pt.U, Pt.locs, Pt.cells, Pt.slots] at X59 l59 y59 z59 st59 hQ59
      subst l59 y59 z59
      obtain ⟨N59q, Kq59, hL59⟩ := hQ59
      have N59 := Fr.app N2 N59q
      have K59 : Keep h0 T59.heap [] := K2.trans Kq59 all0
      have Z59 := Nat.le_trans Z2 Kq59.1
      rcases hL59 with ⟨rfl, -⟩
      · skip
        refine own_st (fun t k => st59.trans k) ?_
        show own_Go _ _ _ _ T59 (mkF m 23 #[.val (.int ip0), .val (.int ip1), .val (.int ip0), .unset] [(.ref w_EEXIST)])
        have f60 := (E_w_EEXIST.keep K59)
        obtain ⟨T61, X61, e61, st61⟩ := castY X59 hx hZ hown (own_w hw 63 rfl) rfl (Ins.self f60) (g := (mkF m 23 #[.val (.int ip0), .val (.int ip1), .val (.int ip0), .unset] [(.ref w_EEXIST)])) rfl rfl (hb hby at_23)
        refine own_st st61 ?_
        show own_Go _ _ _ _ T61 (mkF m 26 #[.val (.int ip0), .val (.int ip1), .val (.int ip0), .unset] [(.ref w_EEXIST)])
        refine own_st (fun t k => XS.astoreN X61.here hx rfl (hb hby at_26) rfl rfl (l' := #[.val (.int ip0), .val (.int ip1), .val (.int ip0), .val (.ref w_EEXIST)]) rfl k) ?_
        show own_Go _ _ _ _ T61 (mkF m 27 #[.val (.int ip0), .val (.int ip1), .val (.int ip0), .val (.ref w_EEXIST)] [])
        refine own_st (fun t k => XS.aloadN X61.here hx rfl (hb hby at_27) rfl rfl k) ?_
        show own_Go _ _ _ _ T61 (mkF m 28 #[.val (.int ip0), .val (.int ip1), .val (.int ip0), .val (.ref w_EEXIST)] [(.ref w_EEXIST)])
        refine own_st (fun t k => XS.iloadN X61.here hx rfl (hb hby at_28) rfl k) ?_
        show own_Go _ _ _ _ T61 (mkF m 29 #[.val (.int ip0), .val (.int ip1), .val (.int ip0), .val (.ref w_EEXIST)] [(.int ip0), (.ref w_EEXIST)])
        have f62 := (own_stak S_ENOENT K59 all0)
        have f63 := (own_stak S_EIO K59 all0)
        have f64 := (own_stak S_EBADF K59 all0)
        have f65 := (own_stak S_EACCES K59 all0)
        have f66 := (own_stak S_EEXIST K59 all0)
        have f67 := (own_stak S_ENOTDIR K59 all0)
        have f68 := (own_stak S_EISDIR K59 all0)
        have f69 := (own_stak S_EINVAL K59 all0)
        have f70 := (own_stak S_ENOSPC K59 all0)
        have f71 := (own_stak S_ENAMETOOLONG K59 all0)
        obtain ⟨_, _, ⟨T72, L72, k72, n72⟩, -, X72, ⟨Lc72, hQ72, l72, y72, z72⟩, st72⟩ := Jvm.LawKit.callS X61 hx (y := (⟨"com/example/checkpost/checkpost/protocol/ErrnoByNumberPinLaw", "expected", "(I)Lcom/example/checkpost/checkpost/protocol/Errno;"⟩ : MethodName)) hown (mvT hZ (own_w hw 43 rfl)) (mvT hZ (own_w hw 44 rfl)) (mvT hZ (own_w hw 45 rfl)) (mvT hZ (own_w hw 46 rfl)) (by decide) (backOf (W := 1) (own_rm5 l Z a0 hw [] ip0 w_ENOENT w_EIO w_EBADF w_EACCES w_EEXIST w_ENOTDIR w_EISDIR w_EINVAL w_ENOSPC w_ENAMETOOLONG T59.heap n0 Z59 f62 f63 f64 f65 f66 f67 f68 f69 f70 f71) hZ (own_w hw 46 rfl) (own_w hw 45 rfl) (by decide) (by decide)) (g := (mkF m 29 #[.val (.int ip0), .val (.int ip1), .val (.int ip0), .val (.ref w_EEXIST)] [(.int ip0), (.ref w_EEXIST)])) rfl (by rw [hml]; rfl) (argsL := [(.int ip0)]) (rest := [(.ref w_EEXIST)]) (lenOf own_pd6 rfl) rfl (by show 2 * 0 + _ ≤ _; exact Nat.le_of_eq rfl) (hb hby at_29) (fun _ _ => ⟨rfl, e61, (by decide : 2 + 0 ≤ _), (by decide : 11 + 0 ≤ _)⟩)
        dsimp only [Pt.U, Pt.locs, Pt.cells, Pt.slots] at X72 l72 y72 z72 st72 hQ72
        subst l72 y72 z72
        obtain ⟨N72q, e72, hL72⟩ := hQ72
        have N72 := Fr.app N59 N72q
        rcases hL72 with ⟨rfl, hq72_0_0, -⟩ | ⟨rfl, hq72_1_0, hq72_1_1, -⟩ | ⟨rfl, hq72_2_0, hq72_2_1, hq72_2_2, -⟩ | ⟨rfl, hq72_3_0, hq72_3_1, hq72_3_2, hq72_3_3, -⟩ | ⟨rfl, hq72_4_0, hq72_4_1, hq72_4_2, hq72_4_3, hq72_4_4, -⟩ | ⟨rfl, hq72_5_0, hq72_5_1, hq72_5_2, hq72_5_3, hq72_5_4, hq72_5_5, -⟩ | ⟨rfl, hq72_6_0, hq72_6_1, hq72_6_2, hq72_6_3, hq72_6_4, hq72_6_5, hq72_6_6, -⟩ | ⟨rfl, hq72_7_0, hq72_7_1, hq72_7_2, hq72_7_3, hq72_7_4, hq72_7_5, hq72_7_6, hq72_7_7, -⟩ | ⟨rfl, hq72_8_0, hq72_8_1, hq72_8_2, hq72_8_3, hq72_8_4, hq72_8_5, hq72_8_6, hq72_8_7, hq72_8_8, -⟩ | ⟨rfl, hq72_9_0, hq72_9_1, hq72_9_2, hq72_9_3, hq72_9_4, hq72_9_5, hq72_9_6, hq72_9_7, hq72_9_8, hq72_9_9, -⟩ | ⟨rfl, hq72_10_0, hq72_10_1, hq72_10_2, hq72_10_3, hq72_10_4, hq72_10_5, hq72_10_6, hq72_10_7, hq72_10_8, hq72_10_9, -⟩
        · skip
          exact absurd hq72_0_0 (Ne.symm hq2_4_0)
        · skip
          exact absurd hq72_1_1 (Ne.symm hq2_4_1)
        · skip
          exact absurd hq72_2_2 (Ne.symm hq2_4_2)
        · skip
          exact absurd hq72_3_3 (Ne.symm hq2_4_3)
        · skip
          refine own_st st72 ?_
          show own_Go _ _ _ _ T72 (mkF m 32 #[.val (.int ip0), .val (.int ip1), .val (.int ip0), .val (.ref w_EEXIST)] [(.ref w_EEXIST), (.ref w_EEXIST)])
          refine own_st (fun t k => Jvm.RoadKit.acmp (g := (mkF m 32 #[.val (.int ip0), .val (.int ip1), .val (.int ip0), .val (.ref w_EEXIST)] [(.ref w_EEXIST), (.ref w_EEXIST)])) X72 hx rfl rfl rfl (pc0 := 32) (pc' := 35) (same := true) rfl (hb hby at_32) rfl (decide_eq_true (congrArg Value.ref (rfl : w_EEXIST = w_EEXIST))) (by decide) (by decide) k) ?_
          show own_Go _ _ _ _ T72 (mkF m 35 #[.val (.int ip0), .val (.int ip1), .val (.int ip0), .val (.ref w_EEXIST)] [])
          refine own_st (fun t k => XS.iconst X72.here hx rfl (hb hby at_35) k) ?_
          show own_Go _ _ _ _ T72 (mkF m 36 #[.val (.int ip0), .val (.int ip1), .val (.int ip0), .val (.ref w_EEXIST)] [(.int (1 : Int32))])
          refine own_st (fun t k => XS.goto X72.here hx rfl (pc0 := 36) (pc' := 40) rfl (hb hby at_36) (by decide) (by decide) k) ?_
          show own_Go _ _ _ _ T72 (mkF m 40 #[.val (.int ip0), .val (.int ip1), .val (.int ip0), .val (.ref w_EEXIST)] [(.int (1 : Int32))])
          exact own_retZ X72 hx hlk (t := .boolean) hret (by simp) (hb hby at_40) (by decide) (by decide) e72 ⟨rfl, N72⟩
        · skip
          exact absurd (Eq.symm hq2_4_4) hq72_5_4
        · skip
          exact absurd (Eq.symm hq2_4_4) hq72_6_4
        · skip
          exact absurd (Eq.symm hq2_4_4) hq72_7_4
        · skip
          exact absurd (Eq.symm hq2_4_4) hq72_8_4
        · skip
          exact absurd (Eq.symm hq2_4_4) hq72_9_4
        · skip
          exact absurd (Eq.symm hq2_4_4) hq72_10_4
    · skip
      have g_b1x6_3c25c2 : n0 ≤ b1x6_3c25c2 := Nat.le_trans Z0 sq_b1x6_3c25c2
      have sz_b1x6_3c25c2 : h0.size ≤ b1x6_3c25c2 := Nat.le_trans (Keep.refl h0 []).1 sq_b1x6_3c25c2
      refine own_st st2 ?_
      show own_Go _ _ _ _ T2 (mkF m 19 #[.val (.int ip0), .val (.int ip1), .val (.int ip0), .unset] [(.ref b1x6_3c25c2)])
      refine own_st (fun t k => XS.aconstNull X2.here hx rfl (hb hby at_19) k) ?_
      show own_Go _ _ _ _ T2 (mkF m 20 #[.val (.int ip0), .val (.int ip1), .val (.int ip0), .unset] [.null, (.ref b1x6_3c25c2)])
      obtain ⟨cq73, kq73, q73a, q73b, q73c⟩ := isOf hZ rfl Fc2_5_0
      obtain ⟨_, _, ⟨T73, L73, k73, n73⟩, -, X73, ⟨Lc73, hQ73, l73, y73, z73⟩, st73⟩ := X2.virtualBack hx (y := (⟨"java/util/Optional", "orElse", "(Ljava/lang/Object;)Ljava/lang/Object;"⟩ : MethodName)) (z := (⟨"java/util/Optional", "orElse", "(Ljava/lang/Object;)Ljava/lang/Object;"⟩ : MethodName)) hown (mvT hZ (own_w hw 36 rfl)) (mvT hZ (own_w hw 37 rfl)) (notFace_of_selects (args := #[]) (mvT hZ (own_w hw 39 rfl))) (mvT hZ (own_w hw 39 rfl)) (mvT hZ (own_w hw 38 rfl)) (by decide) (backOf (W := 0) (own_rm4_7 l Z a0 hw [] b1x6_3c25c2 w_ENOTDIR T2.heap n0 Z2 Fc2_5_1) hZ (own_w hw 40 rfl) (own_w hw 33 rfl) (by decide) (by decide)) q73a q73c (g := (mkF m 20 #[.val (.int ip0), .val (.int ip1), .val (.int ip0), .unset] [.null, (.ref b1x6_3c25c2)])) rfl (by rw [hml]; rfl) (Steps.refl _) (argsL := [.null]) (rest := []) (lenOf own_pd1 rfl) rfl (by show 2 * 0 + _ ≤ _; exact Nat.le_of_eq rfl) (hb hby at_20) (fun _ _ => ⟨rfl, rfl, (by decide : 2 + 0 ≤ _), (by decide : 11 + 0 ≤ _)⟩)
      dsimp only [Pt.U, Pt.locs, Pt.cells, Pt.slots] at X73 l73 y73 z73 st73 hQ73
      subst l73 y73 z73
      obtain ⟨N73q, Kq73, hL73⟩ := hQ73
      have N73 := Fr.app N2 N73q
      have K73 : Keep h0 T73.heap [] := K2.trans Kq73 all0
      have Z73 := Nat.le_trans Z2 Kq73.1
      rcases hL73 with ⟨rfl, -⟩
      · skip
        refine own_st (fun t k => st73.trans k) ?_
        show own_Go _ _ _ _ T73 (mkF m 23 #[.val (.int ip0), .val (.int ip1), .val (.int ip0), .unset] [(.ref w_ENOTDIR)])
        have f74 := (E_w_ENOTDIR.keep K73)
        obtain ⟨T75, X75, e75, st75⟩ := castY X73 hx hZ hown (own_w hw 63 rfl) rfl (Ins.self f74) (g := (mkF m 23 #[.val (.int ip0), .val (.int ip1), .val (.int ip0), .unset] [(.ref w_ENOTDIR)])) rfl rfl (hb hby at_23)
        refine own_st st75 ?_
        show own_Go _ _ _ _ T75 (mkF m 26 #[.val (.int ip0), .val (.int ip1), .val (.int ip0), .unset] [(.ref w_ENOTDIR)])
        refine own_st (fun t k => XS.astoreN X75.here hx rfl (hb hby at_26) rfl rfl (l' := #[.val (.int ip0), .val (.int ip1), .val (.int ip0), .val (.ref w_ENOTDIR)]) rfl k) ?_
        show own_Go _ _ _ _ T75 (mkF m 27 #[.val (.int ip0), .val (.int ip1), .val (.int ip0), .val (.ref w_ENOTDIR)] [])
        refine own_st (fun t k => XS.aloadN X75.here hx rfl (hb hby at_27) rfl rfl k) ?_
        show own_Go _ _ _ _ T75 (mkF m 28 #[.val (.int ip0), .val (.int ip1), .val (.int ip0), .val (.ref w_ENOTDIR)] [(.ref w_ENOTDIR)])
        refine own_st (fun t k => XS.iloadN X75.here hx rfl (hb hby at_28) rfl k) ?_
        show own_Go _ _ _ _ T75 (mkF m 29 #[.val (.int ip0), .val (.int ip1), .val (.int ip0), .val (.ref w_ENOTDIR)] [(.int ip0), (.ref w_ENOTDIR)])
        have f76 := (own_stak S_ENOENT K73 all0)
        have f77 := (own_stak S_EIO K73 all0)
        have f78 := (own_stak S_EBADF K73 all0)
        have f79 := (own_stak S_EACCES K73 all0)
        have f80 := (own_stak S_EEXIST K73 all0)
        have f81 := (own_stak S_ENOTDIR K73 all0)
        have f82 := (own_stak S_EISDIR K73 all0)
        have f83 := (own_stak S_EINVAL K73 all0)
        have f84 := (own_stak S_ENOSPC K73 all0)
        have f85 := (own_stak S_ENAMETOOLONG K73 all0)
        obtain ⟨_, _, ⟨T86, L86, k86, n86⟩, -, X86, ⟨Lc86, hQ86, l86, y86, z86⟩, st86⟩ := Jvm.LawKit.callS X75 hx (y := (⟨"com/example/checkpost/checkpost/protocol/ErrnoByNumberPinLaw", "expected", "(I)Lcom/example/checkpost/checkpost/protocol/Errno;"⟩ : MethodName)) hown (mvT hZ (own_w hw 43 rfl)) (mvT hZ (own_w hw 44 rfl)) (mvT hZ (own_w hw 45 rfl)) (mvT hZ (own_w hw 46 rfl)) (by decide) (backOf (W := 1) (own_rm5 l Z a0 hw [] ip0 w_ENOENT w_EIO w_EBADF w_EACCES w_EEXIST w_ENOTDIR w_EISDIR w_EINVAL w_ENOSPC w_ENAMETOOLONG T73.heap n0 Z73 f76 f77 f78 f79 f80 f81 f82 f83 f84 f85) hZ (own_w hw 46 rfl) (own_w hw 45 rfl) (by decide) (by decide)) (g := (mkF m 29 #[.val (.int ip0), .val (.int ip1), .val (.int ip0), .val (.ref w_ENOTDIR)] [(.int ip0), (.ref w_ENOTDIR)])) rfl (by rw [hml]; rfl) (argsL := [(.int ip0)]) (rest := [(.ref w_ENOTDIR)]) (lenOf own_pd6 rfl) rfl (by show 2 * 0 + _ ≤ _; exact Nat.le_of_eq rfl) (hb hby at_29) (fun _ _ => ⟨rfl, e75, (by decide : 2 + 0 ≤ _), (by decide : 11 + 0 ≤ _)⟩)
        dsimp only [Pt.U, Pt.locs, Pt.cells, Pt.slots] at X86 l86 y86 z86 st86 hQ86
        subst l86 y86 z86
        obtain ⟨N86q, e86, hL86⟩ := hQ86
        have N86 := Fr.app N73 N86q
        rcases hL86 with ⟨rfl, hq86_0_0, -⟩ | ⟨rfl, hq86_1_0, hq86_1_1, -⟩ | ⟨rfl, hq86_2_0, hq86_2_1, hq86_2_2, -⟩ | ⟨rfl, hq86_3_0, hq86_3_1, hq86_3_2, hq86_3_3, -⟩ | ⟨rfl, hq86_4_0, hq86_4_1, hq86_4_2, hq86_4_3, hq86_4_4, -⟩ | ⟨rfl, hq86_5_0, hq86_5_1, hq86_5_2, hq86_5_3, hq86_5_4, hq86_5_5, -⟩ | ⟨rfl, hq86_6_0, hq86_6_1, hq86_6_2, hq86_6_3, hq86_6_4, hq86_6_5, hq86_6_6, -⟩ | ⟨rfl, hq86_7_0, hq86_7_1, hq86_7_2, hq86_7_3, hq86_7_4, hq86_7_5, hq86_7_6, hq86_7_7, -⟩ | ⟨rfl, hq86_8_0, hq86_8_1, hq86_8_2, hq86_8_3, hq86_8_4, hq86_8_5, hq86_8_6, hq86_8_7, hq86_8_8, -⟩ | ⟨rfl, hq86_9_0, hq86_9_1, hq86_9_2, hq86_9_3, hq86_9_4, hq86_9_5, hq86_9_6, hq86_9_7, hq86_9_8, hq86_9_9, -⟩ | ⟨rfl, hq86_10_0, hq86_10_1, hq86_10_2, hq86_10_3, hq86_10_4, hq86_10_5, hq86_10_6, hq86_10_7, hq86_10_8, hq86_10_9, -⟩
        · skip
          exact absurd hq86_0_0 (Ne.symm hq2_5_0)
        · skip
          exact absurd hq86_1_1 (Ne.symm hq2_5_1)
        · skip
          exact absurd hq86_2_2 (Ne.symm hq2_5_2)
        · skip
          exact absurd hq86_3_3 (Ne.symm hq2_5_3)
        · skip
          exact absurd hq86_4_4 (Ne.symm hq2_5_4)
        · skip
          refine own_st st86 ?_
          show own_Go _ _ _ _ T86 (mkF m 32 #[.val (.int ip0), .val (.int ip1), .val (.int ip0), .val (.ref w_ENOTDIR)] [(.ref w_ENOTDIR), (.ref w_ENOTDIR)])
          refine own_st (fun t k => Jvm.RoadKit.acmp (g := (mkF m 32 #[.val (.int ip0), .val (.int ip1), .val (.int ip0), .val (.ref w_ENOTDIR)] [(.ref w_ENOTDIR), (.ref w_ENOTDIR)])) X86 hx rfl rfl rfl (pc0 := 32) (pc' := 35) (same := true) rfl (hb hby at_32) rfl (decide_eq_true (congrArg Value.ref (rfl : w_ENOTDIR = w_ENOTDIR))) (by decide) (by decide) k) ?_
          show own_Go _ _ _ _ T86 (mkF m 35 #[.val (.int ip0), .val (.int ip1), .val (.int ip0), .val (.ref w_ENOTDIR)] [])
          refine own_st (fun t k => XS.iconst X86.here hx rfl (hb hby at_35) k) ?_
          show own_Go _ _ _ _ T86 (mkF m 36 #[.val (.int ip0), .val (.int ip1), .val (.int ip0), .val (.ref w_ENOTDIR)] [(.int (1 : Int32))])
          refine own_st (fun t k => XS.goto X86.here hx rfl (pc0 := 36) (pc' := 40) rfl (hb hby at_36) (by decide) (by decide) k) ?_
          show own_Go _ _ _ _ T86 (mkF m 40 #[.val (.int ip0), .val (.int ip1), .val (.int ip0), .val (.ref w_ENOTDIR)] [(.int (1 : Int32))])
          exact own_retZ X86 hx hlk (t := .boolean) hret (by simp) (hb hby at_40) (by decide) (by decide) e86 ⟨rfl, N86⟩
        · skip
          exact absurd (Eq.symm hq2_5_5) hq86_6_5
        · skip
          exact absurd (Eq.symm hq2_5_5) hq86_7_5
        · skip
          exact absurd (Eq.symm hq2_5_5) hq86_8_5
        · skip
          exact absurd (Eq.symm hq2_5_5) hq86_9_5
        · skip
          exact absurd (Eq.symm hq2_5_5) hq86_10_5
    · skip
      have g_b1x6_3c29c2 : n0 ≤ b1x6_3c29c2 := Nat.le_trans Z0 sq_b1x6_3c29c2
      have sz_b1x6_3c29c2 : h0.size ≤ b1x6_3c29c2 := Nat.le_trans (Keep.refl h0 []).1 sq_b1x6_3c29c2
      refine own_st st2 ?_
      show own_Go _ _ _ _ T2 (mkF m 19 #[.val (.int ip0), .val (.int ip1), .val (.int ip0), .unset] [(.ref b1x6_3c29c2)])
      refine own_st (fun t k => XS.aconstNull X2.here hx rfl (hb hby at_19) k) ?_
      show own_Go _ _ _ _ T2 (mkF m 20 #[.val (.int ip0), .val (.int ip1), .val (.int ip0), .unset] [.null, (.ref b1x6_3c29c2)])
      obtain ⟨cq87, kq87, q87a, q87b, q87c⟩ := isOf hZ rfl Fc2_6_0
      obtain ⟨_, _, ⟨T87, L87, k87, n87⟩, -, X87, ⟨Lc87, hQ87, l87, y87, z87⟩, st87⟩ := X2.virtualBack hx (y := (⟨"java/util/Optional", "orElse", "(Ljava/lang/Object;)Ljava/lang/Object;"⟩ : MethodName)) (z := (⟨"java/util/Optional", "orElse", "(Ljava/lang/Object;)Ljava/lang/Object;"⟩ : MethodName)) hown (mvT hZ (own_w hw 36 rfl)) (mvT hZ (own_w hw 37 rfl)) (notFace_of_selects (args := #[]) (mvT hZ (own_w hw 39 rfl))) (mvT hZ (own_w hw 39 rfl)) (mvT hZ (own_w hw 38 rfl)) (by decide) (backOf (W := 0) (own_rm4_7 l Z a0 hw [] b1x6_3c29c2 w_EISDIR T2.heap n0 Z2 Fc2_6_1) hZ (own_w hw 40 rfl) (own_w hw 33 rfl) (by decide) (by decide)) q87a q87c (g := (mkF m 20 #[.val (.int ip0), .val (.int ip1), .val (.int ip0), .unset] [.null, (.ref b1x6_3c29c2)])) rfl (by rw [hml]; rfl) (Steps.refl _) (argsL := [.null]) (rest := []) (lenOf own_pd1 rfl) rfl (by show 2 * 0 + _ ≤ _; exact Nat.le_of_eq rfl) (hb hby at_20) (fun _ _ => ⟨rfl, rfl, (by decide : 2 + 0 ≤ _), (by decide : 11 + 0 ≤ _)⟩)
      dsimp only [Pt.U, Pt.locs, Pt.cells, Pt.slots] at X87 l87 y87 z87 st87 hQ87
      subst l87 y87 z87
      obtain ⟨N87q, Kq87, hL87⟩ := hQ87
      have N87 := Fr.app N2 N87q
      have K87 : Keep h0 T87.heap [] := K2.trans Kq87 all0
      have Z87 := Nat.le_trans Z2 Kq87.1
      rcases hL87 with ⟨rfl, -⟩
      · skip
        refine own_st (fun t k => st87.trans k) ?_
        show own_Go _ _ _ _ T87 (mkF m 23 #[.val (.int ip0), .val (.int ip1), .val (.int ip0), .unset] [(.ref w_EISDIR)])
        have f88 := (E_w_EISDIR.keep K87)
        obtain ⟨T89, X89, e89, st89⟩ := castY X87 hx hZ hown (own_w hw 63 rfl) rfl (Ins.self f88) (g := (mkF m 23 #[.val (.int ip0), .val (.int ip1), .val (.int ip0), .unset] [(.ref w_EISDIR)])) rfl rfl (hb hby at_23)
        refine own_st st89 ?_
        show own_Go _ _ _ _ T89 (mkF m 26 #[.val (.int ip0), .val (.int ip1), .val (.int ip0), .unset] [(.ref w_EISDIR)])
        refine own_st (fun t k => XS.astoreN X89.here hx rfl (hb hby at_26) rfl rfl (l' := #[.val (.int ip0), .val (.int ip1), .val (.int ip0), .val (.ref w_EISDIR)]) rfl k) ?_
        show own_Go _ _ _ _ T89 (mkF m 27 #[.val (.int ip0), .val (.int ip1), .val (.int ip0), .val (.ref w_EISDIR)] [])
        refine own_st (fun t k => XS.aloadN X89.here hx rfl (hb hby at_27) rfl rfl k) ?_
        show own_Go _ _ _ _ T89 (mkF m 28 #[.val (.int ip0), .val (.int ip1), .val (.int ip0), .val (.ref w_EISDIR)] [(.ref w_EISDIR)])
        refine own_st (fun t k => XS.iloadN X89.here hx rfl (hb hby at_28) rfl k) ?_
        show own_Go _ _ _ _ T89 (mkF m 29 #[.val (.int ip0), .val (.int ip1), .val (.int ip0), .val (.ref w_EISDIR)] [(.int ip0), (.ref w_EISDIR)])
        have f90 := (own_stak S_ENOENT K87 all0)
        have f91 := (own_stak S_EIO K87 all0)
        have f92 := (own_stak S_EBADF K87 all0)
        have f93 := (own_stak S_EACCES K87 all0)
        have f94 := (own_stak S_EEXIST K87 all0)
        have f95 := (own_stak S_ENOTDIR K87 all0)
        have f96 := (own_stak S_EISDIR K87 all0)
        have f97 := (own_stak S_EINVAL K87 all0)
        have f98 := (own_stak S_ENOSPC K87 all0)
        have f99 := (own_stak S_ENAMETOOLONG K87 all0)
        obtain ⟨_, _, ⟨T100, L100, k100, n100⟩, -, X100, ⟨Lc100, hQ100, l100, y100, z100⟩, st100⟩ := Jvm.LawKit.callS X89 hx (y := (⟨"com/example/checkpost/checkpost/protocol/ErrnoByNumberPinLaw", "expected", "(I)Lcom/example/checkpost/checkpost/protocol/Errno;"⟩ : MethodName)) hown (mvT hZ (own_w hw 43 rfl)) (mvT hZ (own_w hw 44 rfl)) (mvT hZ (own_w hw 45 rfl)) (mvT hZ (own_w hw 46 rfl)) (by decide) (backOf (W := 1) (own_rm5 l Z a0 hw [] ip0 w_ENOENT w_EIO w_EBADF w_EACCES w_EEXIST w_ENOTDIR w_EISDIR w_EINVAL w_ENOSPC w_ENAMETOOLONG T87.heap n0 Z87 f90 f91 f92 f93 f94 f95 f96 f97 f98 f99) hZ (own_w hw 46 rfl) (own_w hw 45 rfl) (by decide) (by decide)) (g := (mkF m 29 #[.val (.int ip0), .val (.int ip1), .val (.int ip0), .val (.ref w_EISDIR)] [(.int ip0), (.ref w_EISDIR)])) rfl (by rw [hml]; rfl) (argsL := [(.int ip0)]) (rest := [(.ref w_EISDIR)]) (lenOf own_pd6 rfl) rfl (by show 2 * 0 + _ ≤ _; exact Nat.le_of_eq rfl) (hb hby at_29) (fun _ _ => ⟨rfl, e89, (by decide : 2 + 0 ≤ _), (by decide : 11 + 0 ≤ _)⟩)
        dsimp only [Pt.U, Pt.locs, Pt.cells, Pt.slots] at X100 l100 y100 z100 st100 hQ100
        subst l100 y100 z100
        obtain ⟨N100q, e100, hL100⟩ := hQ100
        have N100 := Fr.app N87 N100q
        rcases hL100 with ⟨rfl, hq100_0_0, -⟩ | ⟨rfl, hq100_1_0, hq100_1_1, -⟩ | ⟨rfl, hq100_2_0, hq100_2_1, hq100_2_2, -⟩ | ⟨rfl, hq100_3_0, hq100_3_1, hq100_3_2, hq100_3_3, -⟩ | ⟨rfl, hq100_4_0, hq100_4_1, hq100_4_2, hq100_4_3, hq100_4_4, -⟩ | ⟨rfl, hq100_5_0, hq100_5_1, hq100_5_2, hq100_5_3, hq100_5_4, hq100_5_5, -⟩ | ⟨rfl, hq100_6_0, hq100_6_1, hq100_6_2, hq100_6_3, hq100_6_4, hq100_6_5, hq100_6_6, -⟩ | ⟨rfl, hq100_7_0, hq100_7_1, hq100_7_2, hq100_7_3, hq100_7_4, hq100_7_5, hq100_7_6, hq100_7_7, -⟩ | ⟨rfl, hq100_8_0, hq100_8_1, hq100_8_2, hq100_8_3, hq100_8_4, hq100_8_5, hq100_8_6, hq100_8_7, hq100_8_8, -⟩ | ⟨rfl, hq100_9_0, hq100_9_1, hq100_9_2, hq100_9_3, hq100_9_4, hq100_9_5, hq100_9_6, hq100_9_7, hq100_9_8, hq100_9_9, -⟩ | ⟨rfl, hq100_10_0, hq100_10_1, hq100_10_2, hq100_10_3, hq100_10_4, hq100_10_5, hq100_10_6, hq100_10_7, hq100_10_8, hq100_10_9, -⟩
        · skip
          exact absurd hq100_0_0 (Ne.symm hq2_6_0)
        · skip
          exact absurd hq100_1_1 (Ne.symm hq2_6_1)
        · skip
          exact absurd hq100_2_2 (Ne.symm hq2_6_2)
        · skip
          exact absurd hq100_3_3 (Ne.symm hq2_6_3)
        · skip
          exact absurd hq100_4_4 (Ne.symm hq2_6_4)
        · skip
          exact absurd hq100_5_5 (Ne.symm hq2_6_5)
        · skip
          refine own_st st100 ?_
          show own_Go _ _ _ _ T100 (mkF m 32 #[.val (.int ip0), .val (.int ip1), .val (.int ip0), .val (.ref w_EISDIR)] [(.ref w_EISDIR), (.ref w_EISDIR)])
          refine own_st (fun t k => Jvm.RoadKit.acmp (g := (mkF m 32 #[.val (.int ip0), .val (.int ip1), .val (.int ip0), .val (.ref w_EISDIR)] [(.ref w_EISDIR), (.ref w_EISDIR)])) X100 hx rfl rfl rfl (pc0 := 32) (pc' := 35) (same := true) rfl (hb hby at_32) rfl (decide_eq_true (congrArg Value.ref (rfl : w_EISDIR = w_EISDIR))) (by decide) (by decide) k) ?_
          show own_Go _ _ _ _ T100 (mkF m 35 #[.val (.int ip0), .val (.int ip1), .val (.int ip0), .val (.ref w_EISDIR)] [])
          refine own_st (fun t k => XS.iconst X100.here hx rfl (hb hby at_35) k) ?_
          show own_Go _ _ _ _ T100 (mkF m 36 #[.val (.int ip0), .val (.int ip1), .val (.int ip0), .val (.ref w_EISDIR)] [(.int (1 : Int32))])
          refine own_st (fun t k => XS.goto X100.here hx rfl (pc0 := 36) (pc' := 40) rfl (hb hby at_36) (by decide) (by decide) k) ?_
          show own_Go _ _ _ _ T100 (mkF m 40 #[.val (.int ip0), .val (.int ip1), .val (.int ip0), .val (.ref w_EISDIR)] [(.int (1 : Int32))])
          exact own_retZ X100 hx hlk (t := .boolean) hret (by simp) (hb hby at_40) (by decide) (by decide) e100 ⟨rfl, N100⟩
        · skip
          exact absurd (Eq.symm hq2_6_6) hq100_7_6
        · skip
          exact absurd (Eq.symm hq2_6_6) hq100_8_6
        · skip
          exact absurd (Eq.symm hq2_6_6) hq100_9_6
        · skip
          exact absurd (Eq.symm hq2_6_6) hq100_10_6
    · skip
      have g_b1x6_3c33c2 : n0 ≤ b1x6_3c33c2 := Nat.le_trans Z0 sq_b1x6_3c33c2
      have sz_b1x6_3c33c2 : h0.size ≤ b1x6_3c33c2 := Nat.le_trans (Keep.refl h0 []).1 sq_b1x6_3c33c2
      refine own_st st2 ?_
      show own_Go _ _ _ _ T2 (mkF m 19 #[.val (.int ip0), .val (.int ip1), .val (.int ip0), .unset] [(.ref b1x6_3c33c2)])
      refine own_st (fun t k => XS.aconstNull X2.here hx rfl (hb hby at_19) k) ?_
      show own_Go _ _ _ _ T2 (mkF m 20 #[.val (.int ip0), .val (.int ip1), .val (.int ip0), .unset] [.null, (.ref b1x6_3c33c2)])
      obtain ⟨cq101, kq101, q101a, q101b, q101c⟩ := isOf hZ rfl Fc2_7_0
      obtain ⟨_, _, ⟨T101, L101, k101, n101⟩, -, X101, ⟨Lc101, hQ101, l101, y101, z101⟩, st101⟩ := X2.virtualBack hx (y := (⟨"java/util/Optional", "orElse", "(Ljava/lang/Object;)Ljava/lang/Object;"⟩ : MethodName)) (z := (⟨"java/util/Optional", "orElse", "(Ljava/lang/Object;)Ljava/lang/Object;"⟩ : MethodName)) hown (mvT hZ (own_w hw 36 rfl)) (mvT hZ (own_w hw 37 rfl)) (notFace_of_selects (args := #[]) (mvT hZ (own_w hw 39 rfl))) (mvT hZ (own_w hw 39 rfl)) (mvT hZ (own_w hw 38 rfl)) (by decide) (backOf (W := 0) (own_rm4_7 l Z a0 hw [] b1x6_3c33c2 w_EINVAL T2.heap n0 Z2 Fc2_7_1) hZ (own_w hw 40 rfl) (own_w hw 33 rfl) (by decide) (by decide)) q101a q101c (g := (mkF m 20 #[.val (.int ip0), .val (.int ip1), .val (.int ip0), .unset] [.null, (.ref b1x6_3c33c2)])) rfl (by rw [hml]; rfl) (Steps.refl _) (argsL := [.null]) (rest := []) (lenOf own_pd1 rfl) rfl (by show 2 * 0 + _ ≤ _; exact Nat.le_of_eq rfl) (hb hby at_20) (fun _ _ => ⟨rfl, rfl, (by decide : 2 + 0 ≤ _), (by decide : 11 + 0 ≤ _)⟩)
      dsimp only [Pt.U, Pt.locs, Pt.cells, Pt.slots] at X101 l101 y101 z101 st101 hQ101
      subst l101 y101 z101
      obtain ⟨N101q, Kq101, hL101⟩ := hQ101
      have N101 := Fr.app N2 N101q
      have K101 : Keep h0 T101.heap [] := K2.trans Kq101 all0
      have Z101 := Nat.le_trans Z2 Kq101.1
      rcases hL101 with ⟨rfl, -⟩
      · skip
        refine own_st (fun t k => st101.trans k) ?_
        show own_Go _ _ _ _ T101 (mkF m 23 #[.val (.int ip0), .val (.int ip1), .val (.int ip0), .unset] [(.ref w_EINVAL)])
        have f102 := (E_w_EINVAL.keep K101)
        obtain ⟨T103, X103, e103, st103⟩ := castY X101 hx hZ hown (own_w hw 63 rfl) rfl (Ins.self f102) (g := (mkF m 23 #[.val (.int ip0), .val (.int ip1), .val (.int ip0), .unset] [(.ref w_EINVAL)])) rfl rfl (hb hby at_23)
        refine own_st st103 ?_
        show own_Go _ _ _ _ T103 (mkF m 26 #[.val (.int ip0), .val (.int ip1), .val (.int ip0), .unset] [(.ref w_EINVAL)])
        refine own_st (fun t k => XS.astoreN X103.here hx rfl (hb hby at_26) rfl rfl (l' := #[.val (.int ip0), .val (.int ip1), .val (.int ip0), .val (.ref w_EINVAL)]) rfl k) ?_
        show own_Go _ _ _ _ T103 (mkF m 27 #[.val (.int ip0), .val (.int ip1), .val (.int ip0), .val (.ref w_EINVAL)] [])
        refine own_st (fun t k => XS.aloadN X103.here hx rfl (hb hby at_27) rfl rfl k) ?_
        show own_Go _ _ _ _ T103 (mkF m 28 #[.val (.int ip0), .val (.int ip1), .val (.int ip0), .val (.ref w_EINVAL)] [(.ref w_EINVAL)])
        refine own_st (fun t k => XS.iloadN X103.here hx rfl (hb hby at_28) rfl k) ?_
        show own_Go _ _ _ _ T103 (mkF m 29 #[.val (.int ip0), .val (.int ip1), .val (.int ip0), .val (.ref w_EINVAL)] [(.int ip0), (.ref w_EINVAL)])
        have f104 := (own_stak S_ENOENT K101 all0)
        have f105 := (own_stak S_EIO K101 all0)
        have f106 := (own_stak S_EBADF K101 all0)
        have f107 := (own_stak S_EACCES K101 all0)
        have f108 := (own_stak S_EEXIST K101 all0)
        have f109 := (own_stak S_ENOTDIR K101 all0)
        have f110 := (own_stak S_EISDIR K101 all0)
        have f111 := (own_stak S_EINVAL K101 all0)
        have f112 := (own_stak S_ENOSPC K101 all0)
        have f113 := (own_stak S_ENAMETOOLONG K101 all0)
        obtain ⟨_, _, ⟨T114, L114, k114, n114⟩, -, X114, ⟨Lc114, hQ114, l114, y114, z114⟩, st114⟩ := Jvm.LawKit.callS X103 hx (y := (⟨"com/example/checkpost/checkpost/protocol/ErrnoByNumberPinLaw", "expected", "(I)Lcom/example/checkpost/checkpost/protocol/Errno;"⟩ : MethodName)) hown (mvT hZ (own_w hw 43 rfl)) (mvT hZ (own_w hw 44 rfl)) (mvT hZ (own_w hw 45 rfl)) (mvT hZ (own_w hw 46 rfl)) (by decide) (backOf (W := 1) (own_rm5 l Z a0 hw [] ip0 w_ENOENT w_EIO w_EBADF w_EACCES w_EEXIST w_ENOTDIR w_EISDIR w_EINVAL w_ENOSPC w_ENAMETOOLONG T101.heap n0 Z101 f104 f105 f106 f107 f108 f109 f110 f111 f112 f113) hZ (own_w hw 46 rfl) (own_w hw 45 rfl) (by decide) (by decide)) (g := (mkF m 29 #[.val (.int ip0), .val (.int ip1), .val (.int ip0), .val (.ref w_EINVAL)] [(.int ip0), (.ref w_EINVAL)])) rfl (by rw [hml]; rfl) (argsL := [(.int ip0)]) (rest := [(.ref w_EINVAL)]) (lenOf own_pd6 rfl) rfl (by show 2 * 0 + _ ≤ _; exact Nat.le_of_eq rfl) (hb hby at_29) (fun _ _ => ⟨rfl, e103, (by decide : 2 + 0 ≤ _), (by decide : 11 + 0 ≤ _)⟩)
        dsimp only [Pt.U, Pt.locs, Pt.cells, Pt.slots] at X114 l114 y114 z114 st114 hQ114
        subst l114 y114 z114
        obtain ⟨N114q, e114, hL114⟩ := hQ114
        have N114 := Fr.app N101 N114q
        rcases hL114 with ⟨rfl, hq114_0_0, -⟩ | ⟨rfl, hq114_1_0, hq114_1_1, -⟩ | ⟨rfl, hq114_2_0, hq114_2_1, hq114_2_2, -⟩ | ⟨rfl, hq114_3_0, hq114_3_1, hq114_3_2, hq114_3_3, -⟩ | ⟨rfl, hq114_4_0, hq114_4_1, hq114_4_2, hq114_4_3, hq114_4_4, -⟩ | ⟨rfl, hq114_5_0, hq114_5_1, hq114_5_2, hq114_5_3, hq114_5_4, hq114_5_5, -⟩ | ⟨rfl, hq114_6_0, hq114_6_1, hq114_6_2, hq114_6_3, hq114_6_4, hq114_6_5, hq114_6_6, -⟩ | ⟨rfl, hq114_7_0, hq114_7_1, hq114_7_2, hq114_7_3, hq114_7_4, hq114_7_5, hq114_7_6, hq114_7_7, -⟩ | ⟨rfl, hq114_8_0, hq114_8_1, hq114_8_2, hq114_8_3, hq114_8_4, hq114_8_5, hq114_8_6, hq114_8_7, hq114_8_8, -⟩ | ⟨rfl, hq114_9_0, hq114_9_1, hq114_9_2, hq114_9_3, hq114_9_4, hq114_9_5, hq114_9_6, hq114_9_7, hq114_9_8, hq114_9_9, -⟩ | ⟨rfl, hq114_10_0, hq114_10_1, hq114_10_2, hq114_10_3, hq114_10_4, hq114_10_5, hq114_10_6, hq114_10_7, hq114_10_8, hq114_10_9, -⟩
        · skip
          exact absurd hq114_0_0 (Ne.symm hq2_7_0)
        · skip
          exact absurd hq114_1_1 (Ne.symm hq2_7_1)
        · skip
          exact absurd hq114_2_2 (Ne.symm hq2_7_2)
        · skip
          exact absurd hq114_3_3 (Ne.symm hq2_7_3)
        · skip
          exact absurd hq114_4_4 (Ne.symm hq2_7_4)
        · skip
          exact absurd hq114_5_5 (Ne.symm hq2_7_5)
        · skip
          exact absurd hq114_6_6 (Ne.symm hq2_7_6)
        · skip
          refine own_st st114 ?_
          show own_Go _ _ _ _ T114 (mkF m 32 #[.val (.int ip0), .val (.int ip1), .val (.int ip0), .val (.ref w_EINVAL)] [(.ref w_EINVAL), (.ref w_EINVAL)])
          refine own_st (fun t k => Jvm.RoadKit.acmp (g := (mkF m 32 #[.val (.int ip0), .val (.int ip1), .val (.int ip0), .val (.ref w_EINVAL)] [(.ref w_EINVAL), (.ref w_EINVAL)])) X114 hx rfl rfl rfl (pc0 := 32) (pc' := 35) (same := true) rfl (hb hby at_32) rfl (decide_eq_true (congrArg Value.ref (rfl : w_EINVAL = w_EINVAL))) (by decide) (by decide) k) ?_
          show own_Go _ _ _ _ T114 (mkF m 35 #[.val (.int ip0), .val (.int ip1), .val (.int ip0), .val (.ref w_EINVAL)] [])
          refine own_st (fun t k => XS.iconst X114.here hx rfl (hb hby at_35) k) ?_
          show own_Go _ _ _ _ T114 (mkF m 36 #[.val (.int ip0), .val (.int ip1), .val (.int ip0), .val (.ref w_EINVAL)] [(.int (1 : Int32))])
          refine own_st (fun t k => XS.goto X114.here hx rfl (pc0 := 36) (pc' := 40) rfl (hb hby at_36) (by decide) (by decide) k) ?_
          show own_Go _ _ _ _ T114 (mkF m 40 #[.val (.int ip0), .val (.int ip1), .val (.int ip0), .val (.ref w_EINVAL)] [(.int (1 : Int32))])
          exact own_retZ X114 hx hlk (t := .boolean) hret (by simp) (hb hby at_40) (by decide) (by decide) e114 ⟨rfl, N114⟩
        · skip
          exact absurd (Eq.symm hq2_7_7) hq114_8_7
        · skip
          exact absurd (Eq.symm hq2_7_7) hq114_9_7
        · skip
          exact absurd (Eq.symm hq2_7_7) hq114_10_7
    · skip
      have g_b1x6_3c37c2 : n0 ≤ b1x6_3c37c2 := Nat.le_trans Z0 sq_b1x6_3c37c2
      have sz_b1x6_3c37c2 : h0.size ≤ b1x6_3c37c2 := Nat.le_trans (Keep.refl h0 []).1 sq_b1x6_3c37c2
      refine own_st st2 ?_
      show own_Go _ _ _ _ T2 (mkF m 19 #[.val (.int ip0), .val (.int ip1), .val (.int ip0), .unset] [(.ref b1x6_3c37c2)])
      refine own_st (fun t k => XS.aconstNull X2.here hx rfl (hb hby at_19) k) ?_
      show own_Go _ _ _ _ T2 (mkF m 20 #[.val (.int ip0), .val (.int ip1), .val (.int ip0), .unset] [.null, (.ref b1x6_3c37c2)])
      obtain ⟨cq115, kq115, q115a, q115b, q115c⟩ := isOf hZ rfl Fc2_8_0
      obtain ⟨_, _, ⟨T115, L115, k115, n115⟩, -, X115, ⟨Lc115, hQ115, l115, y115, z115⟩, st115⟩ := X2.virtualBack hx (y := (⟨"java/util/Optional", "orElse", "(Ljava/lang/Object;)Ljava/lang/Object;"⟩ : MethodName)) (z := (⟨"java/util/Optional", "orElse", "(Ljava/lang/Object;)Ljava/lang/Object;"⟩ : MethodName)) hown (mvT hZ (own_w hw 36 rfl)) (mvT hZ (own_w hw 37 rfl)) (notFace_of_selects (args := #[]) (mvT hZ (own_w hw 39 rfl))) (mvT hZ (own_w hw 39 rfl)) (mvT hZ (own_w hw 38 rfl)) (by decide) (backOf (W := 0) (own_rm4_7 l Z a0 hw [] b1x6_3c37c2 w_ENOSPC T2.heap n0 Z2 Fc2_8_1) hZ (own_w hw 40 rfl) (own_w hw 33 rfl) (by decide) (by decide)) q115a q115c (g := (mkF m 20 #[.val (.int ip0), .val (.int ip1), .val (.int ip0), .unset] [.null, (.ref b1x6_3c37c2)])) rfl (by rw [hml]; rfl) (Steps.refl _) (argsL := [.null]) (rest := []) (lenOf own_pd1 rfl) rfl (by show 2 * 0 + _ ≤ _; exact Nat.le_of_eq rfl) (hb hby at_20) (fun _ _ => ⟨rfl, rfl, (by decide : 2 + 0 ≤ _), (by decide : 11 + 0 ≤ _)⟩)
      dsimp only [Pt.U, Pt.locs, Pt.cells, Pt.slots] at X115 l115 y115 z115 st115 hQ115
      subst l115 y115 z115
      obtain ⟨N115q, Kq115, hL115⟩ := hQ115
      have N115 := Fr.app N2 N115q
      have K115 : Keep h0 T115.heap [] := K2.trans Kq115 all0
      have Z115 := Nat.le_trans Z2 Kq115.1
      rcases hL115 with ⟨rfl, -⟩
      · skip
        refine own_st (fun t k => st115.trans k) ?_
        show own_Go _ _ _ _ T115 (mkF m 23 #[.val (.int ip0), .val (.int ip1), .val (.int ip0), .unset] [(.ref w_ENOSPC)])
        have f116 := (E_w_ENOSPC.keep K115)
        obtain ⟨T117, X117, e117, st117⟩ := castY X115 hx hZ hown (own_w hw 63 rfl) rfl (Ins.self f116) (g := (mkF m 23 #[.val (.int ip0), .val (.int ip1), .val (.int ip0), .unset] [(.ref w_ENOSPC)])) rfl rfl (hb hby at_23)
        refine own_st st117 ?_
        show own_Go _ _ _ _ T117 (mkF m 26 #[.val (.int ip0), .val (.int ip1), .val (.int ip0), .unset] [(.ref w_ENOSPC)])
        refine own_st (fun t k => XS.astoreN X117.here hx rfl (hb hby at_26) rfl rfl (l' := #[.val (.int ip0), .val (.int ip1), .val (.int ip0), .val (.ref w_ENOSPC)]) rfl k) ?_
        show own_Go _ _ _ _ T117 (mkF m 27 #[.val (.int ip0), .val (.int ip1), .val (.int ip0), .val (.ref w_ENOSPC)] [])
        refine own_st (fun t k => XS.aloadN X117.here hx rfl (hb hby at_27) rfl rfl k) ?_
        show own_Go _ _ _ _ T117 (mkF m 28 #[.val (.int ip0), .val (.int ip1), .val (.int ip0), .val (.ref w_ENOSPC)] [(.ref w_ENOSPC)])
        refine own_st (fun t k => XS.iloadN X117.here hx rfl (hb hby at_28) rfl k) ?_
        show own_Go _ _ _ _ T117 (mkF m 29 #[.val (.int ip0), .val (.int ip1), .val (.int ip0), .val (.ref w_ENOSPC)] [(.int ip0), (.ref w_ENOSPC)])
        have f118 := (own_stak S_ENOENT K115 all0)
        have f119 := (own_stak S_EIO K115 all0)
        have f120 := (own_stak S_EBADF K115 all0)
        have f121 := (own_stak S_EACCES K115 all0)
        have f122 := (own_stak S_EEXIST K115 all0)
        have f123 := (own_stak S_ENOTDIR K115 all0)
        have f124 := (own_stak S_EISDIR K115 all0)
        have f125 := (own_stak S_EINVAL K115 all0)
        have f126 := (own_stak S_ENOSPC K115 all0)
        have f127 := (own_stak S_ENAMETOOLONG K115 all0)
        obtain ⟨_, _, ⟨T128, L128, k128, n128⟩, -, X128, ⟨Lc128, hQ128, l128, y128, z128⟩, st128⟩ := Jvm.LawKit.callS X117 hx (y := (⟨"com/example/checkpost/checkpost/protocol/ErrnoByNumberPinLaw", "expected", "(I)Lcom/example/checkpost/checkpost/protocol/Errno;"⟩ : MethodName)) hown (mvT hZ (own_w hw 43 rfl)) (mvT hZ (own_w hw 44 rfl)) (mvT hZ (own_w hw 45 rfl)) (mvT hZ (own_w hw 46 rfl)) (by decide) (backOf (W := 1) (own_rm5 l Z a0 hw [] ip0 w_ENOENT w_EIO w_EBADF w_EACCES w_EEXIST w_ENOTDIR w_EISDIR w_EINVAL w_ENOSPC w_ENAMETOOLONG T115.heap n0 Z115 f118 f119 f120 f121 f122 f123 f124 f125 f126 f127) hZ (own_w hw 46 rfl) (own_w hw 45 rfl) (by decide) (by decide)) (g := (mkF m 29 #[.val (.int ip0), .val (.int ip1), .val (.int ip0), .val (.ref w_ENOSPC)] [(.int ip0), (.ref w_ENOSPC)])) rfl (by rw [hml]; rfl) (argsL := [(.int ip0)]) (rest := [(.ref w_ENOSPC)]) (lenOf own_pd6 rfl) rfl (by show 2 * 0 + _ ≤ _; exact Nat.le_of_eq rfl) (hb hby at_29) (fun _ _ => ⟨rfl, e117, (by decide : 2 + 0 ≤ _), (by decide : 11 + 0 ≤ _)⟩)
        dsimp only [Pt.U, Pt.locs, Pt.cells, Pt.slots] at X128 l128 y128 z128 st128 hQ128
        subst l128 y128 z128
        obtain ⟨N128q, e128, hL128⟩ := hQ128
        have N128 := Fr.app N115 N128q
        rcases hL128 with ⟨rfl, hq128_0_0, -⟩ | ⟨rfl, hq128_1_0, hq128_1_1, -⟩ | ⟨rfl, hq128_2_0, hq128_2_1, hq128_2_2, -⟩ | ⟨rfl, hq128_3_0, hq128_3_1, hq128_3_2, hq128_3_3, -⟩ | ⟨rfl, hq128_4_0, hq128_4_1, hq128_4_2, hq128_4_3, hq128_4_4, -⟩ | ⟨rfl, hq128_5_0, hq128_5_1, hq128_5_2, hq128_5_3, hq128_5_4, hq128_5_5, -⟩ | ⟨rfl, hq128_6_0, hq128_6_1, hq128_6_2, hq128_6_3, hq128_6_4, hq128_6_5, hq128_6_6, -⟩ | ⟨rfl, hq128_7_0, hq128_7_1, hq128_7_2, hq128_7_3, hq128_7_4, hq128_7_5, hq128_7_6, hq128_7_7, -⟩ | ⟨rfl, hq128_8_0, hq128_8_1, hq128_8_2, hq128_8_3, hq128_8_4, hq128_8_5, hq128_8_6, hq128_8_7, hq128_8_8, -⟩ | ⟨rfl, hq128_9_0, hq128_9_1, hq128_9_2, hq128_9_3, hq128_9_4, hq128_9_5, hq128_9_6, hq128_9_7, hq128_9_8, hq128_9_9, -⟩ | ⟨rfl, hq128_10_0, hq128_10_1, hq128_10_2, hq128_10_3, hq128_10_4, hq128_10_5, hq128_10_6, hq128_10_7, hq128_10_8, hq128_10_9, -⟩
        · skip
          exact absurd hq128_0_0 (Ne.symm hq2_8_0)
        · skip
          exact absurd hq128_1_1 (Ne.symm hq2_8_1)
        · skip
          exact absurd hq128_2_2 (Ne.symm hq2_8_2)
        · skip
          exact absurd hq128_3_3 (Ne.symm hq2_8_3)
        · skip
          exact absurd hq128_4_4 (Ne.symm hq2_8_4)
        · skip
          exact absurd hq128_5_5 (Ne.symm hq2_8_5)
        · skip
          exact absurd hq128_6_6 (Ne.symm hq2_8_6)
        · skip
          exact absurd hq128_7_7 (Ne.symm hq2_8_7)
        · skip
          refine own_st st128 ?_
          show own_Go _ _ _ _ T128 (mkF m 32 #[.val (.int ip0), .val (.int ip1), .val (.int ip0), .val (.ref w_ENOSPC)] [(.ref w_ENOSPC), (.ref w_ENOSPC)])
          refine own_st (fun t k => Jvm.RoadKit.acmp (g := (mkF m 32 #[.val (.int ip0), .val (.int ip1), .val (.int ip0), .val (.ref w_ENOSPC)] [(.ref w_ENOSPC), (.ref w_ENOSPC)])) X128 hx rfl rfl rfl (pc0 := 32) (pc' := 35) (same := true) rfl (hb hby at_32) rfl (decide_eq_true (congrArg Value.ref (rfl : w_ENOSPC = w_ENOSPC))) (by decide) (by decide) k) ?_
          show own_Go _ _ _ _ T128 (mkF m 35 #[.val (.int ip0), .val (.int ip1), .val (.int ip0), .val (.ref w_ENOSPC)] [])
          refine own_st (fun t k => XS.iconst X128.here hx rfl (hb hby at_35) k) ?_
          show own_Go _ _ _ _ T128 (mkF m 36 #[.val (.int ip0), .val (.int ip1), .val (.int ip0), .val (.ref w_ENOSPC)] [(.int (1 : Int32))])
          refine own_st (fun t k => XS.goto X128.here hx rfl (pc0 := 36) (pc' := 40) rfl (hb hby at_36) (by decide) (by decide) k) ?_
          show own_Go _ _ _ _ T128 (mkF m 40 #[.val (.int ip0), .val (.int ip1), .val (.int ip0), .val (.ref w_ENOSPC)] [(.int (1 : Int32))])
          exact own_retZ X128 hx hlk (t := .boolean) hret (by simp) (hb hby at_40) (by decide) (by decide) e128 ⟨rfl, N128⟩
        · skip
          exact absurd (Eq.symm hq2_8_8) hq128_9_8
        · skip
          exact absurd (Eq.symm hq2_8_8) hq128_10_8
    · skip
      have g_b1x6_3c41c2 : n0 ≤ b1x6_3c41c2 := Nat.le_trans Z0 sq_b1x6_3c41c2
      have sz_b1x6_3c41c2 : h0.size ≤ b1x6_3c41c2 := Nat.le_trans (Keep.refl h0 []).1 sq_b1x6_3c41c2
      refine own_st st2 ?_
      show own_Go _ _ _ _ T2 (mkF m 19 #[.val (.int ip0), .val (.int ip1), .val (.int ip0), .unset] [(.ref b1x6_3c41c2)])
      refine own_st (fun t k => XS.aconstNull X2.here hx rfl (hb hby at_19) k) ?_
      show own_Go _ _ _ _ T2 (mkF m 20 #[.val (.int ip0), .val (.int ip1), .val (.int ip0), .unset] [.null, (.ref b1x6_3c41c2)])
      obtain ⟨cq129, kq129, q129a, q129b, q129c⟩ := isOf hZ rfl Fc2_9_0
      obtain ⟨_, _, ⟨T129, L129, k129, n129⟩, -, X129, ⟨Lc129, hQ129, l129, y129, z129⟩, st129⟩ := X2.virtualBack hx (y := (⟨"java/util/Optional", "orElse", "(Ljava/lang/Object;)Ljava/lang/Object;"⟩ : MethodName)) (z := (⟨"java/util/Optional", "orElse", "(Ljava/lang/Object;)Ljava/lang/Object;"⟩ : MethodName)) hown (mvT hZ (own_w hw 36 rfl)) (mvT hZ (own_w hw 37 rfl)) (notFace_of_selects (args := #[]) (mvT hZ (own_w hw 39 rfl))) (mvT hZ (own_w hw 39 rfl)) (mvT hZ (own_w hw 38 rfl)) (by decide) (backOf (W := 0) (own_rm4_7 l Z a0 hw [] b1x6_3c41c2 w_ENAMETOOLONG T2.heap n0 Z2 Fc2_9_1) hZ (own_w hw 40 rfl) (own_w hw 33 rfl) (by decide) (by decide)) q129a q129c (g := (mkF m 20 #[.val (.int ip0), .val (.int ip1), .val (.int ip0), .unset] [.null, (.ref b1x6_3c41c2)])) rfl (by rw [hml]; rfl) (Steps.refl _) (argsL := [.null]) (rest := []) (lenOf own_pd1 rfl) rfl (by show 2 * 0 + _ ≤ _; exact Nat.le_of_eq rfl) (hb hby at_20) (fun _ _ => ⟨rfl, rfl, (by decide : 2 + 0 ≤ _), (by decide : 11 + 0 ≤ _)⟩)
      dsimp only [Pt.U, Pt.locs, Pt.cells, Pt.slots] at X129 l129 y129 z129 st129 hQ129
      subst l129 y129 z129
      obtain ⟨N129q, Kq129, hL129⟩ := hQ129
      have N129 := Fr.app N2 N129q
      have K129 : Keep h0 T129.heap [] := K2.trans Kq129 all0
      have Z129 := Nat.le_trans Z2 Kq129.1
      rcases hL129 with ⟨rfl, -⟩
      · skip
        refine own_st (fun t k => st129.trans k) ?_
        show own_Go _ _ _ _ T129 (mkF m 23 #[.val (.int ip0), .val (.int ip1), .val (.int ip0), .unset] [(.ref w_ENAMETOOLONG)])
        have f130 := (E_w_ENAMETOOLONG.keep K129)
        obtain ⟨T131, X131, e131, st131⟩ := castY X129 hx hZ hown (own_w hw 63 rfl) rfl (Ins.self f130) (g := (mkF m 23 #[.val (.int ip0), .val (.int ip1), .val (.int ip0), .unset] [(.ref w_ENAMETOOLONG)])) rfl rfl (hb hby at_23)
        refine own_st st131 ?_
        show own_Go _ _ _ _ T131 (mkF m 26 #[.val (.int ip0), .val (.int ip1), .val (.int ip0), .unset] [(.ref w_ENAMETOOLONG)])
        refine own_st (fun t k => XS.astoreN X131.here hx rfl (hb hby at_26) rfl rfl (l' := #[.val (.int ip0), .val (.int ip1), .val (.int ip0), .val (.ref w_ENAMETOOLONG)]) rfl k) ?_
        show own_Go _ _ _ _ T131 (mkF m 27 #[.val (.int ip0), .val (.int ip1), .val (.int ip0), .val (.ref w_ENAMETOOLONG)] [])
        refine own_st (fun t k => XS.aloadN X131.here hx rfl (hb hby at_27) rfl rfl k) ?_
        show own_Go _ _ _ _ T131 (mkF m 28 #[.val (.int ip0), .val (.int ip1), .val (.int ip0), .val (.ref w_ENAMETOOLONG)] [(.ref w_ENAMETOOLONG)])
        refine own_st (fun t k => XS.iloadN X131.here hx rfl (hb hby at_28) rfl k) ?_
        show own_Go _ _ _ _ T131 (mkF m 29 #[.val (.int ip0), .val (.int ip1), .val (.int ip0), .val (.ref w_ENAMETOOLONG)] [(.int ip0), (.ref w_ENAMETOOLONG)])
        have f132 := (own_stak S_ENOENT K129 all0)
        have f133 := (own_stak S_EIO K129 all0)
        have f134 := (own_stak S_EBADF K129 all0)
        have f135 := (own_stak S_EACCES K129 all0)
        have f136 := (own_stak S_EEXIST K129 all0)
        have f137 := (own_stak S_ENOTDIR K129 all0)
        have f138 := (own_stak S_EISDIR K129 all0)
        have f139 := (own_stak S_EINVAL K129 all0)
        have f140 := (own_stak S_ENOSPC K129 all0)
        have f141 := (own_stak S_ENAMETOOLONG K129 all0)
        obtain ⟨_, _, ⟨T142, L142, k142, n142⟩, -, X142, ⟨Lc142, hQ142, l142, y142, z142⟩, st142⟩ := Jvm.LawKit.callS X131 hx (y := (⟨"com/example/checkpost/checkpost/protocol/ErrnoByNumberPinLaw", "expected", "(I)Lcom/example/checkpost/checkpost/protocol/Errno;"⟩ : MethodName)) hown (mvT hZ (own_w hw 43 rfl)) (mvT hZ (own_w hw 44 rfl)) (mvT hZ (own_w hw 45 rfl)) (mvT hZ (own_w hw 46 rfl)) (by decide) (backOf (W := 1) (own_rm5 l Z a0 hw [] ip0 w_ENOENT w_EIO w_EBADF w_EACCES w_EEXIST w_ENOTDIR w_EISDIR w_EINVAL w_ENOSPC w_ENAMETOOLONG T129.heap n0 Z129 f132 f133 f134 f135 f136 f137 f138 f139 f140 f141) hZ (own_w hw 46 rfl) (own_w hw 45 rfl) (by decide) (by decide)) (g := (mkF m 29 #[.val (.int ip0), .val (.int ip1), .val (.int ip0), .val (.ref w_ENAMETOOLONG)] [(.int ip0), (.ref w_ENAMETOOLONG)])) rfl (by rw [hml]; rfl) (argsL := [(.int ip0)]) (rest := [(.ref w_ENAMETOOLONG)]) (lenOf own_pd6 rfl) rfl (by show 2 * 0 + _ ≤ _; exact Nat.le_of_eq rfl) (hb hby at_29) (fun _ _ => ⟨rfl, e131, (by decide : 2 + 0 ≤ _), (by decide : 11 + 0 ≤ _)⟩)
        dsimp only [Pt.U, Pt.locs, Pt.cells, Pt.slots] at X142 l142 y142 z142 st142 hQ142
        subst l142 y142 z142
        obtain ⟨N142q, e142, hL142⟩ := hQ142
        have N142 := Fr.app N129 N142q
        rcases hL142 with ⟨rfl, hq142_0_0, -⟩ | ⟨rfl, hq142_1_0, hq142_1_1, -⟩ | ⟨rfl, hq142_2_0, hq142_2_1, hq142_2_2, -⟩ | ⟨rfl, hq142_3_0, hq142_3_1, hq142_3_2, hq142_3_3, -⟩ | ⟨rfl, hq142_4_0, hq142_4_1, hq142_4_2, hq142_4_3, hq142_4_4, -⟩ | ⟨rfl, hq142_5_0, hq142_5_1, hq142_5_2, hq142_5_3, hq142_5_4, hq142_5_5, -⟩ | ⟨rfl, hq142_6_0, hq142_6_1, hq142_6_2, hq142_6_3, hq142_6_4, hq142_6_5, hq142_6_6, -⟩ | ⟨rfl, hq142_7_0, hq142_7_1, hq142_7_2, hq142_7_3, hq142_7_4, hq142_7_5, hq142_7_6, hq142_7_7, -⟩ | ⟨rfl, hq142_8_0, hq142_8_1, hq142_8_2, hq142_8_3, hq142_8_4, hq142_8_5, hq142_8_6, hq142_8_7, hq142_8_8, -⟩ | ⟨rfl, hq142_9_0, hq142_9_1, hq142_9_2, hq142_9_3, hq142_9_4, hq142_9_5, hq142_9_6, hq142_9_7, hq142_9_8, hq142_9_9, -⟩ | ⟨rfl, hq142_10_0, hq142_10_1, hq142_10_2, hq142_10_3, hq142_10_4, hq142_10_5, hq142_10_6, hq142_10_7, hq142_10_8, hq142_10_9, -⟩
        · skip
          exact absurd hq142_0_0 (Ne.symm hq2_9_0)
        · skip
          exact absurd hq142_1_1 (Ne.symm hq2_9_1)
        · skip
          exact absurd hq142_2_2 (Ne.symm hq2_9_2)
        · skip
          exact absurd hq142_3_3 (Ne.symm hq2_9_3)
        · skip
          exact absurd hq142_4_4 (Ne.symm hq2_9_4)
        · skip
          exact absurd hq142_5_5 (Ne.symm hq2_9_5)
        · skip
          exact absurd hq142_6_6 (Ne.symm hq2_9_6)
        · skip
          exact absurd hq142_7_7 (Ne.symm hq2_9_7)
        · skip
          exact absurd hq142_8_8 (Ne.symm hq2_9_8)
        · skip
          refine own_st st142 ?_
          show own_Go _ _ _ _ T142 (mkF m 32 #[.val (.int ip0), .val (.int ip1), .val (.int ip0), .val (.ref w_ENAMETOOLONG)] [(.ref w_ENAMETOOLONG), (.ref w_ENAMETOOLONG)])
          refine own_st (fun t k => Jvm.RoadKit.acmp (g := (mkF m 32 #[.val (.int ip0), .val (.int ip1), .val (.int ip0), .val (.ref w_ENAMETOOLONG)] [(.ref w_ENAMETOOLONG), (.ref w_ENAMETOOLONG)])) X142 hx rfl rfl rfl (pc0 := 32) (pc' := 35) (same := true) rfl (hb hby at_32) rfl (decide_eq_true (congrArg Value.ref (rfl : w_ENAMETOOLONG = w_ENAMETOOLONG))) (by decide) (by decide) k) ?_
          show own_Go _ _ _ _ T142 (mkF m 35 #[.val (.int ip0), .val (.int ip1), .val (.int ip0), .val (.ref w_ENAMETOOLONG)] [])
          refine own_st (fun t k => XS.iconst X142.here hx rfl (hb hby at_35) k) ?_
          show own_Go _ _ _ _ T142 (mkF m 36 #[.val (.int ip0), .val (.int ip1), .val (.int ip0), .val (.ref w_ENAMETOOLONG)] [(.int (1 : Int32))])
          refine own_st (fun t k => XS.goto X142.here hx rfl (pc0 := 36) (pc' := 40) rfl (hb hby at_36) (by decide) (by decide) k) ?_
          show own_Go _ _ _ _ T142 (mkF m 40 #[.val (.int ip0), .val (.int ip1), .val (.int ip0), .val (.ref w_ENAMETOOLONG)] [(.int (1 : Int32))])
          exact own_retZ X142 hx hlk (t := .boolean) hret (by simp) (hb hby at_40) (by decide) (by decide) e142 ⟨rfl, N142⟩
        · skip
          exact absurd (Eq.symm hq2_9_9) hq142_10_9
    · skip
      refine own_st st2 ?_
      show own_Go _ _ _ _ T2 (mkF m 19 #[.val (.int ip0), .val (.int ip1), .val (.int ip0), .unset] [(.ref w_EMPTY)])
      refine own_st (fun t k => XS.aconstNull X2.here hx rfl (hb hby at_19) k) ?_
      show own_Go _ _ _ _ T2 (mkF m 20 #[.val (.int ip0), .val (.int ip1), .val (.int ip0), .unset] [.null, (.ref w_EMPTY)])
      have f143 := (F_value_w_EMPTY.keep Kq2 nin0)
      have f145 := (E_w_EMPTY.keep Kq2)
      obtain ⟨cq144, kq144, q144a, q144b, q144c⟩ := isOf hZ rfl f145
      obtain ⟨_, _, ⟨T144, L144, k144, n144⟩, -, X144, ⟨Lc144, hQ144, l144, y144, z144⟩, st144⟩ := X2.virtualBack hx (y := (⟨"java/util/Optional", "orElse", "(Ljava/lang/Object;)Ljava/lang/Object;"⟩ : MethodName)) (z := (⟨"java/util/Optional", "orElse", "(Ljava/lang/Object;)Ljava/lang/Object;"⟩ : MethodName)) hown (mvT hZ (own_w hw 36 rfl)) (mvT hZ (own_w hw 37 rfl)) (notFace_of_selects (args := #[]) (mvT hZ (own_w hw 39 rfl))) (mvT hZ (own_w hw 39 rfl)) (mvT hZ (own_w hw 38 rfl)) (by decide) (backOf (W := 0) (own_rm4_8 l Z a0 hw [] w_EMPTY T2.heap n0 Z2 f143) hZ (own_w hw 40 rfl) (own_w hw 33 rfl) (by decide) (by decide)) q144a q144c (g := (mkF m 20 #[.val (.int ip0), .val (.int ip1), .val (.int ip0), .unset] [.null, (.ref w_EMPTY)])) rfl (by rw [hml]; rfl) (Steps.refl _) (argsL := [.null]) (rest := []) (lenOf own_pd1 rfl) rfl (by show 2 * 0 + _ ≤ _; exact Nat.le_of_eq rfl) (hb hby at_20) (fun _ _ => ⟨rfl, rfl, (by decide : 2 + 0 ≤ _), (by decide : 11 + 0 ≤ _)⟩)
      dsimp only [Pt.U, Pt.locs, Pt.cells, Pt.slots] at X144 l144 y144 z144 st144 hQ144
      subst l144 y144 z144
      obtain ⟨N144q, Kq144, hL144⟩ := hQ144
      have N144 := Fr.app N2 N144q
      have K144 : Keep h0 T144.heap [] := K2.trans Kq144 all0
      have Z144 := Nat.le_trans Z2 Kq144.1
      rcases hL144 with ⟨rfl, -⟩
      · skip
        refine own_st (fun t k => st144.trans k) ?_
        show own_Go _ _ _ _ T144 (mkF m 23 #[.val (.int ip0), .val (.int ip1), .val (.int ip0), .unset] [.null])
        refine own_st (X144.checkcastNull hx (g := (mkF m 23 #[.val (.int ip0), .val (.int ip1), .val (.int ip0), .unset] [.null])) rfl rfl (hb hby at_23)) ?_
        show own_Go _ _ _ _ T144 (mkF m 26 #[.val (.int ip0), .val (.int ip1), .val (.int ip0), .unset] [.null])
        refine own_st (fun t k => XS.astoreN X144.here hx rfl (hb hby at_26) rfl rfl (l' := #[.val (.int ip0), .val (.int ip1), .val (.int ip0), .val .null]) rfl k) ?_
        show own_Go _ _ _ _ T144 (mkF m 27 #[.val (.int ip0), .val (.int ip1), .val (.int ip0), .val .null] [])
        refine own_st (fun t k => XS.aloadN X144.here hx rfl (hb hby at_27) rfl rfl k) ?_
        show own_Go _ _ _ _ T144 (mkF m 28 #[.val (.int ip0), .val (.int ip1), .val (.int ip0), .val .null] [.null])
        refine own_st (fun t k => XS.iloadN X144.here hx rfl (hb hby at_28) rfl k) ?_
        show own_Go _ _ _ _ T144 (mkF m 29 #[.val (.int ip0), .val (.int ip1), .val (.int ip0), .val .null] [(.int ip0), .null])
        have f146 := (own_stak S_ENOENT K144 all0)
        have f147 := (own_stak S_EIO K144 all0)
        have f148 := (own_stak S_EBADF K144 all0)
        have f149 := (own_stak S_EACCES K144 all0)
        have f150 := (own_stak S_EEXIST K144 all0)
        have f151 := (own_stak S_ENOTDIR K144 all0)
        have f152 := (own_stak S_EISDIR K144 all0)
        have f153 := (own_stak S_EINVAL K144 all0)
        have f154 := (own_stak S_ENOSPC K144 all0)
        have f155 := (own_stak S_ENAMETOOLONG K144 all0)
        obtain ⟨_, _, ⟨T156, L156, k156, n156⟩, -, X156, ⟨Lc156, hQ156, l156, y156, z156⟩, st156⟩ := Jvm.LawKit.callS X144 hx (y := (⟨"com/example/checkpost/checkpost/protocol/ErrnoByNumberPinLaw", "expected", "(I)Lcom/example/checkpost/checkpost/protocol/Errno;"⟩ : MethodName)) hown (mvT hZ (own_w hw 43 rfl)) (mvT hZ (own_w hw 44 rfl)) (mvT hZ (own_w hw 45 rfl)) (mvT hZ (own_w hw 46 rfl)) (by decide) (backOf (W := 1) (own_rm5 l Z a0 hw [] ip0 w_ENOENT w_EIO w_EBADF w_EACCES w_EEXIST w_ENOTDIR w_EISDIR w_EINVAL w_ENOSPC w_ENAMETOOLONG T144.heap n0 Z144 f146 f147 f148 f149 f150 f151 f152 f153 f154 f155) hZ (own_w hw 46 rfl) (own_w hw 45 rfl) (by decide) (by decide)) (g := (mkF m 29 #[.val (.int ip0), .val (.int ip1), .val (.int ip0), .val .null] [(.int ip0), .null])) rfl (by rw [hml]; rfl) (argsL := [(.int ip0)]) (rest := [.null]) (lenOf own_pd6 rfl) rfl (by show 2 * 0 + _ ≤ _; exact Nat.le_of_eq rfl) (hb hby at_29) (fun _ _ => ⟨rfl, rfl, (by decide : 2 + 0 ≤ _), (by decide : 11 + 0 ≤ _)⟩)
        dsimp only [Pt.U, Pt.locs, Pt.cells, Pt.slots] at X156 l156 y156 z156 st156 hQ156
        subst l156 y156 z156
        obtain ⟨N156q, e156, hL156⟩ := hQ156
        have N156 := Fr.app N144 N156q
        rcases hL156 with ⟨rfl, hq156_0_0, -⟩ | ⟨rfl, hq156_1_0, hq156_1_1, -⟩ | ⟨rfl, hq156_2_0, hq156_2_1, hq156_2_2, -⟩ | ⟨rfl, hq156_3_0, hq156_3_1, hq156_3_2, hq156_3_3, -⟩ | ⟨rfl, hq156_4_0, hq156_4_1, hq156_4_2, hq156_4_3, hq156_4_4, -⟩ | ⟨rfl, hq156_5_0, hq156_5_1, hq156_5_2, hq156_5_3, hq156_5_4, hq156_5_5, -⟩ | ⟨rfl, hq156_6_0, hq156_6_1, hq156_6_2, hq156_6_3, hq156_6_4, hq156_6_5, hq156_6_6, -⟩ | ⟨rfl, hq156_7_0, hq156_7_1, hq156_7_2, hq156_7_3, hq156_7_4, hq156_7_5, hq156_7_6, hq156_7_7, -⟩ | ⟨rfl, hq156_8_0, hq156_8_1, hq156_8_2, hq156_8_3, hq156_8_4, hq156_8_5, hq156_8_6, hq156_8_7, hq156_8_8, -⟩ | ⟨rfl, hq156_9_0, hq156_9_1, hq156_9_2, hq156_9_3, hq156_9_4, hq156_9_5, hq156_9_6, hq156_9_7, hq156_9_8, hq156_9_9, -⟩ | ⟨rfl, hq156_10_0, hq156_10_1, hq156_10_2, hq156_10_3, hq156_10_4, hq156_10_5, hq156_10_6, hq156_10_7, hq156_10_8, hq156_10_9, -⟩
        · skip
          exact absurd hq156_0_0 (Ne.symm hq2_10_0)
        · skip
          exact absurd hq156_1_1 (Ne.symm hq2_10_1)
        · skip
          exact absurd hq156_2_2 (Ne.symm hq2_10_2)
        · skip
          exact absurd hq156_3_3 (Ne.symm hq2_10_3)
        · skip
          exact absurd hq156_4_4 (Ne.symm hq2_10_4)
        · skip
          exact absurd hq156_5_5 (Ne.symm hq2_10_5)
        · skip
          exact absurd hq156_6_6 (Ne.symm hq2_10_6)
        · skip
          exact absurd hq156_7_7 (Ne.symm hq2_10_7)
        · skip
          exact absurd hq156_8_8 (Ne.symm hq2_10_8)
        · skip
          exact absurd hq156_9_9 (Ne.symm hq2_10_9)
        · skip
          refine own_st st156 ?_
          show own_Go _ _ _ _ T156 (mkF m 32 #[.val (.int ip0), .val (.int ip1), .val (.int ip0), .val .null] [.null, .null])
          refine own_st (fun t k => Jvm.RoadKit.acmp (g := (mkF m 32 #[.val (.int ip0), .val (.int ip1), .val (.int ip0), .val .null] [.null, .null])) X156 hx rfl rfl rfl (pc0 := 32) (pc' := 35) (same := true) rfl (hb hby at_32) rfl (decide_eq_true rfl) (by decide) (by decide) k) ?_
          show own_Go _ _ _ _ T156 (mkF m 35 #[.val (.int ip0), .val (.int ip1), .val (.int ip0), .val .null] [])
          refine own_st (fun t k => XS.iconst X156.here hx rfl (hb hby at_35) k) ?_
          show own_Go _ _ _ _ T156 (mkF m 36 #[.val (.int ip0), .val (.int ip1), .val (.int ip0), .val .null] [(.int (1 : Int32))])
          refine own_st (fun t k => XS.goto X156.here hx rfl (pc0 := 36) (pc' := 40) rfl (hb hby at_36) (by decide) (by decide) k) ?_
          show own_Go _ _ _ _ T156 (mkF m 40 #[.val (.int ip0), .val (.int ip1), .val (.int ip0), .val .null] [(.int (1 : Int32))])
          exact own_retZ X156 hx hlk (t := .boolean) hret (by simp) (hb hby at_40) (by decide) (by decide) e156 ⟨rfl, N156⟩
  · skip
    refine own_st (fun t k => XS.ifYes X0.here hx rfl (pc0 := 3) (pc' := 10) rfl (hb hby at_3) rfl ((if0 _ _).trans (feq hc1).2) (by decide) (by decide) k) ?_
    show own_Go _ _ _ _ s₁ (mkF m 10 #[.val (.int ip0), .val (.int ip1), .unset, .unset] [])
    refine own_st (fun t k => XS.iloadN X0.here hx rfl (hb hby at_10) rfl k) ?_
    show own_Go _ _ _ _ s₁ (mkF m 11 #[.val (.int ip0), .val (.int ip1), .unset, .unset] [(.int ip0)])
    refine own_st (fun t k => XS.bipush X0.here hx rfl (hb hby at_11) k) ?_
    show own_Go _ _ _ _ s₁ (mkF m 13 #[.val (.int ip0), .val (.int ip1), .unset, .unset] [(.int (63 : Int32)), (.int ip0)])
    refine own_st (fun t k => XS.iand X0.here hx rfl (hb hby at_13) rfl k) ?_
    show own_Go _ _ _ _ s₁ (mkF m 14 #[.val (.int ip0), .val (.int ip1), .unset, .unset] [(.int (ip0 &&& (63 : Int32)))])
    refine own_st (fun t k => XS.istoreN X0.here hx rfl (hb hby at_14) rfl (l' := #[.val (.int ip0), .val (.int ip1), .val (.int (ip0 &&& (63 : Int32))), .unset]) rfl k) ?_
    show own_Go _ _ _ _ s₁ (mkF m 15 #[.val (.int ip0), .val (.int ip1), .val (.int (ip0 &&& (63 : Int32))), .unset] [])
    refine own_st (fun t k => XS.iloadN X0.here hx rfl (hb hby at_15) rfl k) ?_
    show own_Go _ _ _ _ s₁ (mkF m 16 #[.val (.int ip0), .val (.int ip1), .val (.int (ip0 &&& (63 : Int32))), .unset] [(.int (ip0 &&& (63 : Int32)))])
    obtain ⟨_, _, ⟨T157, L157, k157, n157⟩, -, X157, ⟨Lc157, hQ157, l157, y157, z157⟩, st157⟩ := Jvm.LawKit.callS X0 hx (y := (⟨"com/example/checkpost/checkpost/protocol/Errno", "byNumber", "(I)Ljava/util/Optional;"⟩ : MethodName)) hown (mvT hZ (own_w hw 0 rfl)) (mvT hZ (own_w hw 1 rfl)) (mvT hZ (own_w hw 2 rfl)) (mvT hZ (own_w hw 3 rfl)) (by decide) (backOf (W := 0) (own_rm1_1 l Z a0 hw [] (ip0 &&& (63 : Int32)) w__VALUES k_w__VALUES w_ENOENT w_EIO w_EBADF w_EACCES w_EEXIST w_ENOTDIR w_EISDIR w_EINVAL w_ENOSPC w_ENAMETOOLONG w_EMPTY h0 n0 Z0 S__VALUES V_w__VALUES E_w__VALUES F_number_w_ENOENT F_number_w_EIO F_number_w_EBADF F_number_w_EACCES F_number_w_EEXIST F_number_w_ENOTDIR F_number_w_EISDIR F_number_w_EINVAL F_number_w_ENOSPC F_number_w_ENAMETOOLONG S_EMPTY) hZ (own_w hw 3 rfl) (own_w hw 2 rfl) (by decide) (by decide)) (g := (mkF m 16 #[.val (.int ip0), .val (.int ip1), .val (.int (ip0 &&& (63 : Int32))), .unset] [(.int (ip0 &&& (63 : Int32)))])) rfl (by rw [hml]; rfl) (argsL := [(.int (ip0 &&& (63 : Int32)))]) (rest := []) (lenOf own_pd5 rfl) rfl (by show 2 * 0 + _ ≤ _; exact Nat.le_of_eq rfl) (hb hby at_16) (fun _ _ => ⟨rfl, e0, (by decide : 0 + 2 ≤ _), (by decide : 0 + 11 ≤ _)⟩)
    dsimp only [Pt.U, Pt.locs, Pt.cells, Pt.slots] at X157 l157 y157 z157 st157 hQ157
    subst l157 y157 z157
    obtain ⟨N157q, Kq157, hL157⟩ := hQ157
    have N157 := Fr.app N0 N157q
    have K157 : Keep h0 T157.heap [] := (Keep.refl h0 []).trans Kq157 all0
    have Z157 := Nat.le_trans Z0 Kq157.1
    rcases hL157 with ⟨b1x6_3c5c157, rfl, hq157_0_0, sq_b1x6_3c5c157, Fc157_0_0, Fc157_0_1, -⟩ | ⟨b1x6_3c9c157, rfl, hq157_1_0, hq157_1_1, sq_b1x6_3c9c157, Fc157_1_0, Fc157_1_1, -⟩ | ⟨b1x6_3c13c157, rfl, hq157_2_0, hq157_2_1, hq157_2_2, sq_b1x6_3c13c157, Fc157_2_0, Fc157_2_1, -⟩ | ⟨b1x6_3c17c157, rfl, hq157_3_0, hq157_3_1, hq157_3_2, hq157_3_3, sq_b1x6_3c17c157, Fc157_3_0, Fc157_3_1, -⟩ | ⟨b1x6_3c21c157, rfl, hq157_4_0, hq157_4_1, hq157_4_2, hq157_4_3, hq157_4_4, sq_b1x6_3c21c157, Fc157_4_0, Fc157_4_1, -⟩ | ⟨b1x6_3c25c157, rfl, hq157_5_0, hq157_5_1, hq157_5_2, hq157_5_3, hq157_5_4, hq157_5_5, sq_b1x6_3c25c157, Fc157_5_0, Fc157_5_1, -⟩ | ⟨b1x6_3c29c157, rfl, hq157_6_0, hq157_6_1, hq157_6_2, hq157_6_3, hq157_6_4, hq157_6_5, hq157_6_6, sq_b1x6_3c29c157, Fc157_6_0, Fc157_6_1, -⟩ | ⟨b1x6_3c33c157, rfl, hq157_7_0, hq157_7_1, hq157_7_2, hq157_7_3, hq157_7_4, hq157_7_5, hq157_7_6, hq157_7_7, sq_b1x6_3c33c157, Fc157_7_0, Fc157_7_1, -⟩ | ⟨b1x6_3c37c157, rfl, hq157_8_0, hq157_8_1, hq157_8_2, hq157_8_3, hq157_8_4, hq157_8_5, hq157_8_6, hq157_8_7, hq157_8_8, sq_b1x6_3c37c157, Fc157_8_0, Fc157_8_1, -⟩ | ⟨b1x6_3c41c157, rfl, hq157_9_0, hq157_9_1, hq157_9_2, hq157_9_3, hq157_9_4, hq157_9_5, hq157_9_6, hq157_9_7, hq157_9_8, hq157_9_9, sq_b1x6_3c41c157, Fc157_9_0, Fc157_9_1, -⟩ | ⟨rfl, hq157_10_0, hq157_10_1, hq157_10_2, hq157_10_3, hq157_10_4, hq157_10_5, hq157_10_6, hq157_10_7, hq157_10_8, hq157_10_9, -⟩
    · skip
      have g_b1x6_3c5c157 : n0 ≤ b1x6_3c5c157 := Nat.le_trans Z0 sq_b1x6_3c5c157
      have sz_b1x6_3c5c157 : h0.size ≤ b1x6_3c5c157 := Nat.le_trans (Keep.refl h0 []).1 sq_b1x6_3c5c157
      refine own_st st157 ?_
      show own_Go _ _ _ _ T157 (mkF m 19 #[.val (.int ip0), .val (.int ip1), .val (.int (ip0 &&& (63 : Int32))), .unset] [(.ref b1x6_3c5c157)])
      refine own_st (fun t k => XS.aconstNull X157.here hx rfl (hb hby at_19) k) ?_
      show own_Go _ _ _ _ T157 (mkF m 20 #[.val (.int ip0), .val (.int ip1), .val (.int (ip0 &&& (63 : Int32))), .unset] [.null, (.ref b1x6_3c5c157)])
      obtain ⟨cq158, kq158, q158a, q158b, q158c⟩ := isOf hZ rfl Fc157_0_0
      obtain ⟨_, _, ⟨T158, L158, k158, n158⟩, -, X158, ⟨Lc158, hQ158, l158, y158, z158⟩, st158⟩ := X157.virtualBack hx (y := (⟨"java/util/Optional", "orElse", "(Ljava/lang/Object;)Ljava/lang/Object;"⟩ : MethodName)) (z := (⟨"java/util/Optional", "orElse", "(Ljava/lang/Object;)Ljava/lang/Object;"⟩ : MethodName)) hown (mvT hZ (own_w hw 36 rfl)) (mvT hZ (own_w hw 37 rfl)) (notFace_of_selects (args := #[]) (mvT hZ (own_w hw 39 rfl))) (mvT hZ (own_w hw 39 rfl)) (mvT hZ (own_w hw 38 rfl)) (by decide) (backOf (W := 0) (own_rm4_7 l Z a0 hw [] b1x6_3c5c157 w_ENOENT T157.heap n0 Z157 Fc157_0_1) hZ (own_w hw 40 rfl) (own_w hw 33 rfl) (by decide) (by decide)) q158a q158c (g := (mkF m 20 #[.val (.int ip0), .val (.int ip1), .val (.int (ip0 &&& (63 : Int32))), .unset] [.null, (.ref b1x6_3c5c157)])) rfl (by rw [hml]; rfl) (Steps.refl _) (argsL := [.null]) (rest := []) (lenOf own_pd1 rfl) rfl (by show 2 * 0 + _ ≤ _; exact Nat.le_of_eq rfl) (hb hby at_20) (fun _ _ => ⟨rfl, rfl, (by decide : 2 + 0 ≤ _), (by decide : 11 + 0 ≤ _)⟩)
      dsimp only [Pt.U, Pt.locs, Pt.cells, Pt.slots] at X158 l158 y158 z158 st158 hQ158
      subst l158 y158 z158
      obtain ⟨N158q, Kq158, hL158⟩ := hQ158
      have N158 := Fr.app N157 N158q
      have K158 : Keep h0 T158.heap [] := K157.trans Kq158 all0
      have Z158 := Nat.le_trans Z157 Kq158.1
      rcases hL158 with ⟨rfl, -⟩
      · skip
        refine own_st (fun t k => st158.trans k) ?_
        show own_Go _ _ _ _ T158 (mkF m 23 #[.val (.int ip0), .val (.int ip1), .val (.int (ip0 &&& (63 : Int32))), .unset] [(.ref w_ENOENT)])
        have f159 := (E_w_ENOENT.keep K158)
        obtain ⟨T160, X160, e160, st160⟩ := castY X158 hx hZ hown (own_w hw 63 rfl) rfl (Ins.self f159) (g := (mkF m 23 #[.val (.int ip0), .val (.int ip1), .val (.int (ip0 &&& (63 : Int32))), .unset] [(.ref w_ENOENT)])) rfl rfl (hb hby at_23)
        refine own_st st160 ?_
        show own_Go _ _ _ _ T160 (mkF m 26 #[.val (.int ip0), .val (.int ip1), .val (.int (ip0 &&& (63 : Int32))), .unset] [(.ref w_ENOENT)])
        refine own_st (fun t k => XS.astoreN X160.here hx rfl (hb hby at_26) rfl rfl (l' := #[.val (.int ip0), .val (.int ip1), .val (.int (ip0 &&& (63 : Int32))), .val (.ref w_ENOENT)]) rfl k) ?_
        show own_Go _ _ _ _ T160 (mkF m 27 #[.val (.int ip0), .val (.int ip1), .val (.int (ip0 &&& (63 : Int32))), .val (.ref w_ENOENT)] [])
        refine own_st (fun t k => XS.aloadN X160.here hx rfl (hb hby at_27) rfl rfl k) ?_
        show own_Go _ _ _ _ T160 (mkF m 28 #[.val (.int ip0), .val (.int ip1), .val (.int (ip0 &&& (63 : Int32))), .val (.ref w_ENOENT)] [(.ref w_ENOENT)])
        refine own_st (fun t k => XS.iloadN X160.here hx rfl (hb hby at_28) rfl k) ?_
        show own_Go _ _ _ _ T160 (mkF m 29 #[.val (.int ip0), .val (.int ip1), .val (.int (ip0 &&& (63 : Int32))), .val (.ref w_ENOENT)] [(.int (ip0 &&& (63 : Int32))), (.ref w_ENOENT)])
        have f161 := (own_stak S_ENOENT K158 all0)
        have f162 := (own_stak S_EIO K158 all0)
        have f163 := (own_stak S_EBADF K158 all0)
        have f164 := (own_stak S_EACCES K158 all0)
        have f165 := (own_stak S_EEXIST K158 all0)
        have f166 := (own_stak S_ENOTDIR K158 all0)
        have f167 := (own_stak S_EISDIR K158 all0)
        have f168 := (own_stak S_EINVAL K158 all0)
        have f169 := (own_stak S_ENOSPC K158 all0)
        have f170 := (own_stak S_ENAMETOOLONG K158 all0)
        obtain ⟨_, _, ⟨T171, L171, k171, n171⟩, -, X171, ⟨Lc171, hQ171, l171, y171, z171⟩, st171⟩ := Jvm.LawKit.callS X160 hx (y := (⟨"com/example/checkpost/checkpost/protocol/ErrnoByNumberPinLaw", "expected", "(I)Lcom/example/checkpost/checkpost/protocol/Errno;"⟩ : MethodName)) hown (mvT hZ (own_w hw 43 rfl)) (mvT hZ (own_w hw 44 rfl)) (mvT hZ (own_w hw 45 rfl)) (mvT hZ (own_w hw 46 rfl)) (by decide) (backOf (W := 1) (own_rm5 l Z a0 hw [] (ip0 &&& (63 : Int32)) w_ENOENT w_EIO w_EBADF w_EACCES w_EEXIST w_ENOTDIR w_EISDIR w_EINVAL w_ENOSPC w_ENAMETOOLONG T158.heap n0 Z158 f161 f162 f163 f164 f165 f166 f167 f168 f169 f170) hZ (own_w hw 46 rfl) (own_w hw 45 rfl) (by decide) (by decide)) (g := (mkF m 29 #[.val (.int ip0), .val (.int ip1), .val (.int (ip0 &&& (63 : Int32))), .val (.ref w_ENOENT)] [(.int (ip0 &&& (63 : Int32))), (.ref w_ENOENT)])) rfl (by rw [hml]; rfl) (argsL := [(.int (ip0 &&& (63 : Int32)))]) (rest := [(.ref w_ENOENT)]) (lenOf own_pd6 rfl) rfl (by show 2 * 0 + _ ≤ _; exact Nat.le_of_eq rfl) (hb hby at_29) (fun _ _ => ⟨rfl, e160, (by decide : 2 + 0 ≤ _), (by decide : 11 + 0 ≤ _)⟩)
        dsimp only [Pt.U, Pt.locs, Pt.cells, Pt.slots] at X171 l171 y171 z171 st171 hQ171
        subst l171 y171 z171
        obtain ⟨N171q, e171, hL171⟩ := hQ171
        have N171 := Fr.app N158 N171q
        rcases hL171 with ⟨rfl, hq171_0_0, -⟩ | ⟨rfl, hq171_1_0, hq171_1_1, -⟩ | ⟨rfl, hq171_2_0, hq171_2_1, hq171_2_2, -⟩ | ⟨rfl, hq171_3_0, hq171_3_1, hq171_3_2, hq171_3_3, -⟩ | ⟨rfl, hq171_4_0, hq171_4_1, hq171_4_2, hq171_4_3, hq171_4_4, -⟩ | ⟨rfl, hq171_5_0, hq171_5_1, hq171_5_2, hq171_5_3, hq171_5_4, hq171_5_5, -⟩ | ⟨rfl, hq171_6_0, hq171_6_1, hq171_6_2, hq171_6_3, hq171_6_4, hq171_6_5, hq171_6_6, -⟩ | ⟨rfl, hq171_7_0, hq171_7_1, hq171_7_2, hq171_7_3, hq171_7_4, hq171_7_5, hq171_7_6, hq171_7_7, -⟩ | ⟨rfl, hq171_8_0, hq171_8_1, hq171_8_2, hq171_8_3, hq171_8_4, hq171_8_5, hq171_8_6, hq171_8_7, hq171_8_8, -⟩ | ⟨rfl, hq171_9_0, hq171_9_1, hq171_9_2, hq171_9_3, hq171_9_4, hq171_9_5, hq171_9_6, hq171_9_7, hq171_9_8, hq171_9_9, -⟩ | ⟨rfl, hq171_10_0, hq171_10_1, hq171_10_2, hq171_10_3, hq171_10_4, hq171_10_5, hq171_10_6, hq171_10_7, hq171_10_8, hq171_10_9, -⟩
        · skip
          refine own_st st171 ?_
          show own_Go _ _ _ _ T171 (mkF m 32 #[.val (.int ip0), .val (.int ip1), .val (.int (ip0 &&& (63 : Int32))), .val (.ref w_ENOENT)] [(.ref w_ENOENT), (.ref w_ENOENT)])
          refine own_st (fun t k => Jvm.RoadKit.acmp (g := (mkF m 32 #[.val (.int ip0), .val (.int ip1), .val (.int (ip0 &&& (63 : Int32))), .val (.ref w_ENOENT)] [(.ref w_ENOENT), (.ref w_ENOENT)])) X171 hx rfl rfl rfl (pc0 := 32) (pc' := 35) (same := true) rfl (hb hby at_32) rfl (decide_eq_true (congrArg Value.ref (rfl : w_ENOENT = w_ENOENT))) (by decide) (by decide) k) ?_
          show own_Go _ _ _ _ T171 (mkF m 35 #[.val (.int ip0), .val (.int ip1), .val (.int (ip0 &&& (63 : Int32))), .val (.ref w_ENOENT)] [])
          refine own_st (fun t k => XS.iconst X171.here hx rfl (hb hby at_35) k) ?_
          show own_Go _ _ _ _ T171 (mkF m 36 #[.val (.int ip0), .val (.int ip1), .val (.int (ip0 &&& (63 : Int32))), .val (.ref w_ENOENT)] [(.int (1 : Int32))])
          refine own_st (fun t k => XS.goto X171.here hx rfl (pc0 := 36) (pc' := 40) rfl (hb hby at_36) (by decide) (by decide) k) ?_
          show own_Go _ _ _ _ T171 (mkF m 40 #[.val (.int ip0), .val (.int ip1), .val (.int (ip0 &&& (63 : Int32))), .val (.ref w_ENOENT)] [(.int (1 : Int32))])
          exact own_retZ X171 hx hlk (t := .boolean) hret (by simp) (hb hby at_40) (by decide) (by decide) e171 ⟨rfl, N171⟩
        · skip
          exact absurd (Eq.symm hq157_0_0) hq171_1_0
        · skip
          exact absurd (Eq.symm hq157_0_0) hq171_2_0
        · skip
          exact absurd (Eq.symm hq157_0_0) hq171_3_0
        · skip
          exact absurd (Eq.symm hq157_0_0) hq171_4_0
        · skip
          exact absurd (Eq.symm hq157_0_0) hq171_5_0
        · skip
          exact absurd (Eq.symm hq157_0_0) hq171_6_0
        · skip
          exact absurd (Eq.symm hq157_0_0) hq171_7_0
        · skip
          exact absurd (Eq.symm hq157_0_0) hq171_8_0
        · skip
          exact absurd (Eq.symm hq157_0_0) hq171_9_0
        · skip
          exact absurd (Eq.symm hq157_0_0) hq171_10_0
    · skip
      have g_b1x6_3c9c157 : n0 ≤ b1x6_3c9c157 := Nat.le_trans Z0 sq_b1x6_3c9c157
      have sz_b1x6_3c9c157 : h0.size ≤ b1x6_3c9c157 := Nat.le_trans (Keep.refl h0 []).1 sq_b1x6_3c9c157
      refine own_st st157 ?_
      show own_Go _ _ _ _ T157 (mkF m 19 #[.val (.int ip0), .val (.int ip1), .val (.int (ip0 &&& (63 : Int32))), .unset] [(.ref b1x6_3c9c157)])
      refine own_st (fun t k => XS.aconstNull X157.here hx rfl (hb hby at_19) k) ?_
      show own_Go _ _ _ _ T157 (mkF m 20 #[.val (.int ip0), .val (.int ip1), .val (.int (ip0 &&& (63 : Int32))), .unset] [.null, (.ref b1x6_3c9c157)])
      obtain ⟨cq172, kq172, q172a, q172b, q172c⟩ := isOf hZ rfl Fc157_1_0
      obtain ⟨_, _, ⟨T172, L172, k172, n172⟩, -, X172, ⟨Lc172, hQ172, l172, y172, z172⟩, st172⟩ := X157.virtualBack hx (y := (⟨"java/util/Optional", "orElse", "(Ljava/lang/Object;)Ljava/lang/Object;"⟩ : MethodName)) (z := (⟨"java/util/Optional", "orElse", "(Ljava/lang/Object;)Ljava/lang/Object;"⟩ : MethodName)) hown (mvT hZ (own_w hw 36 rfl)) (mvT hZ (own_w hw 37 rfl)) (notFace_of_selects (args := #[]) (mvT hZ (own_w hw 39 rfl))) (mvT hZ (own_w hw 39 rfl)) (mvT hZ (own_w hw 38 rfl)) (by decide) (backOf (W := 0) (own_rm4_7 l Z a0 hw [] b1x6_3c9c157 w_EIO T157.heap n0 Z157 Fc157_1_1) hZ (own_w hw 40 rfl) (own_w hw 33 rfl) (by decide) (by decide)) q172a q172c (g := (mkF m 20 #[.val (.int ip0), .val (.int ip1), .val (.int (ip0 &&& (63 : Int32))), .unset] [.null, (.ref b1x6_3c9c157)])) rfl (by rw [hml]; rfl) (Steps.refl _) (argsL := [.null]) (rest := []) (lenOf own_pd1 rfl) rfl (by show 2 * 0 + _ ≤ _; exact Nat.le_of_eq rfl) (hb hby at_20) (fun _ _ => ⟨rfl, rfl, (by decide : 2 + 0 ≤ _), (by decide : 11 + 0 ≤ _)⟩)
      dsimp only [Pt.U, Pt.locs, Pt.cells, Pt.slots] at X172 l172 y172 z172 st172 hQ172
      subst l172 y172 z172
      obtain ⟨N172q, Kq172, hL172⟩ := hQ172
      have N172 := Fr.app N157 N172q
      have K172 : Keep h0 T172.heap [] := K157.trans Kq172 all0
      have Z172 := Nat.le_trans Z157 Kq172.1
      rcases hL172 with ⟨rfl, -⟩
      · skip
        refine own_st (fun t k => st172.trans k) ?_
        show own_Go _ _ _ _ T172 (mkF m 23 #[.val (.int ip0), .val (.int ip1), .val (.int (ip0 &&& (63 : Int32))), .unset] [(.ref w_EIO)])
        have f173 := (E_w_EIO.keep K172)
        obtain ⟨T174, X174, e174, st174⟩ := castY X172 hx hZ hown (own_w hw 63 rfl) rfl (Ins.self f173) (g := (mkF m 23 #[.val (.int ip0), .val (.int ip1), .val (.int (ip0 &&& (63 : Int32))), .unset] [(.ref w_EIO)])) rfl rfl (hb hby at_23)
        refine own_st st174 ?_
        show own_Go _ _ _ _ T174 (mkF m 26 #[.val (.int ip0), .val (.int ip1), .val (.int (ip0 &&& (63 : Int32))), .unset] [(.ref w_EIO)])
        refine own_st (fun t k => XS.astoreN X174.here hx rfl (hb hby at_26) rfl rfl (l' := #[.val (.int ip0), .val (.int ip1), .val (.int (ip0 &&& (63 : Int32))), .val (.ref w_EIO)]) rfl k) ?_
        show own_Go _ _ _ _ T174 (mkF m 27 #[.val (.int ip0), .val (.int ip1), .val (.int (ip0 &&& (63 : Int32))), .val (.ref w_EIO)] [])
        refine own_st (fun t k => XS.aloadN X174.here hx rfl (hb hby at_27) rfl rfl k) ?_
        show own_Go _ _ _ _ T174 (mkF m 28 #[.val (.int ip0), .val (.int ip1), .val (.int (ip0 &&& (63 : Int32))), .val (.ref w_EIO)] [(.ref w_EIO)])
        refine own_st (fun t k => XS.iloadN X174.here hx rfl (hb hby at_28) rfl k) ?_
        show own_Go _ _ _ _ T174 (mkF m 29 #[.val (.int ip0), .val (.int ip1), .val (.int (ip0 &&& (63 : Int32))), .val (.ref w_EIO)] [(.int (ip0 &&& (63 : Int32))), (.ref w_EIO)])
        have f175 := (own_stak S_ENOENT K172 all0)
        have f176 := (own_stak S_EIO K172 all0)
        have f177 := (own_stak S_EBADF K172 all0)
        have f178 := (own_stak S_EACCES K172 all0)
        have f179 := (own_stak S_EEXIST K172 all0)
        have f180 := (own_stak S_ENOTDIR K172 all0)
        have f181 := (own_stak S_EISDIR K172 all0)
        have f182 := (own_stak S_EINVAL K172 all0)
        have f183 := (own_stak S_ENOSPC K172 all0)
        have f184 := (own_stak S_ENAMETOOLONG K172 all0)
        obtain ⟨_, _, ⟨T185, L185, k185, n185⟩, -, X185, ⟨Lc185, hQ185, l185, y185, z185⟩, st185⟩ := Jvm.LawKit.callS X174 hx (y := (⟨"com/example/checkpost/checkpost/protocol/ErrnoByNumberPinLaw", "expected", "(I)Lcom/example/checkpost/checkpost/protocol/Errno;"⟩ : MethodName)) hown (mvT hZ (own_w hw 43 rfl)) (mvT hZ (own_w hw 44 rfl)) (mvT hZ (own_w hw 45 rfl)) (mvT hZ (own_w hw 46 rfl)) (by decide) (backOf (W := 1) (own_rm5 l Z a0 hw [] (ip0 &&& (63 : Int32)) w_ENOENT w_EIO w_EBADF w_EACCES w_EEXIST w_ENOTDIR w_EISDIR w_EINVAL w_ENOSPC w_ENAMETOOLONG T172.heap n0 Z172 f175 f176 f177 f178 f179 f180 f181 f182 f183 f184) hZ (own_w hw 46 rfl) (own_w hw 45 rfl) (by decide) (by decide)) (g := (mkF m 29 #[.val (.int ip0), .val (.int ip1), .val (.int (ip0 &&& (63 : Int32))), .val (.ref w_EIO)] [(.int (ip0 &&& (63 : Int32))), (.ref w_EIO)])) rfl (by rw [hml]; rfl) (argsL := [(.int (ip0 &&& (63 : Int32)))]) (rest := [(.ref w_EIO)]) (lenOf own_pd6 rfl) rfl (by show 2 * 0 + _ ≤ _; exact Nat.le_of_eq rfl) (hb hby at_29) (fun _ _ => ⟨rfl, e174, (by decide : 2 + 0 ≤ _), (by decide : 11 + 0 ≤ _)⟩)
        dsimp only [Pt.U, Pt.locs, Pt.cells, Pt.slots] at X185 l185 y185 z185 st185 hQ185
        subst l185 y185 z185
        obtain ⟨N185q, e185, hL185⟩ := hQ185
        have N185 := Fr.app N172 N185q
        rcases hL185 with ⟨rfl, hq185_0_0, -⟩ | ⟨rfl, hq185_1_0, hq185_1_1, -⟩ | ⟨rfl, hq185_2_0, hq185_2_1, hq185_2_2, -⟩ | ⟨rfl, hq185_3_0, hq185_3_1, hq185_3_2, hq185_3_3, -⟩ | ⟨rfl, hq185_4_0, hq185_4_1, hq185_4_2, hq185_4_3, hq185_4_4, -⟩ | ⟨rfl, hq185_5_0, hq185_5_1, hq185_5_2, hq185_5_3, hq185_5_4, hq185_5_5, -⟩ | ⟨rfl, hq185_6_0, hq185_6_1, hq185_6_2, hq185_6_3, hq185_6_4, hq185_6_5, hq185_6_6, -⟩ | ⟨rfl, hq185_7_0, hq185_7_1, hq185_7_2, hq185_7_3, hq185_7_4, hq185_7_5, hq185_7_6, hq185_7_7, -⟩ | ⟨rfl, hq185_8_0, hq185_8_1, hq185_8_2, hq185_8_3, hq185_8_4, hq185_8_5, hq185_8_6, hq185_8_7, hq185_8_8, -⟩ | ⟨rfl, hq185_9_0, hq185_9_1, hq185_9_2, hq185_9_3, hq185_9_4, hq185_9_5, hq185_9_6, hq185_9_7, hq185_9_8, hq185_9_9, -⟩ | ⟨rfl, hq185_10_0, hq185_10_1, hq185_10_2, hq185_10_3, hq185_10_4, hq185_10_5, hq185_10_6, hq185_10_7, hq185_10_8, hq185_10_9, -⟩
        · skip
          exact absurd hq185_0_0 (Ne.symm hq157_1_0)
        · skip
          refine own_st st185 ?_
          show own_Go _ _ _ _ T185 (mkF m 32 #[.val (.int ip0), .val (.int ip1), .val (.int (ip0 &&& (63 : Int32))), .val (.ref w_EIO)] [(.ref w_EIO), (.ref w_EIO)])
          refine own_st (fun t k => Jvm.RoadKit.acmp (g := (mkF m 32 #[.val (.int ip0), .val (.int ip1), .val (.int (ip0 &&& (63 : Int32))), .val (.ref w_EIO)] [(.ref w_EIO), (.ref w_EIO)])) X185 hx rfl rfl rfl (pc0 := 32) (pc' := 35) (same := true) rfl (hb hby at_32) rfl (decide_eq_true (congrArg Value.ref (rfl : w_EIO = w_EIO))) (by decide) (by decide) k) ?_
          show own_Go _ _ _ _ T185 (mkF m 35 #[.val (.int ip0), .val (.int ip1), .val (.int (ip0 &&& (63 : Int32))), .val (.ref w_EIO)] [])
          refine own_st (fun t k => XS.iconst X185.here hx rfl (hb hby at_35) k) ?_
          show own_Go _ _ _ _ T185 (mkF m 36 #[.val (.int ip0), .val (.int ip1), .val (.int (ip0 &&& (63 : Int32))), .val (.ref w_EIO)] [(.int (1 : Int32))])
          refine own_st (fun t k => XS.goto X185.here hx rfl (pc0 := 36) (pc' := 40) rfl (hb hby at_36) (by decide) (by decide) k) ?_
          show own_Go _ _ _ _ T185 (mkF m 40 #[.val (.int ip0), .val (.int ip1), .val (.int (ip0 &&& (63 : Int32))), .val (.ref w_EIO)] [(.int (1 : Int32))])
          exact own_retZ X185 hx hlk (t := .boolean) hret (by simp) (hb hby at_40) (by decide) (by decide) e185 ⟨rfl, N185⟩
        · skip
          exact absurd (Eq.symm hq157_1_1) hq185_2_1
        · skip
          exact absurd (Eq.symm hq157_1_1) hq185_3_1
        · skip
          exact absurd (Eq.symm hq157_1_1) hq185_4_1
        · skip
          exact absurd (Eq.symm hq157_1_1) hq185_5_1
        · skip
          exact absurd (Eq.symm hq157_1_1) hq185_6_1
        · skip
          exact absurd (Eq.symm hq157_1_1) hq185_7_1
        · skip
          exact absurd (Eq.symm hq157_1_1) hq185_8_1
        · skip
          exact absurd (Eq.symm hq157_1_1) hq185_9_1
        · skip
          exact absurd (Eq.symm hq157_1_1) hq185_10_1
    · skip
      have g_b1x6_3c13c157 : n0 ≤ b1x6_3c13c157 := Nat.le_trans Z0 sq_b1x6_3c13c157
      have sz_b1x6_3c13c157 : h0.size ≤ b1x6_3c13c157 := Nat.le_trans (Keep.refl h0 []).1 sq_b1x6_3c13c157
      refine own_st st157 ?_
      show own_Go _ _ _ _ T157 (mkF m 19 #[.val (.int ip0), .val (.int ip1), .val (.int (ip0 &&& (63 : Int32))), .unset] [(.ref b1x6_3c13c157)])
      refine own_st (fun t k => XS.aconstNull X157.here hx rfl (hb hby at_19) k) ?_
      show own_Go _ _ _ _ T157 (mkF m 20 #[.val (.int ip0), .val (.int ip1), .val (.int (ip0 &&& (63 : Int32))), .unset] [.null, (.ref b1x6_3c13c157)])
      obtain ⟨cq186, kq186, q186a, q186b, q186c⟩ := isOf hZ rfl Fc157_2_0
      obtain ⟨_, _, ⟨T186, L186, k186, n186⟩, -, X186, ⟨Lc186, hQ186, l186, y186, z186⟩, st186⟩ := X157.virtualBack hx (y := (⟨"java/util/Optional", "orElse", "(Ljava/lang/Object;)Ljava/lang/Object;"⟩ : MethodName)) (z := (⟨"java/util/Optional", "orElse", "(Ljava/lang/Object;)Ljava/lang/Object;"⟩ : MethodName)) hown (mvT hZ (own_w hw 36 rfl)) (mvT hZ (own_w hw 37 rfl)) (notFace_of_selects (args := #[]) (mvT hZ (own_w hw 39 rfl))) (mvT hZ (own_w hw 39 rfl)) (mvT hZ (own_w hw 38 rfl)) (by decide) (backOf (W := 0) (own_rm4_7 l Z a0 hw [] b1x6_3c13c157 w_EBADF T157.heap n0 Z157 Fc157_2_1) hZ (own_w hw 40 rfl) (own_w hw 33 rfl) (by decide) (by decide)) q186a q186c (g := (mkF m 20 #[.val (.int ip0), .val (.int ip1), .val (.int (ip0 &&& (63 : Int32))), .unset] [.null, (.ref b1x6_3c13c157)])) rfl (by rw [hml]; rfl) (Steps.refl _) (argsL := [.null]) (rest := []) (lenOf own_pd1 rfl) rfl (by show 2 * 0 + _ ≤ _; exact Nat.le_of_eq rfl) (hb hby at_20) (fun _ _ => ⟨rfl, rfl, (by decide : 2 + 0 ≤ _), (by decide : 11 + 0 ≤ _)⟩)
      dsimp only [Pt.U, Pt.locs, Pt.cells, Pt.slots] at X186 l186 y186 z186 st186 hQ186
      subst l186 y186 z186
      obtain ⟨N186q, Kq186, hL186⟩ := hQ186
      have N186 := Fr.app N157 N186q
      have K186 : Keep h0 T186.heap [] := K157.trans Kq186 all0
      have Z186 := Nat.le_trans Z157 Kq186.1
      rcases hL186 with ⟨rfl, -⟩
      · skip
        refine own_st (fun t k => st186.trans k) ?_
        show own_Go _ _ _ _ T186 (mkF m 23 #[.val (.int ip0), .val (.int ip1), .val (.int (ip0 &&& (63 : Int32))), .unset] [(.ref w_EBADF)])
        have f187 := (E_w_EBADF.keep K186)
        obtain ⟨T188, X188, e188, st188⟩ := castY X186 hx hZ hown (own_w hw 63 rfl) rfl (Ins.self f187) (g := (mkF m 23 #[.val (.int ip0), .val (.int ip1), .val (.int (ip0 &&& (63 : Int32))), .unset] [(.ref w_EBADF)])) rfl rfl (hb hby at_23)
        refine own_st st188 ?_
        show own_Go _ _ _ _ T188 (mkF m 26 #[.val (.int ip0), .val (.int ip1), .val (.int (ip0 &&& (63 : Int32))), .unset] [(.ref w_EBADF)])
        refine own_st (fun t k => XS.astoreN X188.here hx rfl (hb hby at_26) rfl rfl (l' := #[.val (.int ip0), .val (.int ip1), .val (.int (ip0 &&& (63 : Int32))), .val (.ref w_EBADF)]) rfl k) ?_
        show own_Go _ _ _ _ T188 (mkF m 27 #[.val (.int ip0), .val (.int ip1), .val (.int (ip0 &&& (63 : Int32))), .val (.ref w_EBADF)] [])
        refine own_st (fun t k => XS.aloadN X188.here hx rfl (hb hby at_27) rfl rfl k) ?_
        show own_Go _ _ _ _ T188 (mkF m 28 #[.val (.int ip0), .val (.int ip1), .val (.int (ip0 &&& (63 : Int32))), .val (.ref w_EBADF)] [(.ref w_EBADF)])
        refine own_st (fun t k => XS.iloadN X188.here hx rfl (hb hby at_28) rfl k) ?_
        show own_Go _ _ _ _ T188 (mkF m 29 #[.val (.int ip0), .val (.int ip1), .val (.int (ip0 &&& (63 : Int32))), .val (.ref w_EBADF)] [(.int (ip0 &&& (63 : Int32))), (.ref w_EBADF)])
        have f189 := (own_stak S_ENOENT K186 all0)
        have f190 := (own_stak S_EIO K186 all0)
        have f191 := (own_stak S_EBADF K186 all0)
        have f192 := (own_stak S_EACCES K186 all0)
        have f193 := (own_stak S_EEXIST K186 all0)
        have f194 := (own_stak S_ENOTDIR K186 all0)
        have f195 := (own_stak S_EISDIR K186 all0)
        have f196 := (own_stak S_EINVAL K186 all0)
        have f197 := (own_stak S_ENOSPC K186 all0)
        have f198 := (own_stak S_ENAMETOOLONG K186 all0)
        obtain ⟨_, _, ⟨T199, L199, k199, n199⟩, -, X199, ⟨Lc199, hQ199, l199, y199, z199⟩, st199⟩ := Jvm.LawKit.callS X188 hx (y := (⟨"com/example/checkpost/checkpost/protocol/ErrnoByNumberPinLaw", "expected", "(I)Lcom/example/checkpost/checkpost/protocol/Errno;"⟩ : MethodName)) hown (mvT hZ (own_w hw 43 rfl)) (mvT hZ (own_w hw 44 rfl)) (mvT hZ (own_w hw 45 rfl)) (mvT hZ (own_w hw 46 rfl)) (by decide) (backOf (W := 1) (own_rm5 l Z a0 hw [] (ip0 &&& (63 : Int32)) w_ENOENT w_EIO w_EBADF w_EACCES w_EEXIST w_ENOTDIR w_EISDIR w_EINVAL w_ENOSPC w_ENAMETOOLONG T186.heap n0 Z186 f189 f190 f191 f192 f193 f194 f195 f196 f197 f198) hZ (own_w hw 46 rfl) (own_w hw 45 rfl) (by decide) (by decide)) (g := (mkF m 29 #[.val (.int ip0), .val (.int ip1), .val (.int (ip0 &&& (63 : Int32))), .val (.ref w_EBADF)] [(.int (ip0 &&& (63 : Int32))), (.ref w_EBADF)])) rfl (by rw [hml]; rfl) (argsL := [(.int (ip0 &&& (63 : Int32)))]) (rest := [(.ref w_EBADF)]) (lenOf own_pd6 rfl) rfl (by show 2 * 0 + _ ≤ _; exact Nat.le_of_eq rfl) (hb hby at_29) (fun _ _ => ⟨rfl, e188, (by decide : 2 + 0 ≤ _), (by decide : 11 + 0 ≤ _)⟩)
        dsimp only [Pt.U, Pt.locs, Pt.cells, Pt.slots] at X199 l199 y199 z199 st199 hQ199
        subst l199 y199 z199
        obtain ⟨N199q, e199, hL199⟩ := hQ199
        have N199 := Fr.app N186 N199q
        rcases hL199 with ⟨rfl, hq199_0_0, -⟩ | ⟨rfl, hq199_1_0, hq199_1_1, -⟩ | ⟨rfl, hq199_2_0, hq199_2_1, hq199_2_2, -⟩ | ⟨rfl, hq199_3_0, hq199_3_1, hq199_3_2, hq199_3_3, -⟩ | ⟨rfl, hq199_4_0, hq199_4_1, hq199_4_2, hq199_4_3, hq199_4_4, -⟩ | ⟨rfl, hq199_5_0, hq199_5_1, hq199_5_2, hq199_5_3, hq199_5_4, hq199_5_5, -⟩ | ⟨rfl, hq199_6_0, hq199_6_1, hq199_6_2, hq199_6_3, hq199_6_4, hq199_6_5, hq199_6_6, -⟩ | ⟨rfl, hq199_7_0, hq199_7_1, hq199_7_2, hq199_7_3, hq199_7_4, hq199_7_5, hq199_7_6, hq199_7_7, -⟩ | ⟨rfl, hq199_8_0, hq199_8_1, hq199_8_2, hq199_8_3, hq199_8_4, hq199_8_5, hq199_8_6, hq199_8_7, hq199_8_8, -⟩ | ⟨rfl, hq199_9_0, hq199_9_1, hq199_9_2, hq199_9_3, hq199_9_4, hq199_9_5, hq199_9_6, hq199_9_7, hq199_9_8, hq199_9_9, -⟩ | ⟨rfl, hq199_10_0, hq199_10_1, hq199_10_2, hq199_10_3, hq199_10_4, hq199_10_5, hq199_10_6, hq199_10_7, hq199_10_8, hq199_10_9, -⟩
        · skip
          exact absurd hq199_0_0 (Ne.symm hq157_2_0)
        · skip
          exact absurd hq199_1_1 (Ne.symm hq157_2_1)
        · skip
          refine own_st st199 ?_
          show own_Go _ _ _ _ T199 (mkF m 32 #[.val (.int ip0), .val (.int ip1), .val (.int (ip0 &&& (63 : Int32))), .val (.ref w_EBADF)] [(.ref w_EBADF), (.ref w_EBADF)])
          refine own_st (fun t k => Jvm.RoadKit.acmp (g := (mkF m 32 #[.val (.int ip0), .val (.int ip1), .val (.int (ip0 &&& (63 : Int32))), .val (.ref w_EBADF)] [(.ref w_EBADF), (.ref w_EBADF)])) X199 hx rfl rfl rfl (pc0 := 32) (pc' := 35) (same := true) rfl (hb hby at_32) rfl (decide_eq_true (congrArg Value.ref (rfl : w_EBADF = w_EBADF))) (by decide) (by decide) k) ?_
          show own_Go _ _ _ _ T199 (mkF m 35 #[.val (.int ip0), .val (.int ip1), .val (.int (ip0 &&& (63 : Int32))), .val (.ref w_EBADF)] [])
          refine own_st (fun t k => XS.iconst X199.here hx rfl (hb hby at_35) k) ?_
          show own_Go _ _ _ _ T199 (mkF m 36 #[.val (.int ip0), .val (.int ip1), .val (.int (ip0 &&& (63 : Int32))), .val (.ref w_EBADF)] [(.int (1 : Int32))])
          refine own_st (fun t k => XS.goto X199.here hx rfl (pc0 := 36) (pc' := 40) rfl (hb hby at_36) (by decide) (by decide) k) ?_
          show own_Go _ _ _ _ T199 (mkF m 40 #[.val (.int ip0), .val (.int ip1), .val (.int (ip0 &&& (63 : Int32))), .val (.ref w_EBADF)] [(.int (1 : Int32))])
          exact own_retZ X199 hx hlk (t := .boolean) hret (by simp) (hb hby at_40) (by decide) (by decide) e199 ⟨rfl, N199⟩
        · skip
          exact absurd (Eq.symm hq157_2_2) hq199_3_2
        · skip
          exact absurd (Eq.symm hq157_2_2) hq199_4_2
        · skip
          exact absurd (Eq.symm hq157_2_2) hq199_5_2
        · skip
          exact absurd (Eq.symm hq157_2_2) hq199_6_2
        · skip
          exact absurd (Eq.symm hq157_2_2) hq199_7_2
        · skip
          exact absurd (Eq.symm hq157_2_2) hq199_8_2
        · skip
          exact absurd (Eq.symm hq157_2_2) hq199_9_2
        · skip
          exact absurd (Eq.symm hq157_2_2) hq199_10_2
    · skip
      have g_b1x6_3c17c157 : n0 ≤ b1x6_3c17c157 := Nat.le_trans Z0 sq_b1x6_3c17c157
      have sz_b1x6_3c17c157 : h0.size ≤ b1x6_3c17c157 := Nat.le_trans (Keep.refl h0 []).1 sq_b1x6_3c17c157
      refine own_st st157 ?_
      show own_Go _ _ _ _ T157 (mkF m 19 #[.val (.int ip0), .val (.int ip1), .val (.int (ip0 &&& (63 : Int32))), .unset] [(.ref b1x6_3c17c157)])
      refine own_st (fun t k => XS.aconstNull X157.here hx rfl (hb hby at_19) k) ?_
      show own_Go _ _ _ _ T157 (mkF m 20 #[.val (.int ip0), .val (.int ip1), .val (.int (ip0 &&& (63 : Int32))), .unset] [.null, (.ref b1x6_3c17c157)])
      obtain ⟨cq200, kq200, q200a, q200b, q200c⟩ := isOf hZ rfl Fc157_3_0
      obtain ⟨_, _, ⟨T200, L200, k200, n200⟩, -, X200, ⟨Lc200, hQ200, l200, y200, z200⟩, st200⟩ := X157.virtualBack hx (y := (⟨"java/util/Optional", "orElse", "(Ljava/lang/Object;)Ljava/lang/Object;"⟩ : MethodName)) (z := (⟨"java/util/Optional", "orElse", "(Ljava/lang/Object;)Ljava/lang/Object;"⟩ : MethodName)) hown (mvT hZ (own_w hw 36 rfl)) (mvT hZ (own_w hw 37 rfl)) (notFace_of_selects (args := #[]) (mvT hZ (own_w hw 39 rfl))) (mvT hZ (own_w hw 39 rfl)) (mvT hZ (own_w hw 38 rfl)) (by decide) (backOf (W := 0) (own_rm4_7 l Z a0 hw [] b1x6_3c17c157 w_EACCES T157.heap n0 Z157 Fc157_3_1) hZ (own_w hw 40 rfl) (own_w hw 33 rfl) (by decide) (by decide)) q200a q200c (g := (mkF m 20 #[.val (.int ip0), .val (.int ip1), .val (.int (ip0 &&& (63 : Int32))), .unset] [.null, (.ref b1x6_3c17c157)])) rfl (by rw [hml]; rfl) (Steps.refl _) (argsL := [.null]) (rest := []) (lenOf own_pd1 rfl) rfl (by show 2 * 0 + _ ≤ _; exact Nat.le_of_eq rfl) (hb hby at_20) (fun _ _ => ⟨rfl, rfl, (by decide : 2 + 0 ≤ _), (by decide : 11 + 0 ≤ _)⟩)
      dsimp only [Pt.U, Pt.locs, Pt.cells, Pt.slots] at X200 l200 y200 z200 st200 hQ200
      subst l200 y200 z200
      obtain ⟨N200q, Kq200, hL200⟩ := hQ200
      have N200 := Fr.app N157 N200q
      have K200 : Keep h0 T200.heap [] := K157.trans Kq200 all0
      have Z200 := Nat.le_trans Z157 Kq200.1
      rcases hL200 with ⟨rfl, -⟩
      · skip
        refine own_st (fun t k => st200.trans k) ?_
        show own_Go _ _ _ _ T200 (mkF m 23 #[.val (.int ip0), .val (.int ip1), .val (.int (ip0 &&& (63 : Int32))), .unset] [(.ref w_EACCES)])
        have f201 := (E_w_EACCES.keep K200)
        obtain ⟨T202, X202, e202, st202⟩ := castY X200 hx hZ hown (own_w hw 63 rfl) rfl (Ins.self f201) (g := (mkF m 23 #[.val (.int ip0), .val (.int ip1), .val (.int (ip0 &&& (63 : Int32))), .unset] [(.ref w_EACCES)])) rfl rfl (hb hby at_23)
        refine own_st st202 ?_
        show own_Go _ _ _ _ T202 (mkF m 26 #[.val (.int ip0), .val (.int ip1), .val (.int (ip0 &&& (63 : Int32))), .unset] [(.ref w_EACCES)])
        refine own_st (fun t k => XS.astoreN X202.here hx rfl (hb hby at_26) rfl rfl (l' := #[.val (.int ip0), .val (.int ip1), .val (.int (ip0 &&& (63 : Int32))), .val (.ref w_EACCES)]) rfl k) ?_
        show own_Go _ _ _ _ T202 (mkF m 27 #[.val (.int ip0), .val (.int ip1), .val (.int (ip0 &&& (63 : Int32))), .val (.ref w_EACCES)] [])
        refine own_st (fun t k => XS.aloadN X202.here hx rfl (hb hby at_27) rfl rfl k) ?_
        show own_Go _ _ _ _ T202 (mkF m 28 #[.val (.int ip0), .val (.int ip1), .val (.int (ip0 &&& (63 : Int32))), .val (.ref w_EACCES)] [(.ref w_EACCES)])
        refine own_st (fun t k => XS.iloadN X202.here hx rfl (hb hby at_28) rfl k) ?_
        show own_Go _ _ _ _ T202 (mkF m 29 #[.val (.int ip0), .val (.int ip1), .val (.int (ip0 &&& (63 : Int32))), .val (.ref w_EACCES)] [(.int (ip0 &&& (63 : Int32))), (.ref w_EACCES)])
        have f203 := (own_stak S_ENOENT K200 all0)
        have f204 := (own_stak S_EIO K200 all0)
        have f205 := (own_stak S_EBADF K200 all0)
        have f206 := (own_stak S_EACCES K200 all0)
        have f207 := (own_stak S_EEXIST K200 all0)
        have f208 := (own_stak S_ENOTDIR K200 all0)
        have f209 := (own_stak S_EISDIR K200 all0)
        have f210 := (own_stak S_EINVAL K200 all0)
        have f211 := (own_stak S_ENOSPC K200 all0)
        have f212 := (own_stak S_ENAMETOOLONG K200 all0)
        obtain ⟨_, _, ⟨T213, L213, k213, n213⟩, -, X213, ⟨Lc213, hQ213, l213, y213, z213⟩, st213⟩ := Jvm.LawKit.callS X202 hx (y := (⟨"com/example/checkpost/checkpost/protocol/ErrnoByNumberPinLaw", "expected", "(I)Lcom/example/checkpost/checkpost/protocol/Errno;"⟩ : MethodName)) hown (mvT hZ (own_w hw 43 rfl)) (mvT hZ (own_w hw 44 rfl)) (mvT hZ (own_w hw 45 rfl)) (mvT hZ (own_w hw 46 rfl)) (by decide) (backOf (W := 1) (own_rm5 l Z a0 hw [] (ip0 &&& (63 : Int32)) w_ENOENT w_EIO w_EBADF w_EACCES w_EEXIST w_ENOTDIR w_EISDIR w_EINVAL w_ENOSPC w_ENAMETOOLONG T200.heap n0 Z200 f203 f204 f205 f206 f207 f208 f209 f210 f211 f212) hZ (own_w hw 46 rfl) (own_w hw 45 rfl) (by decide) (by decide)) (g := (mkF m 29 #[.val (.int ip0), .val (.int ip1), .val (.int (ip0 &&& (63 : Int32))), .val (.ref w_EACCES)] [(.int (ip0 &&& (63 : Int32))), (.ref w_EACCES)])) rfl (by rw [hml]; rfl) (argsL := [(.int (ip0 &&& (63 : Int32)))]) (rest := [(.ref w_EACCES)]) (lenOf own_pd6 rfl) rfl (by show 2 * 0 + _ ≤ _; exact Nat.le_of_eq rfl) (hb hby at_29) (fun _ _ => ⟨rfl, e202, (by decide : 2 + 0 ≤ _), (by decide : 11 + 0 ≤ _)⟩)
        dsimp only [Pt.U, Pt.locs, Pt.cells, Pt.slots] at X213 l213 y213 z213 st213 hQ213
        subst l213 y213 z213
        obtain ⟨N213q, e213, hL213⟩ := hQ213
        have N213 := Fr.app N200 N213q
        rcases hL213 with ⟨rfl, hq213_0_0, -⟩ | ⟨rfl, hq213_1_0, hq213_1_1, -⟩ | ⟨rfl, hq213_2_0, hq213_2_1, hq213_2_2, -⟩ | ⟨rfl, hq213_3_0, hq213_3_1, hq213_3_2, hq213_3_3, -⟩ | ⟨rfl, hq213_4_0, hq213_4_1, hq213_4_2, hq213_4_3, hq213_4_4, -⟩ | ⟨rfl, hq213_5_0, hq213_5_1, hq213_5_2, hq213_5_3, hq213_5_4, hq213_5_5, -⟩ | ⟨rfl, hq213_6_0, hq213_6_1, hq213_6_2, hq213_6_3, hq213_6_4, hq213_6_5, hq213_6_6, -⟩ | ⟨rfl, hq213_7_0, hq213_7_1, hq213_7_2, hq213_7_3, hq213_7_4, hq213_7_5, hq213_7_6, hq213_7_7, -⟩ | ⟨rfl, hq213_8_0, hq213_8_1, hq213_8_2, hq213_8_3, hq213_8_4, hq213_8_5, hq213_8_6, hq213_8_7, hq213_8_8, -⟩ | ⟨rfl, hq213_9_0, hq213_9_1, hq213_9_2, hq213_9_3, hq213_9_4, hq213_9_5, hq213_9_6, hq213_9_7, hq213_9_8, hq213_9_9, -⟩ | ⟨rfl, hq213_10_0, hq213_10_1, hq213_10_2, hq213_10_3, hq213_10_4, hq213_10_5, hq213_10_6, hq213_10_7, hq213_10_8, hq213_10_9, -⟩
        · skip
          exact absurd hq213_0_0 (Ne.symm hq157_3_0)
        · skip
          exact absurd hq213_1_1 (Ne.symm hq157_3_1)
        · skip
          exact absurd hq213_2_2 (Ne.symm hq157_3_2)
        · skip
          refine own_st st213 ?_
          show own_Go _ _ _ _ T213 (mkF m 32 #[.val (.int ip0), .val (.int ip1), .val (.int (ip0 &&& (63 : Int32))), .val (.ref w_EACCES)] [(.ref w_EACCES), (.ref w_EACCES)])
          refine own_st (fun t k => Jvm.RoadKit.acmp (g := (mkF m 32 #[.val (.int ip0), .val (.int ip1), .val (.int (ip0 &&& (63 : Int32))), .val (.ref w_EACCES)] [(.ref w_EACCES), (.ref w_EACCES)])) X213 hx rfl rfl rfl (pc0 := 32) (pc' := 35) (same := true) rfl (hb hby at_32) rfl (decide_eq_true (congrArg Value.ref (rfl : w_EACCES = w_EACCES))) (by decide) (by decide) k) ?_
          show own_Go _ _ _ _ T213 (mkF m 35 #[.val (.int ip0), .val (.int ip1), .val (.int (ip0 &&& (63 : Int32))), .val (.ref w_EACCES)] [])
          refine own_st (fun t k => XS.iconst X213.here hx rfl (hb hby at_35) k) ?_
          show own_Go _ _ _ _ T213 (mkF m 36 #[.val (.int ip0), .val (.int ip1), .val (.int (ip0 &&& (63 : Int32))), .val (.ref w_EACCES)] [(.int (1 : Int32))])
          refine own_st (fun t k => XS.goto X213.here hx rfl (pc0 := 36) (pc' := 40) rfl (hb hby at_36) (by decide) (by decide) k) ?_
          show own_Go _ _ _ _ T213 (mkF m 40 #[.val (.int ip0), .val (.int ip1), .val (.int (ip0 &&& (63 : Int32))), .val (.ref w_EACCES)] [(.int (1 : Int32))])
          exact own_retZ X213 hx hlk (t := .boolean) hret (by simp) (hb hby at_40) (by decide) (by decide) e213 ⟨rfl, N213⟩
        · skip
          exact absurd (Eq.symm hq157_3_3) hq213_4_3
        · skip
          exact absurd (Eq.symm hq157_3_3) hq213_5_3
        · skip
          exact absurd (Eq.symm hq157_3_3) hq213_6_3
        · skip
          exact absurd (Eq.symm hq157_3_3) hq213_7_3
        · skip
          exact absurd (Eq.symm hq157_3_3) hq213_8_3
        · skip
          exact absurd (Eq.symm hq157_3_3) hq213_9_3
        · skip
          exact absurd (Eq.symm hq157_3_3) hq213_10_3
    · skip
      have g_b1x6_3c21c157 : n0 ≤ b1x6_3c21c157 := Nat.le_trans Z0 sq_b1x6_3c21c157
      have sz_b1x6_3c21c157 : h0.size ≤ b1x6_3c21c157 := Nat.le_trans (Keep.refl h0 []).1 sq_b1x6_3c21c157
      refine own_st st157 ?_
      show own_Go _ _ _ _ T157 (mkF m 19 #[.val (.int ip0), .val (.int ip1), .val (.int (ip0 &&& (63 : Int32))), .unset] [(.ref b1x6_3c21c157)])
      refine own_st (fun t k => XS.aconstNull X157.here hx rfl (hb hby at_19) k) ?_
      show own_Go _ _ _ _ T157 (mkF m 20 #[.val (.int ip0), .val (.int ip1), .val (.int (ip0 &&& (63 : Int32))), .unset] [.null, (.ref b1x6_3c21c157)])
      obtain ⟨cq214, kq214, q214a, q214b, q214c⟩ := isOf hZ rfl Fc157_4_0
      obtain ⟨_, _, ⟨T214, L214, k214, n214⟩, -, X214, ⟨Lc214, hQ214, l214, y214, z214⟩, st214⟩ := X157.virtualBack hx (y := (⟨"java/util/Optional", "orElse", "(Ljava/lang/Object;)Ljava/lang/Object;"⟩ : MethodName)) (z := (⟨"java/util/Optional", "orElse", "(Ljava/lang/Object;)Ljava/lang/Object;"⟩ : MethodName)) hown (mvT hZ (own_w hw 36 rfl)) (mvT hZ (own_w hw 37 rfl)) (notFace_of_selects (args := #[]) (mvT hZ (own_w hw 39 rfl))) (mvT hZ (own_w hw 39 rfl)) (mvT hZ (own_w hw 38 rfl)) (by decide) (backOf (W := 0) (own_rm4_7 l Z a0 hw [] b1x6_3c21c157 w_EEXIST T157.heap n0 Z157 Fc157_4_1) hZ (own_w hw 40 rfl) (own_w hw 33 rfl) (by decide) (by decide)) q214a q214c (g := (mkF m 20 #[.val (.int ip0), .val (.int ip1), .val (.int (ip0 &&& (63 : Int32))), .unset] [.null, (.ref b1x6_3c21c157)])) rfl (by rw [hml]; rfl) (Steps.refl _) (argsL := [.null]) (rest := []) (lenOf own_pd1 rfl) rfl (by show 2 * 0 + _ ≤ _; exact Nat.le_of_eq rfl) (hb hby at_20) (fun _ _ => ⟨rfl, rfl, (by decide : 2 + 0 ≤ _), (by decide : 11 + 0 ≤ _)⟩)
      dsimp only [Pt.U, Pt.locs, Pt.cells, Pt.slots] at X214 l214 y214 z214 st214 hQ214
      subst l214 y214 z214
      obtain ⟨N214q, Kq214, hL214⟩ := hQ214
      have N214 := Fr.app N157 N214q
      have K214 : Keep h0 T214.heap [] := K157.trans Kq214 all0
      have Z214 := Nat.le_trans Z157 Kq214.1
      rcases hL214 with ⟨rfl, -⟩
      · skip
        refine own_st (fun t k => st214.trans k) ?_
        show own_Go _ _ _ _ T214 (mkF m 23 #[.val (.int ip0), .val (.int ip1), .val (.int (ip0 &&& (63 : Int32))), .unset] [(.ref w_EEXIST)])
        have f215 := (E_w_EEXIST.keep K214)
        obtain ⟨T216, X216, e216, st216⟩ := castY X214 hx hZ hown (own_w hw 63 rfl) rfl (Ins.self f215) (g := (mkF m 23 #[.val (.int ip0), .val (.int ip1), .val (.int (ip0 &&& (63 : Int32))), .unset] [(.ref w_EEXIST)])) rfl rfl (hb hby at_23)
        refine own_st st216 ?_
        show own_Go _ _ _ _ T216 (mkF m 26 #[.val (.int ip0), .val (.int ip1), .val (.int (ip0 &&& (63 : Int32))), .unset] [(.ref w_EEXIST)])
        refine own_st (fun t k => XS.astoreN X216.here hx rfl (hb hby at_26) rfl rfl (l' := #[.val (.int ip0), .val (.int ip1), .val (.int (ip0 &&& (63 : Int32))), .val (.ref w_EEXIST)]) rfl k) ?_
        show own_Go _ _ _ _ T216 (mkF m 27 #[.val (.int ip0), .val (.int ip1), .val (.int (ip0 &&& (63 : Int32))), .val (.ref w_EEXIST)] [])
        refine own_st (fun t k => XS.aloadN X216.here hx rfl (hb hby at_27) rfl rfl k) ?_
        show own_Go _ _ _ _ T216 (mkF m 28 #[.val (.int ip0), .val (.int ip1), .val (.int (ip0 &&& (63 : Int32))), .val (.ref w_EEXIST)] [(.ref w_EEXIST)])
        refine own_st (fun t k => XS.iloadN X216.here hx rfl (hb hby at_28) rfl k) ?_
        show own_Go _ _ _ _ T216 (mkF m 29 #[.val (.int ip0), .val (.int ip1), .val (.int (ip0 &&& (63 : Int32))), .val (.ref w_EEXIST)] [(.int (ip0 &&& (63 : Int32))), (.ref w_EEXIST)])
        have f217 := (own_stak S_ENOENT K214 all0)
        have f218 := (own_stak S_EIO K214 all0)
        have f219 := (own_stak S_EBADF K214 all0)
        have f220 := (own_stak S_EACCES K214 all0)
        have f221 := (own_stak S_EEXIST K214 all0)
        have f222 := (own_stak S_ENOTDIR K214 all0)
        have f223 := (own_stak S_EISDIR K214 all0)
        have f224 := (own_stak S_EINVAL K214 all0)
        have f225 := (own_stak S_ENOSPC K214 all0)
        have f226 := (own_stak S_ENAMETOOLONG K214 all0)
        obtain ⟨_, _, ⟨T227, L227, k227, n227⟩, -, X227, ⟨Lc227, hQ227, l227, y227, z227⟩, st227⟩ := Jvm.LawKit.callS X216 hx (y := (⟨"com/example/checkpost/checkpost/protocol/ErrnoByNumberPinLaw", "expected", "(I)Lcom/example/checkpost/checkpost/protocol/Errno;"⟩ : MethodName)) hown (mvT hZ (own_w hw 43 rfl)) (mvT hZ (own_w hw 44 rfl)) (mvT hZ (own_w hw 45 rfl)) (mvT hZ (own_w hw 46 rfl)) (by decide) (backOf (W := 1) (own_rm5 l Z a0 hw [] (ip0 &&& (63 : Int32)) w_ENOENT w_EIO w_EBADF w_EACCES w_EEXIST w_ENOTDIR w_EISDIR w_EINVAL w_ENOSPC w_ENAMETOOLONG T214.heap n0 Z214 f217 f218 f219 f220 f221 f222 f223 f224 f225 f226) hZ (own_w hw 46 rfl) (own_w hw 45 rfl) (by decide) (by decide)) (g := (mkF m 29 #[.val (.int ip0), .val (.int ip1), .val (.int (ip0 &&& (63 : Int32))), .val (.ref w_EEXIST)] [(.int (ip0 &&& (63 : Int32))), (.ref w_EEXIST)])) rfl (by rw [hml]; rfl) (argsL := [(.int (ip0 &&& (63 : Int32)))]) (rest := [(.ref w_EEXIST)]) (lenOf own_pd6 rfl) rfl (by show 2 * 0 + _ ≤ _; exact Nat.le_of_eq rfl) (hb hby at_29) (fun _ _ => ⟨rfl, e216, (by decide : 2 + 0 ≤ _), (by decide : 11 + 0 ≤ _)⟩)
        dsimp only [Pt.U, Pt.locs, Pt.cells, Pt.slots] at X227 l227 y227 z227 st227 hQ227
        subst l227 y227 z227
        obtain ⟨N227q, e227, hL227⟩ := hQ227
        have N227 := Fr.app N214 N227q
        rcases hL227 with ⟨rfl, hq227_0_0, -⟩ | ⟨rfl, hq227_1_0, hq227_1_1, -⟩ | ⟨rfl, hq227_2_0, hq227_2_1, hq227_2_2, -⟩ | ⟨rfl, hq227_3_0, hq227_3_1, hq227_3_2, hq227_3_3, -⟩ | ⟨rfl, hq227_4_0, hq227_4_1, hq227_4_2, hq227_4_3, hq227_4_4, -⟩ | ⟨rfl, hq227_5_0, hq227_5_1, hq227_5_2, hq227_5_3, hq227_5_4, hq227_5_5, -⟩ | ⟨rfl, hq227_6_0, hq227_6_1, hq227_6_2, hq227_6_3, hq227_6_4, hq227_6_5, hq227_6_6, -⟩ | ⟨rfl, hq227_7_0, hq227_7_1, hq227_7_2, hq227_7_3, hq227_7_4, hq227_7_5, hq227_7_6, hq227_7_7, -⟩ | ⟨rfl, hq227_8_0, hq227_8_1, hq227_8_2, hq227_8_3, hq227_8_4, hq227_8_5, hq227_8_6, hq227_8_7, hq227_8_8, -⟩ | ⟨rfl, hq227_9_0, hq227_9_1, hq227_9_2, hq227_9_3, hq227_9_4, hq227_9_5, hq227_9_6, hq227_9_7, hq227_9_8, hq227_9_9, -⟩ | ⟨rfl, hq227_10_0, hq227_10_1, hq227_10_2, hq227_10_3, hq227_10_4, hq227_10_5, hq227_10_6, hq227_10_7, hq227_10_8, hq227_10_9, -⟩
        · skip
          exact absurd hq227_0_0 (Ne.symm hq157_4_0)
        · skip
          exact absurd hq227_1_1 (Ne.symm hq157_4_1)
        · skip
          exact absurd hq227_2_2 (Ne.symm hq157_4_2)
        · skip
          exact absurd hq227_3_3 (Ne.symm hq157_4_3)
        · skip
          refine own_st st227 ?_
          show own_Go _ _ _ _ T227 (mkF m 32 #[.val (.int ip0), .val (.int ip1), .val (.int (ip0 &&& (63 : Int32))), .val (.ref w_EEXIST)] [(.ref w_EEXIST), (.ref w_EEXIST)])
          refine own_st (fun t k => Jvm.RoadKit.acmp (g := (mkF m 32 #[.val (.int ip0), .val (.int ip1), .val (.int (ip0 &&& (63 : Int32))), .val (.ref w_EEXIST)] [(.ref w_EEXIST), (.ref w_EEXIST)])) X227 hx rfl rfl rfl (pc0 := 32) (pc' := 35) (same := true) rfl (hb hby at_32) rfl (decide_eq_true (congrArg Value.ref (rfl : w_EEXIST = w_EEXIST))) (by decide) (by decide) k) ?_
          show own_Go _ _ _ _ T227 (mkF m 35 #[.val (.int ip0), .val (.int ip1), .val (.int (ip0 &&& (63 : Int32))), .val (.ref w_EEXIST)] [])
          refine own_st (fun t k => XS.iconst X227.here hx rfl (hb hby at_35) k) ?_
          show own_Go _ _ _ _ T227 (mkF m 36 #[.val (.int ip0), .val (.int ip1), .val (.int (ip0 &&& (63 : Int32))), .val (.ref w_EEXIST)] [(.int (1 : Int32))])
          refine own_st (fun t k => XS.goto X227.here hx rfl (pc0 := 36) (pc' := 40) rfl (hb hby at_36) (by decide) (by decide) k) ?_
          show own_Go _ _ _ _ T227 (mkF m 40 #[.val (.int ip0), .val (.int ip1), .val (.int (ip0 &&& (63 : Int32))), .val (.ref w_EEXIST)] [(.int (1 : Int32))])
          exact own_retZ X227 hx hlk (t := .boolean) hret (by simp) (hb hby at_40) (by decide) (by decide) e227 ⟨rfl, N227⟩
        · skip
          exact absurd (Eq.symm hq157_4_4) hq227_5_4
        · skip
          exact absurd (Eq.symm hq157_4_4) hq227_6_4
        · skip
          exact absurd (Eq.symm hq157_4_4) hq227_7_4
        · skip
          exact absurd (Eq.symm hq157_4_4) hq227_8_4
        · skip
          exact absurd (Eq.symm hq157_4_4) hq227_9_4
        · skip
          exact absurd (Eq.symm hq157_4_4) hq227_10_4
    · skip
      have g_b1x6_3c25c157 : n0 ≤ b1x6_3c25c157 := Nat.le_trans Z0 sq_b1x6_3c25c157
      have sz_b1x6_3c25c157 : h0.size ≤ b1x6_3c25c157 := Nat.le_trans (Keep.refl h0 []).1 sq_b1x6_3c25c157
      refine own_st st157 ?_
      show own_Go _ _ _ _ T157 (mkF m 19 #[.val (.int ip0), .val (.int ip1), .val (.int (ip0 &&& (63 : Int32))), .unset] [(.ref b1x6_3c25c157)])
      refine own_st (fun t k => XS.aconstNull X157.here hx rfl (hb hby at_19) k) ?_
      show own_Go _ _ _ _ T157 (mkF m 20 #[.val (.int ip0), .val (.int ip1), .val (.int (ip0 &&& (63 : Int32))), .unset] [.null, (.ref b1x6_3c25c157)])
      obtain ⟨cq228, kq228, q228a, q228b, q228c⟩ := isOf hZ rfl Fc157_5_0
      obtain ⟨_, _, ⟨T228, L228, k228, n228⟩, -, X228, ⟨Lc228, hQ228, l228, y228, z228⟩, st228⟩ := X157.virtualBack hx (y := (⟨"java/util/Optional", "orElse", "(Ljava/lang/Object;)Ljava/lang/Object;"⟩ : MethodName)) (z := (⟨"java/util/Optional", "orElse", "(Ljava/lang/Object;)Ljava/lang/Object;"⟩ : MethodName)) hown (mvT hZ (own_w hw 36 rfl)) (mvT hZ (own_w hw 37 rfl)) (notFace_of_selects (args := #[]) (mvT hZ (own_w hw 39 rfl))) (mvT hZ (own_w hw 39 rfl)) (mvT hZ (own_w hw 38 rfl)) (by decide) (backOf (W := 0) (own_rm4_7 l Z a0 hw [] b1x6_3c25c157 w_ENOTDIR T157.heap n0 Z157 Fc157_5_1) hZ (own_w hw 40 rfl) (own_w hw 33 rfl) (by decide) (by decide)) q228a q228c (g := (mkF m 20 #[.val (.int ip0), .val (.int ip1), .val (.int (ip0 &&& (63 : Int32))), .unset] [.null, (.ref b1x6_3c25c157)])) rfl (by rw [hml]; rfl) (Steps.refl _) (argsL := [.null]) (rest := []) (lenOf own_pd1 rfl) rfl (by show 2 * 0 + _ ≤ _; exact Nat.le_of_eq rfl) (hb hby at_20) (fun _ _ => ⟨rfl, rfl, (by decide : 2 + 0 ≤ _), (by decide : 11 + 0 ≤ _)⟩)
      dsimp only [Pt.U, Pt.locs, Pt.cells, Pt.slots] at X228 l228 y228 z228 st228 hQ228
      subst l228 y228 z228
      obtain ⟨N228q, Kq228, hL228⟩ := hQ228
      have N228 := Fr.app N157 N228q
      have K228 : Keep h0 T228.heap [] := K157.trans Kq228 all0
      have Z228 := Nat.le_trans Z157 Kq228.1
      rcases hL228 with ⟨rfl, -⟩
      · skip
        refine own_st (fun t k => st228.trans k) ?_
        show own_Go _ _ _ _ T228 (mkF m 23 #[.val (.int ip0), .val (.int ip1), .val (.int (ip0 &&& (63 : Int32))), .unset] [(.ref w_ENOTDIR)])
        have f229 := (E_w_ENOTDIR.keep K228)
        obtain ⟨T230, X230, e230, st230⟩ := castY X228 hx hZ hown (own_w hw 63 rfl) rfl (Ins.self f229) (g := (mkF m 23 #[.val (.int ip0), .val (.int ip1), .val (.int (ip0 &&& (63 : Int32))), .unset] [(.ref w_ENOTDIR)])) rfl rfl (hb hby at_23)
        refine own_st st230 ?_
        show own_Go _ _ _ _ T230 (mkF m 26 #[.val (.int ip0), .val (.int ip1), .val (.int (ip0 &&& (63 : Int32))), .unset] [(.ref w_ENOTDIR)])
        refine own_st (fun t k => XS.astoreN X230.here hx rfl (hb hby at_26) rfl rfl (l' := #[.val (.int ip0), .val (.int ip1), .val (.int (ip0 &&& (63 : Int32))), .val (.ref w_ENOTDIR)]) rfl k) ?_
        show own_Go _ _ _ _ T230 (mkF m 27 #[.val (.int ip0), .val (.int ip1), .val (.int (ip0 &&& (63 : Int32))), .val (.ref w_ENOTDIR)] [])
        refine own_st (fun t k => XS.aloadN X230.here hx rfl (hb hby at_27) rfl rfl k) ?_
        show own_Go _ _ _ _ T230 (mkF m 28 #[.val (.int ip0), .val (.int ip1), .val (.int (ip0 &&& (63 : Int32))), .val (.ref w_ENOTDIR)] [(.ref w_ENOTDIR)])
        refine own_st (fun t k => XS.iloadN X230.here hx rfl (hb hby at_28) rfl k) ?_
        show own_Go _ _ _ _ T230 (mkF m 29 #[.val (.int ip0), .val (.int ip1), .val (.int (ip0 &&& (63 : Int32))), .val (.ref w_ENOTDIR)] [(.int (ip0 &&& (63 : Int32))), (.ref w_ENOTDIR)])
        have f231 := (own_stak S_ENOENT K228 all0)
        have f232 := (own_stak S_EIO K228 all0)
        have f233 := (own_stak S_EBADF K228 all0)
        have f234 := (own_stak S_EACCES K228 all0)
        have f235 := (own_stak S_EEXIST K228 all0)
        have f236 := (own_stak S_ENOTDIR K228 all0)
        have f237 := (own_stak S_EISDIR K228 all0)
        have f238 := (own_stak S_EINVAL K228 all0)
        have f239 := (own_stak S_ENOSPC K228 all0)
        have f240 := (own_stak S_ENAMETOOLONG K228 all0)
        obtain ⟨_, _, ⟨T241, L241, k241, n241⟩, -, X241, ⟨Lc241, hQ241, l241, y241, z241⟩, st241⟩ := Jvm.LawKit.callS X230 hx (y := (⟨"com/example/checkpost/checkpost/protocol/ErrnoByNumberPinLaw", "expected", "(I)Lcom/example/checkpost/checkpost/protocol/Errno;"⟩ : MethodName)) hown (mvT hZ (own_w hw 43 rfl)) (mvT hZ (own_w hw 44 rfl)) (mvT hZ (own_w hw 45 rfl)) (mvT hZ (own_w hw 46 rfl)) (by decide) (backOf (W := 1) (own_rm5 l Z a0 hw [] (ip0 &&& (63 : Int32)) w_ENOENT w_EIO w_EBADF w_EACCES w_EEXIST w_ENOTDIR w_EISDIR w_EINVAL w_ENOSPC w_ENAMETOOLONG T228.heap n0 Z228 f231 f232 f233 f234 f235 f236 f237 f238 f239 f240) hZ (own_w hw 46 rfl) (own_w hw 45 rfl) (by decide) (by decide)) (g := (mkF m 29 #[.val (.int ip0), .val (.int ip1), .val (.int (ip0 &&& (63 : Int32))), .val (.ref w_ENOTDIR)] [(.int (ip0 &&& (63 : Int32))), (.ref w_ENOTDIR)])) rfl (by rw [hml]; rfl) (argsL := [(.int (ip0 &&& (63 : Int32)))]) (rest := [(.ref w_ENOTDIR)]) (lenOf own_pd6 rfl) rfl (by show 2 * 0 + _ ≤ _; exact Nat.le_of_eq rfl) (hb hby at_29) (fun _ _ => ⟨rfl, e230, (by decide : 2 + 0 ≤ _), (by decide : 11 + 0 ≤ _)⟩)
        dsimp only [Pt.U, Pt.locs, Pt.cells, Pt.slots] at X241 l241 y241 z241 st241 hQ241
        subst l241 y241 z241
        obtain ⟨N241q, e241, hL241⟩ := hQ241
        have N241 := Fr.app N228 N241q
        rcases hL241 with ⟨rfl, hq241_0_0, -⟩ | ⟨rfl, hq241_1_0, hq241_1_1, -⟩ | ⟨rfl, hq241_2_0, hq241_2_1, hq241_2_2, -⟩ | ⟨rfl, hq241_3_0, hq241_3_1, hq241_3_2, hq241_3_3, -⟩ | ⟨rfl, hq241_4_0, hq241_4_1, hq241_4_2, hq241_4_3, hq241_4_4, -⟩ | ⟨rfl, hq241_5_0, hq241_5_1, hq241_5_2, hq241_5_3, hq241_5_4, hq241_5_5, -⟩ | ⟨rfl, hq241_6_0, hq241_6_1, hq241_6_2, hq241_6_3, hq241_6_4, hq241_6_5, hq241_6_6, -⟩ | ⟨rfl, hq241_7_0, hq241_7_1, hq241_7_2, hq241_7_3, hq241_7_4, hq241_7_5, hq241_7_6, hq241_7_7, -⟩ | ⟨rfl, hq241_8_0, hq241_8_1, hq241_8_2, hq241_8_3, hq241_8_4, hq241_8_5, hq241_8_6, hq241_8_7, hq241_8_8, -⟩ | ⟨rfl, hq241_9_0, hq241_9_1, hq241_9_2, hq241_9_3, hq241_9_4, hq241_9_5, hq241_9_6, hq241_9_7, hq241_9_8, hq241_9_9, -⟩ | ⟨rfl, hq241_10_0, hq241_10_1, hq241_10_2, hq241_10_3, hq241_10_4, hq241_10_5, hq241_10_6, hq241_10_7, hq241_10_8, hq241_10_9, -⟩
        · skip
          exact absurd hq241_0_0 (Ne.symm hq157_5_0)
        · skip
          exact absurd hq241_1_1 (Ne.symm hq157_5_1)
        · skip
          exact absurd hq241_2_2 (Ne.symm hq157_5_2)
        · skip
          exact absurd hq241_3_3 (Ne.symm hq157_5_3)
        · skip
          exact absurd hq241_4_4 (Ne.symm hq157_5_4)
        · skip
          refine own_st st241 ?_
          show own_Go _ _ _ _ T241 (mkF m 32 #[.val (.int ip0), .val (.int ip1), .val (.int (ip0 &&& (63 : Int32))), .val (.ref w_ENOTDIR)] [(.ref w_ENOTDIR), (.ref w_ENOTDIR)])
          refine own_st (fun t k => Jvm.RoadKit.acmp (g := (mkF m 32 #[.val (.int ip0), .val (.int ip1), .val (.int (ip0 &&& (63 : Int32))), .val (.ref w_ENOTDIR)] [(.ref w_ENOTDIR), (.ref w_ENOTDIR)])) X241 hx rfl rfl rfl (pc0 := 32) (pc' := 35) (same := true) rfl (hb hby at_32) rfl (decide_eq_true (congrArg Value.ref (rfl : w_ENOTDIR = w_ENOTDIR))) (by decide) (by decide) k) ?_
          show own_Go _ _ _ _ T241 (mkF m 35 #[.val (.int ip0), .val (.int ip1), .val (.int (ip0 &&& (63 : Int32))), .val (.ref w_ENOTDIR)] [])
          refine own_st (fun t k => XS.iconst X241.here hx rfl (hb hby at_35) k) ?_
          show own_Go _ _ _ _ T241 (mkF m 36 #[.val (.int ip0), .val (.int ip1), .val (.int (ip0 &&& (63 : Int32))), .val (.ref w_ENOTDIR)] [(.int (1 : Int32))])
          refine own_st (fun t k => XS.goto X241.here hx rfl (pc0 := 36) (pc' := 40) rfl (hb hby at_36) (by decide) (by decide) k) ?_
          show own_Go _ _ _ _ T241 (mkF m 40 #[.val (.int ip0), .val (.int ip1), .val (.int (ip0 &&& (63 : Int32))), .val (.ref w_ENOTDIR)] [(.int (1 : Int32))])
          exact own_retZ X241 hx hlk (t := .boolean) hret (by simp) (hb hby at_40) (by decide) (by decide) e241 ⟨rfl, N241⟩
        · skip
          exact absurd (Eq.symm hq157_5_5) hq241_6_5
        · skip
          exact absurd (Eq.symm hq157_5_5) hq241_7_5
        · skip
          exact absurd (Eq.symm hq157_5_5) hq241_8_5
        · skip
          exact absurd (Eq.symm hq157_5_5) hq241_9_5
        · skip
          exact absurd (Eq.symm hq157_5_5) hq241_10_5
    · skip
      have g_b1x6_3c29c157 : n0 ≤ b1x6_3c29c157 := Nat.le_trans Z0 sq_b1x6_3c29c157
      have sz_b1x6_3c29c157 : h0.size ≤ b1x6_3c29c157 := Nat.le_trans (Keep.refl h0 []).1 sq_b1x6_3c29c157
      refine own_st st157 ?_
      show own_Go _ _ _ _ T157 (mkF m 19 #[.val (.int ip0), .val (.int ip1), .val (.int (ip0 &&& (63 : Int32))), .unset] [(.ref b1x6_3c29c157)])
      refine own_st (fun t k => XS.aconstNull X157.here hx rfl (hb hby at_19) k) ?_
      show own_Go _ _ _ _ T157 (mkF m 20 #[.val (.int ip0), .val (.int ip1), .val (.int (ip0 &&& (63 : Int32))), .unset] [.null, (.ref b1x6_3c29c157)])
      obtain ⟨cq242, kq242, q242a, q242b, q242c⟩ := isOf hZ rfl Fc157_6_0
      obtain ⟨_, _, ⟨T242, L242, k242, n242⟩, -, X242, ⟨Lc242, hQ242, l242, y242, z242⟩, st242⟩ := X157.virtualBack hx (y := (⟨"java/util/Optional", "orElse", "(Ljava/lang/Object;)Ljava/lang/Object;"⟩ : MethodName)) (z := (⟨"java/util/Optional", "orElse", "(Ljava/lang/Object;)Ljava/lang/Object;"⟩ : MethodName)) hown (mvT hZ (own_w hw 36 rfl)) (mvT hZ (own_w hw 37 rfl)) (notFace_of_selects (args := #[]) (mvT hZ (own_w hw 39 rfl))) (mvT hZ (own_w hw 39 rfl)) (mvT hZ (own_w hw 38 rfl)) (by decide) (backOf (W := 0) (own_rm4_7 l Z a0 hw [] b1x6_3c29c157 w_EISDIR T157.heap n0 Z157 Fc157_6_1) hZ (own_w hw 40 rfl) (own_w hw 33 rfl) (by decide) (by decide)) q242a q242c (g := (mkF m 20 #[.val (.int ip0), .val (.int ip1), .val (.int (ip0 &&& (63 : Int32))), .unset] [.null, (.ref b1x6_3c29c157)])) rfl (by rw [hml]; rfl) (Steps.refl _) (argsL := [.null]) (rest := []) (lenOf own_pd1 rfl) rfl (by show 2 * 0 + _ ≤ _; exact Nat.le_of_eq rfl) (hb hby at_20) (fun _ _ => ⟨rfl, rfl, (by decide : 2 + 0 ≤ _), (by decide : 11 + 0 ≤ _)⟩)
      dsimp only [Pt.U, Pt.locs, Pt.cells, Pt.slots] at X242 l242 y242 z242 st242 hQ242
      subst l242 y242 z242
      obtain ⟨N242q, Kq242, hL242⟩ := hQ242
      have N242 := Fr.app N157 N242q
      have K242 : Keep h0 T242.heap [] := K157.trans Kq242 all0
      have Z242 := Nat.le_trans Z157 Kq242.1
      rcases hL242 with ⟨rfl, -⟩
      · skip
        refine own_st (fun t k => st242.trans k) ?_
        show own_Go _ _ _ _ T242 (mkF m 23 #[.val (.int ip0), .val (.int ip1), .val (.int (ip0 &&& (63 : Int32))), .unset] [(.ref w_EISDIR)])
        have f243 := (E_w_EISDIR.keep K242)
        obtain ⟨T244, X244, e244, st244⟩ := castY X242 hx hZ hown (own_w hw 63 rfl) rfl (Ins.self f243) (g := (mkF m 23 #[.val (.int ip0), .val (.int ip1), .val (.int (ip0 &&& (63 : Int32))), .unset] [(.ref w_EISDIR)])) rfl rfl (hb hby at_23)
        refine own_st st244 ?_
        show own_Go _ _ _ _ T244 (mkF m 26 #[.val (.int ip0), .val (.int ip1), .val (.int (ip0 &&& (63 : Int32))), .unset] [(.ref w_EISDIR)])
        refine own_st (fun t k => XS.astoreN X244.here hx rfl (hb hby at_26) rfl rfl (l' := #[.val (.int ip0), .val (.int ip1), .val (.int (ip0 &&& (63 : Int32))), .val (.ref w_EISDIR)]) rfl k) ?_
        show own_Go _ _ _ _ T244 (mkF m 27 #[.val (.int ip0), .val (.int ip1), .val (.int (ip0 &&& (63 : Int32))), .val (.ref w_EISDIR)] [])
        refine own_st (fun t k => XS.aloadN X244.here hx rfl (hb hby at_27) rfl rfl k) ?_
        show own_Go _ _ _ _ T244 (mkF m 28 #[.val (.int ip0), .val (.int ip1), .val (.int (ip0 &&& (63 : Int32))), .val (.ref w_EISDIR)] [(.ref w_EISDIR)])
        refine own_st (fun t k => XS.iloadN X244.here hx rfl (hb hby at_28) rfl k) ?_
        show own_Go _ _ _ _ T244 (mkF m 29 #[.val (.int ip0), .val (.int ip1), .val (.int (ip0 &&& (63 : Int32))), .val (.ref w_EISDIR)] [(.int (ip0 &&& (63 : Int32))), (.ref w_EISDIR)])
        have f245 := (own_stak S_ENOENT K242 all0)
        have f246 := (own_stak S_EIO K242 all0)
        have f247 := (own_stak S_EBADF K242 all0)
        have f248 := (own_stak S_EACCES K242 all0)
        have f249 := (own_stak S_EEXIST K242 all0)
        have f250 := (own_stak S_ENOTDIR K242 all0)
        have f251 := (own_stak S_EISDIR K242 all0)
        have f252 := (own_stak S_EINVAL K242 all0)
        have f253 := (own_stak S_ENOSPC K242 all0)
        have f254 := (own_stak S_ENAMETOOLONG K242 all0)
        obtain ⟨_, _, ⟨T255, L255, k255, n255⟩, -, X255, ⟨Lc255, hQ255, l255, y255, z255⟩, st255⟩ := Jvm.LawKit.callS X244 hx (y := (⟨"com/example/checkpost/checkpost/protocol/ErrnoByNumberPinLaw", "expected", "(I)Lcom/example/checkpost/checkpost/protocol/Errno;"⟩ : MethodName)) hown (mvT hZ (own_w hw 43 rfl)) (mvT hZ (own_w hw 44 rfl)) (mvT hZ (own_w hw 45 rfl)) (mvT hZ (own_w hw 46 rfl)) (by decide) (backOf (W := 1) (own_rm5 l Z a0 hw [] (ip0 &&& (63 : Int32)) w_ENOENT w_EIO w_EBADF w_EACCES w_EEXIST w_ENOTDIR w_EISDIR w_EINVAL w_ENOSPC w_ENAMETOOLONG T242.heap n0 Z242 f245 f246 f247 f248 f249 f250 f251 f252 f253 f254) hZ (own_w hw 46 rfl) (own_w hw 45 rfl) (by decide) (by decide)) (g := (mkF m 29 #[.val (.int ip0), .val (.int ip1), .val (.int (ip0 &&& (63 : Int32))), .val (.ref w_EISDIR)] [(.int (ip0 &&& (63 : Int32))), (.ref w_EISDIR)])) rfl (by rw [hml]; rfl) (argsL := [(.int (ip0 &&& (63 : Int32)))]) (rest := [(.ref w_EISDIR)]) (lenOf own_pd6 rfl) rfl (by show 2 * 0 + _ ≤ _; exact Nat.le_of_eq rfl) (hb hby at_29) (fun _ _ => ⟨rfl, e244, (by decide : 2 + 0 ≤ _), (by decide : 11 + 0 ≤ _)⟩)
        dsimp only [Pt.U, Pt.locs, Pt.cells, Pt.slots] at X255 l255 y255 z255 st255 hQ255
        subst l255 y255 z255
        obtain ⟨N255q, e255, hL255⟩ := hQ255
        have N255 := Fr.app N242 N255q
        rcases hL255 with ⟨rfl, hq255_0_0, -⟩ | ⟨rfl, hq255_1_0, hq255_1_1, -⟩ | ⟨rfl, hq255_2_0, hq255_2_1, hq255_2_2, -⟩ | ⟨rfl, hq255_3_0, hq255_3_1, hq255_3_2, hq255_3_3, -⟩ | ⟨rfl, hq255_4_0, hq255_4_1, hq255_4_2, hq255_4_3, hq255_4_4, -⟩ | ⟨rfl, hq255_5_0, hq255_5_1, hq255_5_2, hq255_5_3, hq255_5_4, hq255_5_5, -⟩ | ⟨rfl, hq255_6_0, hq255_6_1, hq255_6_2, hq255_6_3, hq255_6_4, hq255_6_5, hq255_6_6, -⟩ | ⟨rfl, hq255_7_0, hq255_7_1, hq255_7_2, hq255_7_3, hq255_7_4, hq255_7_5, hq255_7_6, hq255_7_7, -⟩ | ⟨rfl, hq255_8_0, hq255_8_1, hq255_8_2, hq255_8_3, hq255_8_4, hq255_8_5, hq255_8_6, hq255_8_7, hq255_8_8, -⟩ | ⟨rfl, hq255_9_0, hq255_9_1, hq255_9_2, hq255_9_3, hq255_9_4, hq255_9_5, hq255_9_6, hq255_9_7, hq255_9_8, hq255_9_9, -⟩ | ⟨rfl, hq255_10_0, hq255_10_1, hq255_10_2, hq255_10_3, hq255_10_4, hq255_10_5, hq255_10_6, hq255_10_7, hq255_10_8, hq255_10_9, -⟩
        · skip
          exact absurd hq255_0_0 (Ne.symm hq157_6_0)
        · skip
          exact absurd hq255_1_1 (Ne.symm hq157_6_1)
        · skip
          exact absurd hq255_2_2 (Ne.symm hq157_6_2)
        · skip
          exact absurd hq255_3_3 (Ne.symm hq157_6_3)
        · skip
          exact absurd hq255_4_4 (Ne.symm hq157_6_4)
        · skip
          exact absurd hq255_5_5 (Ne.symm hq157_6_5)
        · skip
          refine own_st st255 ?_
          show own_Go _ _ _ _ T255 (mkF m 32 #[.val (.int ip0), .val (.int ip1), .val (.int (ip0 &&& (63 : Int32))), .val (.ref w_EISDIR)] [(.ref w_EISDIR), (.ref w_EISDIR)])
          refine own_st (fun t k => Jvm.RoadKit.acmp (g := (mkF m 32 #[.val (.int ip0), .val (.int ip1), .val (.int (ip0 &&& (63 : Int32))), .val (.ref w_EISDIR)] [(.ref w_EISDIR), (.ref w_EISDIR)])) X255 hx rfl rfl rfl (pc0 := 32) (pc' := 35) (same := true) rfl (hb hby at_32) rfl (decide_eq_true (congrArg Value.ref (rfl : w_EISDIR = w_EISDIR))) (by decide) (by decide) k) ?_
          show own_Go _ _ _ _ T255 (mkF m 35 #[.val (.int ip0), .val (.int ip1), .val (.int (ip0 &&& (63 : Int32))), .val (.ref w_EISDIR)] [])
          refine own_st (fun t k => XS.iconst X255.here hx rfl (hb hby at_35) k) ?_
          show own_Go _ _ _ _ T255 (mkF m 36 #[.val (.int ip0), .val (.int ip1), .val (.int (ip0 &&& (63 : Int32))), .val (.ref w_EISDIR)] [(.int (1 : Int32))])
          refine own_st (fun t k => XS.goto X255.here hx rfl (pc0 := 36) (pc' := 40) rfl (hb hby at_36) (by decide) (by decide) k) ?_
          show own_Go _ _ _ _ T255 (mkF m 40 #[.val (.int ip0), .val (.int ip1), .val (.int (ip0 &&& (63 : Int32))), .val (.ref w_EISDIR)] [(.int (1 : Int32))])
          exact own_retZ X255 hx hlk (t := .boolean) hret (by simp) (hb hby at_40) (by decide) (by decide) e255 ⟨rfl, N255⟩
        · skip
          exact absurd (Eq.symm hq157_6_6) hq255_7_6
        · skip
          exact absurd (Eq.symm hq157_6_6) hq255_8_6
        · skip
          exact absurd (Eq.symm hq157_6_6) hq255_9_6
        · skip
          exact absurd (Eq.symm hq157_6_6) hq255_10_6
    · skip
      have g_b1x6_3c33c157 : n0 ≤ b1x6_3c33c157 := Nat.le_trans Z0 sq_b1x6_3c33c157
      have sz_b1x6_3c33c157 : h0.size ≤ b1x6_3c33c157 := Nat.le_trans (Keep.refl h0 []).1 sq_b1x6_3c33c157
      refine own_st st157 ?_
      show own_Go _ _ _ _ T157 (mkF m 19 #[.val (.int ip0), .val (.int ip1), .val (.int (ip0 &&& (63 : Int32))), .unset] [(.ref b1x6_3c33c157)])
      refine own_st (fun t k => XS.aconstNull X157.here hx rfl (hb hby at_19) k) ?_
      show own_Go _ _ _ _ T157 (mkF m 20 #[.val (.int ip0), .val (.int ip1), .val (.int (ip0 &&& (63 : Int32))), .unset] [.null, (.ref b1x6_3c33c157)])
      obtain ⟨cq256, kq256, q256a, q256b, q256c⟩ := isOf hZ rfl Fc157_7_0
      obtain ⟨_, _, ⟨T256, L256, k256, n256⟩, -, X256, ⟨Lc256, hQ256, l256, y256, z256⟩, st256⟩ := X157.virtualBack hx (y := (⟨"java/util/Optional", "orElse", "(Ljava/lang/Object;)Ljava/lang/Object;"⟩ : MethodName)) (z := (⟨"java/util/Optional", "orElse", "(Ljava/lang/Object;)Ljava/lang/Object;"⟩ : MethodName)) hown (mvT hZ (own_w hw 36 rfl)) (mvT hZ (own_w hw 37 rfl)) (notFace_of_selects (args := #[]) (mvT hZ (own_w hw 39 rfl))) (mvT hZ (own_w hw 39 rfl)) (mvT hZ (own_w hw 38 rfl)) (by decide) (backOf (W := 0) (own_rm4_7 l Z a0 hw [] b1x6_3c33c157 w_EINVAL T157.heap n0 Z157 Fc157_7_1) hZ (own_w hw 40 rfl) (own_w hw 33 rfl) (by decide) (by decide)) q256a q256c (g := (mkF m 20 #[.val (.int ip0), .val (.int ip1), .val (.int (ip0 &&& (63 : Int32))), .unset] [.null, (.ref b1x6_3c33c157)])) rfl (by rw [hml]; rfl) (Steps.refl _) (argsL := [.null]) (rest := []) (lenOf own_pd1 rfl) rfl (by show 2 * 0 + _ ≤ _; exact Nat.le_of_eq rfl) (hb hby at_20) (fun _ _ => ⟨rfl, rfl, (by decide : 2 + 0 ≤ _), (by decide : 11 + 0 ≤ _)⟩)
      dsimp only [Pt.U, Pt.locs, Pt.cells, Pt.slots] at X256 l256 y256 z256 st256 hQ256
      subst l256 y256 z256
      obtain ⟨N256q, Kq256, hL256⟩ := hQ256
      have N256 := Fr.app N157 N256q
      have K256 : Keep h0 T256.heap [] := K157.trans Kq256 all0
      have Z256 := Nat.le_trans Z157 Kq256.1
      rcases hL256 with ⟨rfl, -⟩
      · skip
        refine own_st (fun t k => st256.trans k) ?_
        show own_Go _ _ _ _ T256 (mkF m 23 #[.val (.int ip0), .val (.int ip1), .val (.int (ip0 &&& (63 : Int32))), .unset] [(.ref w_EINVAL)])
        have f257 := (E_w_EINVAL.keep K256)
        obtain ⟨T258, X258, e258, st258⟩ := castY X256 hx hZ hown (own_w hw 63 rfl) rfl (Ins.self f257) (g := (mkF m 23 #[.val (.int ip0), .val (.int ip1), .val (.int (ip0 &&& (63 : Int32))), .unset] [(.ref w_EINVAL)])) rfl rfl (hb hby at_23)
        refine own_st st258 ?_
        show own_Go _ _ _ _ T258 (mkF m 26 #[.val (.int ip0), .val (.int ip1), .val (.int (ip0 &&& (63 : Int32))), .unset] [(.ref w_EINVAL)])
        refine own_st (fun t k => XS.astoreN X258.here hx rfl (hb hby at_26) rfl rfl (l' := #[.val (.int ip0), .val (.int ip1), .val (.int (ip0 &&& (63 : Int32))), .val (.ref w_EINVAL)]) rfl k) ?_
        show own_Go _ _ _ _ T258 (mkF m 27 #[.val (.int ip0), .val (.int ip1), .val (.int (ip0 &&& (63 : Int32))), .val (.ref w_EINVAL)] [])
        refine own_st (fun t k => XS.aloadN X258.here hx rfl (hb hby at_27) rfl rfl k) ?_
        show own_Go _ _ _ _ T258 (mkF m 28 #[.val (.int ip0), .val (.int ip1), .val (.int (ip0 &&& (63 : Int32))), .val (.ref w_EINVAL)] [(.ref w_EINVAL)])
        refine own_st (fun t k => XS.iloadN X258.here hx rfl (hb hby at_28) rfl k) ?_
        show own_Go _ _ _ _ T258 (mkF m 29 #[.val (.int ip0), .val (.int ip1), .val (.int (ip0 &&& (63 : Int32))), .val (.ref w_EINVAL)] [(.int (ip0 &&& (63 : Int32))), (.ref w_EINVAL)])
        have f259 := (own_stak S_ENOENT K256 all0)
        have f260 := (own_stak S_EIO K256 all0)
        have f261 := (own_stak S_EBADF K256 all0)
        have f262 := (own_stak S_EACCES K256 all0)
        have f263 := (own_stak S_EEXIST K256 all0)
        have f264 := (own_stak S_ENOTDIR K256 all0)
        have f265 := (own_stak S_EISDIR K256 all0)
        have f266 := (own_stak S_EINVAL K256 all0)
        have f267 := (own_stak S_ENOSPC K256 all0)
        have f268 := (own_stak S_ENAMETOOLONG K256 all0)
        obtain ⟨_, _, ⟨T269, L269, k269, n269⟩, -, X269, ⟨Lc269, hQ269, l269, y269, z269⟩, st269⟩ := Jvm.LawKit.callS X258 hx (y := (⟨"com/example/checkpost/checkpost/protocol/ErrnoByNumberPinLaw", "expected", "(I)Lcom/example/checkpost/checkpost/protocol/Errno;"⟩ : MethodName)) hown (mvT hZ (own_w hw 43 rfl)) (mvT hZ (own_w hw 44 rfl)) (mvT hZ (own_w hw 45 rfl)) (mvT hZ (own_w hw 46 rfl)) (by decide) (backOf (W := 1) (own_rm5 l Z a0 hw [] (ip0 &&& (63 : Int32)) w_ENOENT w_EIO w_EBADF w_EACCES w_EEXIST w_ENOTDIR w_EISDIR w_EINVAL w_ENOSPC w_ENAMETOOLONG T256.heap n0 Z256 f259 f260 f261 f262 f263 f264 f265 f266 f267 f268) hZ (own_w hw 46 rfl) (own_w hw 45 rfl) (by decide) (by decide)) (g := (mkF m 29 #[.val (.int ip0), .val (.int ip1), .val (.int (ip0 &&& (63 : Int32))), .val (.ref w_EINVAL)] [(.int (ip0 &&& (63 : Int32))), (.ref w_EINVAL)])) rfl (by rw [hml]; rfl) (argsL := [(.int (ip0 &&& (63 : Int32)))]) (rest := [(.ref w_EINVAL)]) (lenOf own_pd6 rfl) rfl (by show 2 * 0 + _ ≤ _; exact Nat.le_of_eq rfl) (hb hby at_29) (fun _ _ => ⟨rfl, e258, (by decide : 2 + 0 ≤ _), (by decide : 11 + 0 ≤ _)⟩)
        dsimp only [Pt.U, Pt.locs, Pt.cells, Pt.slots] at X269 l269 y269 z269 st269 hQ269
        subst l269 y269 z269
        obtain ⟨N269q, e269, hL269⟩ := hQ269
        have N269 := Fr.app N256 N269q
        rcases hL269 with ⟨rfl, hq269_0_0, -⟩ | ⟨rfl, hq269_1_0, hq269_1_1, -⟩ | ⟨rfl, hq269_2_0, hq269_2_1, hq269_2_2, -⟩ | ⟨rfl, hq269_3_0, hq269_3_1, hq269_3_2, hq269_3_3, -⟩ | ⟨rfl, hq269_4_0, hq269_4_1, hq269_4_2, hq269_4_3, hq269_4_4, -⟩ | ⟨rfl, hq269_5_0, hq269_5_1, hq269_5_2, hq269_5_3, hq269_5_4, hq269_5_5, -⟩ | ⟨rfl, hq269_6_0, hq269_6_1, hq269_6_2, hq269_6_3, hq269_6_4, hq269_6_5, hq269_6_6, -⟩ | ⟨rfl, hq269_7_0, hq269_7_1, hq269_7_2, hq269_7_3, hq269_7_4, hq269_7_5, hq269_7_6, hq269_7_7, -⟩ | ⟨rfl, hq269_8_0, hq269_8_1, hq269_8_2, hq269_8_3, hq269_8_4, hq269_8_5, hq269_8_6, hq269_8_7, hq269_8_8, -⟩ | ⟨rfl, hq269_9_0, hq269_9_1, hq269_9_2, hq269_9_3, hq269_9_4, hq269_9_5, hq269_9_6, hq269_9_7, hq269_9_8, hq269_9_9, -⟩ | ⟨rfl, hq269_10_0, hq269_10_1, hq269_10_2, hq269_10_3, hq269_10_4, hq269_10_5, hq269_10_6, hq269_10_7, hq269_10_8, hq269_10_9, -⟩
        · skip
          exact absurd hq269_0_0 (Ne.symm hq157_7_0)
        · skip
          exact absurd hq269_1_1 (Ne.symm hq157_7_1)
        · skip
          exact absurd hq269_2_2 (Ne.symm hq157_7_2)
        · skip
          exact absurd hq269_3_3 (Ne.symm hq157_7_3)
        · skip
          exact absurd hq269_4_4 (Ne.symm hq157_7_4)
        · skip
          exact absurd hq269_5_5 (Ne.symm hq157_7_5)
        · skip
          exact absurd hq269_6_6 (Ne.symm hq157_7_6)
        · skip
          refine own_st st269 ?_
          show own_Go _ _ _ _ T269 (mkF m 32 #[.val (.int ip0), .val (.int ip1), .val (.int (ip0 &&& (63 : Int32))), .val (.ref w_EINVAL)] [(.ref w_EINVAL), (.ref w_EINVAL)])
          refine own_st (fun t k => Jvm.RoadKit.acmp (g := (mkF m 32 #[.val (.int ip0), .val (.int ip1), .val (.int (ip0 &&& (63 : Int32))), .val (.ref w_EINVAL)] [(.ref w_EINVAL), (.ref w_EINVAL)])) X269 hx rfl rfl rfl (pc0 := 32) (pc' := 35) (same := true) rfl (hb hby at_32) rfl (decide_eq_true (congrArg Value.ref (rfl : w_EINVAL = w_EINVAL))) (by decide) (by decide) k) ?_
          show own_Go _ _ _ _ T269 (mkF m 35 #[.val (.int ip0), .val (.int ip1), .val (.int (ip0 &&& (63 : Int32))), .val (.ref w_EINVAL)] [])
          refine own_st (fun t k => XS.iconst X269.here hx rfl (hb hby at_35) k) ?_
          show own_Go _ _ _ _ T269 (mkF m 36 #[.val (.int ip0), .val (.int ip1), .val (.int (ip0 &&& (63 : Int32))), .val (.ref w_EINVAL)] [(.int (1 : Int32))])
          refine own_st (fun t k => XS.goto X269.here hx rfl (pc0 := 36) (pc' := 40) rfl (hb hby at_36) (by decide) (by decide) k) ?_
          show own_Go _ _ _ _ T269 (mkF m 40 #[.val (.int ip0), .val (.int ip1), .val (.int (ip0 &&& (63 : Int32))), .val (.ref w_EINVAL)] [(.int (1 : Int32))])
          exact own_retZ X269 hx hlk (t := .boolean) hret (by simp) (hb hby at_40) (by decide) (by decide) e269 ⟨rfl, N269⟩
        · skip
          exact absurd (Eq.symm hq157_7_7) hq269_8_7
        · skip
          exact absurd (Eq.symm hq157_7_7) hq269_9_7
        · skip
          exact absurd (Eq.symm hq157_7_7) hq269_10_7
    · skip
      have g_b1x6_3c37c157 : n0 ≤ b1x6_3c37c157 := Nat.le_trans Z0 sq_b1x6_3c37c157
      have sz_b1x6_3c37c157 : h0.size ≤ b1x6_3c37c157 := Nat.le_trans (Keep.refl h0 []).1 sq_b1x6_3c37c157
      refine own_st st157 ?_
      show own_Go _ _ _ _ T157 (mkF m 19 #[.val (.int ip0), .val (.int ip1), .val (.int (ip0 &&& (63 : Int32))), .unset] [(.ref b1x6_3c37c157)])
      refine own_st (fun t k => XS.aconstNull X157.here hx rfl (hb hby at_19) k) ?_
      show own_Go _ _ _ _ T157 (mkF m 20 #[.val (.int ip0), .val (.int ip1), .val (.int (ip0 &&& (63 : Int32))), .unset] [.null, (.ref b1x6_3c37c157)])
      obtain ⟨cq270, kq270, q270a, q270b, q270c⟩ := isOf hZ rfl Fc157_8_0
      obtain ⟨_, _, ⟨T270, L270, k270, n270⟩, -, X270, ⟨Lc270, hQ270, l270, y270, z270⟩, st270⟩ := X157.virtualBack hx (y := (⟨"java/util/Optional", "orElse", "(Ljava/lang/Object;)Ljava/lang/Object;"⟩ : MethodName)) (z := (⟨"java/util/Optional", "orElse", "(Ljava/lang/Object;)Ljava/lang/Object;"⟩ : MethodName)) hown (mvT hZ (own_w hw 36 rfl)) (mvT hZ (own_w hw 37 rfl)) (notFace_of_selects (args := #[]) (mvT hZ (own_w hw 39 rfl))) (mvT hZ (own_w hw 39 rfl)) (mvT hZ (own_w hw 38 rfl)) (by decide) (backOf (W := 0) (own_rm4_7 l Z a0 hw [] b1x6_3c37c157 w_ENOSPC T157.heap n0 Z157 Fc157_8_1) hZ (own_w hw 40 rfl) (own_w hw 33 rfl) (by decide) (by decide)) q270a q270c (g := (mkF m 20 #[.val (.int ip0), .val (.int ip1), .val (.int (ip0 &&& (63 : Int32))), .unset] [.null, (.ref b1x6_3c37c157)])) rfl (by rw [hml]; rfl) (Steps.refl _) (argsL := [.null]) (rest := []) (lenOf own_pd1 rfl) rfl (by show 2 * 0 + _ ≤ _; exact Nat.le_of_eq rfl) (hb hby at_20) (fun _ _ => ⟨rfl, rfl, (by decide : 2 + 0 ≤ _), (by decide : 11 + 0 ≤ _)⟩)
      dsimp only [Pt.U, Pt.locs, Pt.cells, Pt.slots] at X270 l270 y270 z270 st270 hQ270
      subst l270 y270 z270
      obtain ⟨N270q, Kq270, hL270⟩ := hQ270
      have N270 := Fr.app N157 N270q
      have K270 : Keep h0 T270.heap [] := K157.trans Kq270 all0
      have Z270 := Nat.le_trans Z157 Kq270.1
      rcases hL270 with ⟨rfl, -⟩
      · skip
        refine own_st (fun t k => st270.trans k) ?_
        show own_Go _ _ _ _ T270 (mkF m 23 #[.val (.int ip0), .val (.int ip1), .val (.int (ip0 &&& (63 : Int32))), .unset] [(.ref w_ENOSPC)])
        have f271 := (E_w_ENOSPC.keep K270)
        obtain ⟨T272, X272, e272, st272⟩ := castY X270 hx hZ hown (own_w hw 63 rfl) rfl (Ins.self f271) (g := (mkF m 23 #[.val (.int ip0), .val (.int ip1), .val (.int (ip0 &&& (63 : Int32))), .unset] [(.ref w_ENOSPC)])) rfl rfl (hb hby at_23)
        refine own_st st272 ?_
        show own_Go _ _ _ _ T272 (mkF m 26 #[.val (.int ip0), .val (.int ip1), .val (.int (ip0 &&& (63 : Int32))), .unset] [(.ref w_ENOSPC)])
        refine own_st (fun t k => XS.astoreN X272.here hx rfl (hb hby at_26) rfl rfl (l' := #[.val (.int ip0), .val (.int ip1), .val (.int (ip0 &&& (63 : Int32))), .val (.ref w_ENOSPC)]) rfl k) ?_
        show own_Go _ _ _ _ T272 (mkF m 27 #[.val (.int ip0), .val (.int ip1), .val (.int (ip0 &&& (63 : Int32))), .val (.ref w_ENOSPC)] [])
        refine own_st (fun t k => XS.aloadN X272.here hx rfl (hb hby at_27) rfl rfl k) ?_
        show own_Go _ _ _ _ T272 (mkF m 28 #[.val (.int ip0), .val (.int ip1), .val (.int (ip0 &&& (63 : Int32))), .val (.ref w_ENOSPC)] [(.ref w_ENOSPC)])
        refine own_st (fun t k => XS.iloadN X272.here hx rfl (hb hby at_28) rfl k) ?_
        show own_Go _ _ _ _ T272 (mkF m 29 #[.val (.int ip0), .val (.int ip1), .val (.int (ip0 &&& (63 : Int32))), .val (.ref w_ENOSPC)] [(.int (ip0 &&& (63 : Int32))), (.ref w_ENOSPC)])
        have f273 := (own_stak S_ENOENT K270 all0)
        have f274 := (own_stak S_EIO K270 all0)
        have f275 := (own_stak S_EBADF K270 all0)
        have f276 := (own_stak S_EACCES K270 all0)
        have f277 := (own_stak S_EEXIST K270 all0)
        have f278 := (own_stak S_ENOTDIR K270 all0)
        have f279 := (own_stak S_EISDIR K270 all0)
        have f280 := (own_stak S_EINVAL K270 all0)
        have f281 := (own_stak S_ENOSPC K270 all0)
        have f282 := (own_stak S_ENAMETOOLONG K270 all0)
        obtain ⟨_, _, ⟨T283, L283, k283, n283⟩, -, X283, ⟨Lc283, hQ283, l283, y283, z283⟩, st283⟩ := Jvm.LawKit.callS X272 hx (y := (⟨"com/example/checkpost/checkpost/protocol/ErrnoByNumberPinLaw", "expected", "(I)Lcom/example/checkpost/checkpost/protocol/Errno;"⟩ : MethodName)) hown (mvT hZ (own_w hw 43 rfl)) (mvT hZ (own_w hw 44 rfl)) (mvT hZ (own_w hw 45 rfl)) (mvT hZ (own_w hw 46 rfl)) (by decide) (backOf (W := 1) (own_rm5 l Z a0 hw [] (ip0 &&& (63 : Int32)) w_ENOENT w_EIO w_EBADF w_EACCES w_EEXIST w_ENOTDIR w_EISDIR w_EINVAL w_ENOSPC w_ENAMETOOLONG T270.heap n0 Z270 f273 f274 f275 f276 f277 f278 f279 f280 f281 f282) hZ (own_w hw 46 rfl) (own_w hw 45 rfl) (by decide) (by decide)) (g := (mkF m 29 #[.val (.int ip0), .val (.int ip1), .val (.int (ip0 &&& (63 : Int32))), .val (.ref w_ENOSPC)] [(.int (ip0 &&& (63 : Int32))), (.ref w_ENOSPC)])) rfl (by rw [hml]; rfl) (argsL := [(.int (ip0 &&& (63 : Int32)))]) (rest := [(.ref w_ENOSPC)]) (lenOf own_pd6 rfl) rfl (by show 2 * 0 + _ ≤ _; exact Nat.le_of_eq rfl) (hb hby at_29) (fun _ _ => ⟨rfl, e272, (by decide : 2 + 0 ≤ _), (by decide : 11 + 0 ≤ _)⟩)
        dsimp only [Pt.U, Pt.locs, Pt.cells, Pt.slots] at X283 l283 y283 z283 st283 hQ283
        subst l283 y283 z283
        obtain ⟨N283q, e283, hL283⟩ := hQ283
        have N283 := Fr.app N270 N283q
        rcases hL283 with ⟨rfl, hq283_0_0, -⟩ | ⟨rfl, hq283_1_0, hq283_1_1, -⟩ | ⟨rfl, hq283_2_0, hq283_2_1, hq283_2_2, -⟩ | ⟨rfl, hq283_3_0, hq283_3_1, hq283_3_2, hq283_3_3, -⟩ | ⟨rfl, hq283_4_0, hq283_4_1, hq283_4_2, hq283_4_3, hq283_4_4, -⟩ | ⟨rfl, hq283_5_0, hq283_5_1, hq283_5_2, hq283_5_3, hq283_5_4, hq283_5_5, -⟩ | ⟨rfl, hq283_6_0, hq283_6_1, hq283_6_2, hq283_6_3, hq283_6_4, hq283_6_5, hq283_6_6, -⟩ | ⟨rfl, hq283_7_0, hq283_7_1, hq283_7_2, hq283_7_3, hq283_7_4, hq283_7_5, hq283_7_6, hq283_7_7, -⟩ | ⟨rfl, hq283_8_0, hq283_8_1, hq283_8_2, hq283_8_3, hq283_8_4, hq283_8_5, hq283_8_6, hq283_8_7, hq283_8_8, -⟩ | ⟨rfl, hq283_9_0, hq283_9_1, hq283_9_2, hq283_9_3, hq283_9_4, hq283_9_5, hq283_9_6, hq283_9_7, hq283_9_8, hq283_9_9, -⟩ | ⟨rfl, hq283_10_0, hq283_10_1, hq283_10_2, hq283_10_3, hq283_10_4, hq283_10_5, hq283_10_6, hq283_10_7, hq283_10_8, hq283_10_9, -⟩
        · skip
          exact absurd hq283_0_0 (Ne.symm hq157_8_0)
        · skip
          exact absurd hq283_1_1 (Ne.symm hq157_8_1)
        · skip
          exact absurd hq283_2_2 (Ne.symm hq157_8_2)
        · skip
          exact absurd hq283_3_3 (Ne.symm hq157_8_3)
        · skip
          exact absurd hq283_4_4 (Ne.symm hq157_8_4)
        · skip
          exact absurd hq283_5_5 (Ne.symm hq157_8_5)
        · skip
          exact absurd hq283_6_6 (Ne.symm hq157_8_6)
        · skip
          exact absurd hq283_7_7 (Ne.symm hq157_8_7)
        · skip
          refine own_st st283 ?_
          show own_Go _ _ _ _ T283 (mkF m 32 #[.val (.int ip0), .val (.int ip1), .val (.int (ip0 &&& (63 : Int32))), .val (.ref w_ENOSPC)] [(.ref w_ENOSPC), (.ref w_ENOSPC)])
          refine own_st (fun t k => Jvm.RoadKit.acmp (g := (mkF m 32 #[.val (.int ip0), .val (.int ip1), .val (.int (ip0 &&& (63 : Int32))), .val (.ref w_ENOSPC)] [(.ref w_ENOSPC), (.ref w_ENOSPC)])) X283 hx rfl rfl rfl (pc0 := 32) (pc' := 35) (same := true) rfl (hb hby at_32) rfl (decide_eq_true (congrArg Value.ref (rfl : w_ENOSPC = w_ENOSPC))) (by decide) (by decide) k) ?_
          show own_Go _ _ _ _ T283 (mkF m 35 #[.val (.int ip0), .val (.int ip1), .val (.int (ip0 &&& (63 : Int32))), .val (.ref w_ENOSPC)] [])
          refine own_st (fun t k => XS.iconst X283.here hx rfl (hb hby at_35) k) ?_
          show own_Go _ _ _ _ T283 (mkF m 36 #[.val (.int ip0), .val (.int ip1), .val (.int (ip0 &&& (63 : Int32))), .val (.ref w_ENOSPC)] [(.int (1 : Int32))])
          refine own_st (fun t k => XS.goto X283.here hx rfl (pc0 := 36) (pc' := 40) rfl (hb hby at_36) (by decide) (by decide) k) ?_
          show own_Go _ _ _ _ T283 (mkF m 40 #[.val (.int ip0), .val (.int ip1), .val (.int (ip0 &&& (63 : Int32))), .val (.ref w_ENOSPC)] [(.int (1 : Int32))])
          exact own_retZ X283 hx hlk (t := .boolean) hret (by simp) (hb hby at_40) (by decide) (by decide) e283 ⟨rfl, N283⟩
        · skip
          exact absurd (Eq.symm hq157_8_8) hq283_9_8
        · skip
          exact absurd (Eq.symm hq157_8_8) hq283_10_8
    · skip
      have g_b1x6_3c41c157 : n0 ≤ b1x6_3c41c157 := Nat.le_trans Z0 sq_b1x6_3c41c157
      have sz_b1x6_3c41c157 : h0.size ≤ b1x6_3c41c157 := Nat.le_trans (Keep.refl h0 []).1 sq_b1x6_3c41c157
      refine own_st st157 ?_
      show own_Go _ _ _ _ T157 (mkF m 19 #[.val (.int ip0), .val (.int ip1), .val (.int (ip0 &&& (63 : Int32))), .unset] [(.ref b1x6_3c41c157)])
      refine own_st (fun t k => XS.aconstNull X157.here hx rfl (hb hby at_19) k) ?_
      show own_Go _ _ _ _ T157 (mkF m 20 #[.val (.int ip0), .val (.int ip1), .val (.int (ip0 &&& (63 : Int32))), .unset] [.null, (.ref b1x6_3c41c157)])
      obtain ⟨cq284, kq284, q284a, q284b, q284c⟩ := isOf hZ rfl Fc157_9_0
      obtain ⟨_, _, ⟨T284, L284, k284, n284⟩, -, X284, ⟨Lc284, hQ284, l284, y284, z284⟩, st284⟩ := X157.virtualBack hx (y := (⟨"java/util/Optional", "orElse", "(Ljava/lang/Object;)Ljava/lang/Object;"⟩ : MethodName)) (z := (⟨"java/util/Optional", "orElse", "(Ljava/lang/Object;)Ljava/lang/Object;"⟩ : MethodName)) hown (mvT hZ (own_w hw 36 rfl)) (mvT hZ (own_w hw 37 rfl)) (notFace_of_selects (args := #[]) (mvT hZ (own_w hw 39 rfl))) (mvT hZ (own_w hw 39 rfl)) (mvT hZ (own_w hw 38 rfl)) (by decide) (backOf (W := 0) (own_rm4_7 l Z a0 hw [] b1x6_3c41c157 w_ENAMETOOLONG T157.heap n0 Z157 Fc157_9_1) hZ (own_w hw 40 rfl) (own_w hw 33 rfl) (by decide) (by decide)) q284a q284c (g := (mkF m 20 #[.val (.int ip0), .val (.int ip1), .val (.int (ip0 &&& (63 : Int32))), .unset] [.null, (.ref b1x6_3c41c157)])) rfl (by rw [hml]; rfl) (Steps.refl _) (argsL := [.null]) (rest := []) (lenOf own_pd1 rfl) rfl (by show 2 * 0 + _ ≤ _; exact Nat.le_of_eq rfl) (hb hby at_20) (fun _ _ => ⟨rfl, rfl, (by decide : 2 + 0 ≤ _), (by decide : 11 + 0 ≤ _)⟩)
      dsimp only [Pt.U, Pt.locs, Pt.cells, Pt.slots] at X284 l284 y284 z284 st284 hQ284
      subst l284 y284 z284
      obtain ⟨N284q, Kq284, hL284⟩ := hQ284
      have N284 := Fr.app N157 N284q
      have K284 : Keep h0 T284.heap [] := K157.trans Kq284 all0
      have Z284 := Nat.le_trans Z157 Kq284.1
      rcases hL284 with ⟨rfl, -⟩
      · skip
        refine own_st (fun t k => st284.trans k) ?_
        show own_Go _ _ _ _ T284 (mkF m 23 #[.val (.int ip0), .val (.int ip1), .val (.int (ip0 &&& (63 : Int32))), .unset] [(.ref w_ENAMETOOLONG)])
        have f285 := (E_w_ENAMETOOLONG.keep K284)
        obtain ⟨T286, X286, e286, st286⟩ := castY X284 hx hZ hown (own_w hw 63 rfl) rfl (Ins.self f285) (g := (mkF m 23 #[.val (.int ip0), .val (.int ip1), .val (.int (ip0 &&& (63 : Int32))), .unset] [(.ref w_ENAMETOOLONG)])) rfl rfl (hb hby at_23)
        refine own_st st286 ?_
        show own_Go _ _ _ _ T286 (mkF m 26 #[.val (.int ip0), .val (.int ip1), .val (.int (ip0 &&& (63 : Int32))), .unset] [(.ref w_ENAMETOOLONG)])
        refine own_st (fun t k => XS.astoreN X286.here hx rfl (hb hby at_26) rfl rfl (l' := #[.val (.int ip0), .val (.int ip1), .val (.int (ip0 &&& (63 : Int32))), .val (.ref w_ENAMETOOLONG)]) rfl k) ?_
        show own_Go _ _ _ _ T286 (mkF m 27 #[.val (.int ip0), .val (.int ip1), .val (.int (ip0 &&& (63 : Int32))), .val (.ref w_ENAMETOOLONG)] [])
        refine own_st (fun t k => XS.aloadN X286.here hx rfl (hb hby at_27) rfl rfl k) ?_
        show own_Go _ _ _ _ T286 (mkF m 28 #[.val (.int ip0), .val (.int ip1), .val (.int (ip0 &&& (63 : Int32))), .val (.ref w_ENAMETOOLONG)] [(.ref w_ENAMETOOLONG)])
        refine own_st (fun t k => XS.iloadN X286.here hx rfl (hb hby at_28) rfl k) ?_
        show own_Go _ _ _ _ T286 (mkF m 29 #[.val (.int ip0), .val (.int ip1), .val (.int (ip0 &&& (63 : Int32))), .val (.ref w_ENAMETOOLONG)] [(.int (ip0 &&& (63 : Int32))), (.ref w_ENAMETOOLONG)])
        have f287 := (own_stak S_ENOENT K284 all0)
        have f288 := (own_stak S_EIO K284 all0)
        have f289 := (own_stak S_EBADF K284 all0)
        have f290 := (own_stak S_EACCES K284 all0)
        have f291 := (own_stak S_EEXIST K284 all0)
        have f292 := (own_stak S_ENOTDIR K284 all0)
        have f293 := (own_stak S_EISDIR K284 all0)
        have f294 := (own_stak S_EINVAL K284 all0)
        have f295 := (own_stak S_ENOSPC K284 all0)
        have f296 := (own_stak S_ENAMETOOLONG K284 all0)
        obtain ⟨_, _, ⟨T297, L297, k297, n297⟩, -, X297, ⟨Lc297, hQ297, l297, y297, z297⟩, st297⟩ := Jvm.LawKit.callS X286 hx (y := (⟨"com/example/checkpost/checkpost/protocol/ErrnoByNumberPinLaw", "expected", "(I)Lcom/example/checkpost/checkpost/protocol/Errno;"⟩ : MethodName)) hown (mvT hZ (own_w hw 43 rfl)) (mvT hZ (own_w hw 44 rfl)) (mvT hZ (own_w hw 45 rfl)) (mvT hZ (own_w hw 46 rfl)) (by decide) (backOf (W := 1) (own_rm5 l Z a0 hw [] (ip0 &&& (63 : Int32)) w_ENOENT w_EIO w_EBADF w_EACCES w_EEXIST w_ENOTDIR w_EISDIR w_EINVAL w_ENOSPC w_ENAMETOOLONG T284.heap n0 Z284 f287 f288 f289 f290 f291 f292 f293 f294 f295 f296) hZ (own_w hw 46 rfl) (own_w hw 45 rfl) (by decide) (by decide)) (g := (mkF m 29 #[.val (.int ip0), .val (.int ip1), .val (.int (ip0 &&& (63 : Int32))), .val (.ref w_ENAMETOOLONG)] [(.int (ip0 &&& (63 : Int32))), (.ref w_ENAMETOOLONG)])) rfl (by rw [hml]; rfl) (argsL := [(.int (ip0 &&& (63 : Int32)))]) (rest := [(.ref w_ENAMETOOLONG)]) (lenOf own_pd6 rfl) rfl (by show 2 * 0 + _ ≤ _; exact Nat.le_of_eq rfl) (hb hby at_29) (fun _ _ => ⟨rfl, e286, (by decide : 2 + 0 ≤ _), (by decide : 11 + 0 ≤ _)⟩)
        dsimp only [Pt.U, Pt.locs, Pt.cells, Pt.slots] at X297 l297 y297 z297 st297 hQ297
        subst l297 y297 z297
        obtain ⟨N297q, e297, hL297⟩ := hQ297
        have N297 := Fr.app N284 N297q
        rcases hL297 with ⟨rfl, hq297_0_0, -⟩ | ⟨rfl, hq297_1_0, hq297_1_1, -⟩ | ⟨rfl, hq297_2_0, hq297_2_1, hq297_2_2, -⟩ | ⟨rfl, hq297_3_0, hq297_3_1, hq297_3_2, hq297_3_3, -⟩ | ⟨rfl, hq297_4_0, hq297_4_1, hq297_4_2, hq297_4_3, hq297_4_4, -⟩ | ⟨rfl, hq297_5_0, hq297_5_1, hq297_5_2, hq297_5_3, hq297_5_4, hq297_5_5, -⟩ | ⟨rfl, hq297_6_0, hq297_6_1, hq297_6_2, hq297_6_3, hq297_6_4, hq297_6_5, hq297_6_6, -⟩ | ⟨rfl, hq297_7_0, hq297_7_1, hq297_7_2, hq297_7_3, hq297_7_4, hq297_7_5, hq297_7_6, hq297_7_7, -⟩ | ⟨rfl, hq297_8_0, hq297_8_1, hq297_8_2, hq297_8_3, hq297_8_4, hq297_8_5, hq297_8_6, hq297_8_7, hq297_8_8, -⟩ | ⟨rfl, hq297_9_0, hq297_9_1, hq297_9_2, hq297_9_3, hq297_9_4, hq297_9_5, hq297_9_6, hq297_9_7, hq297_9_8, hq297_9_9, -⟩ | ⟨rfl, hq297_10_0, hq297_10_1, hq297_10_2, hq297_10_3, hq297_10_4, hq297_10_5, hq297_10_6, hq297_10_7, hq297_10_8, hq297_10_9, -⟩
        · skip
          exact absurd hq297_0_0 (Ne.symm hq157_9_0)
        · skip
          exact absurd hq297_1_1 (Ne.symm hq157_9_1)
        · skip
          exact absurd hq297_2_2 (Ne.symm hq157_9_2)
        · skip
          exact absurd hq297_3_3 (Ne.symm hq157_9_3)
        · skip
          exact absurd hq297_4_4 (Ne.symm hq157_9_4)
        · skip
          exact absurd hq297_5_5 (Ne.symm hq157_9_5)
        · skip
          exact absurd hq297_6_6 (Ne.symm hq157_9_6)
        · skip
          exact absurd hq297_7_7 (Ne.symm hq157_9_7)
        · skip
          exact absurd hq297_8_8 (Ne.symm hq157_9_8)
        · skip
          refine own_st st297 ?_
          show own_Go _ _ _ _ T297 (mkF m 32 #[.val (.int ip0), .val (.int ip1), .val (.int (ip0 &&& (63 : Int32))), .val (.ref w_ENAMETOOLONG)] [(.ref w_ENAMETOOLONG), (.ref w_ENAMETOOLONG)])
          refine own_st (fun t k => Jvm.RoadKit.acmp (g := (mkF m 32 #[.val (.int ip0), .val (.int ip1), .val (.int (ip0 &&& (63 : Int32))), .val (.ref w_ENAMETOOLONG)] [(.ref w_ENAMETOOLONG), (.ref w_ENAMETOOLONG)])) X297 hx rfl rfl rfl (pc0 := 32) (pc' := 35) (same := true) rfl (hb hby at_32) rfl (decide_eq_true (congrArg Value.ref (rfl : w_ENAMETOOLONG = w_ENAMETOOLONG))) (by decide) (by decide) k) ?_
          show own_Go _ _ _ _ T297 (mkF m 35 #[.val (.int ip0), .val (.int ip1), .val (.int (ip0 &&& (63 : Int32))), .val (.ref w_ENAMETOOLONG)] [])
          refine own_st (fun t k => XS.iconst X297.here hx rfl (hb hby at_35) k) ?_
          show own_Go _ _ _ _ T297 (mkF m 36 #[.val (.int ip0), .val (.int ip1), .val (.int (ip0 &&& (63 : Int32))), .val (.ref w_ENAMETOOLONG)] [(.int (1 : Int32))])
          refine own_st (fun t k => XS.goto X297.here hx rfl (pc0 := 36) (pc' := 40) rfl (hb hby at_36) (by decide) (by decide) k) ?_
          show own_Go _ _ _ _ T297 (mkF m 40 #[.val (.int ip0), .val (.int ip1), .val (.int (ip0 &&& (63 : Int32))), .val (.ref w_ENAMETOOLONG)] [(.int (1 : Int32))])
          exact own_retZ X297 hx hlk (t := .boolean) hret (by simp) (hb hby at_40) (by decide) (by decide) e297 ⟨rfl, N297⟩
        · skip
          exact absurd (Eq.symm hq157_9_9) hq297_10_9
    · skip
      refine own_st st157 ?_
      show own_Go _ _ _ _ T157 (mkF m 19 #[.val (.int ip0), .val (.int ip1), .val (.int (ip0 &&& (63 : Int32))), .unset] [(.ref w_EMPTY)])
      refine own_st (fun t k => XS.aconstNull X157.here hx rfl (hb hby at_19) k) ?_
      show own_Go _ _ _ _ T157 (mkF m 20 #[.val (.int ip0), .val (.int ip1), .val (.int (ip0 &&& (63 : Int32))), .unset] [.null, (.ref w_EMPTY)])
      have f298 := (F_value_w_EMPTY.keep Kq157 nin0)
      have f300 := (E_w_EMPTY.keep Kq157)
      obtain ⟨cq299, kq299, q299a, q299b, q299c⟩ := isOf hZ rfl f300
      obtain ⟨_, _, ⟨T299, L299, k299, n299⟩, -, X299, ⟨Lc299, hQ299, l299, y299, z299⟩, st299⟩ := X157.virtualBack hx (y := (⟨"java/util/Optional", "orElse", "(Ljava/lang/Object;)Ljava/lang/Object;"⟩ : MethodName)) (z := (⟨"java/util/Optional", "orElse", "(Ljava/lang/Object;)Ljava/lang/Object;"⟩ : MethodName)) hown (mvT hZ (own_w hw 36 rfl)) (mvT hZ (own_w hw 37 rfl)) (notFace_of_selects (args := #[]) (mvT hZ (own_w hw 39 rfl))) (mvT hZ (own_w hw 39 rfl)) (mvT hZ (own_w hw 38 rfl)) (by decide) (backOf (W := 0) (own_rm4_8 l Z a0 hw [] w_EMPTY T157.heap n0 Z157 f298) hZ (own_w hw 40 rfl) (own_w hw 33 rfl) (by decide) (by decide)) q299a q299c (g := (mkF m 20 #[.val (.int ip0), .val (.int ip1), .val (.int (ip0 &&& (63 : Int32))), .unset] [.null, (.ref w_EMPTY)])) rfl (by rw [hml]; rfl) (Steps.refl _) (argsL := [.null]) (rest := []) (lenOf own_pd1 rfl) rfl (by show 2 * 0 + _ ≤ _; exact Nat.le_of_eq rfl) (hb hby at_20) (fun _ _ => ⟨rfl, rfl, (by decide : 2 + 0 ≤ _), (by decide : 11 + 0 ≤ _)⟩)
      dsimp only [Pt.U, Pt.locs, Pt.cells, Pt.slots] at X299 l299 y299 z299 st299 hQ299
      subst l299 y299 z299
      obtain ⟨N299q, Kq299, hL299⟩ := hQ299
      have N299 := Fr.app N157 N299q
      have K299 : Keep h0 T299.heap [] := K157.trans Kq299 all0
      have Z299 := Nat.le_trans Z157 Kq299.1
      rcases hL299 with ⟨rfl, -⟩
      · skip
        refine own_st (fun t k => st299.trans k) ?_
        show own_Go _ _ _ _ T299 (mkF m 23 #[.val (.int ip0), .val (.int ip1), .val (.int (ip0 &&& (63 : Int32))), .unset] [.null])
        refine own_st (X299.checkcastNull hx (g := (mkF m 23 #[.val (.int ip0), .val (.int ip1), .val (.int (ip0 &&& (63 : Int32))), .unset] [.null])) rfl rfl (hb hby at_23)) ?_
        show own_Go _ _ _ _ T299 (mkF m 26 #[.val (.int ip0), .val (.int ip1), .val (.int (ip0 &&& (63 : Int32))), .unset] [.null])
        refine own_st (fun t k => XS.astoreN X299.here hx rfl (hb hby at_26) rfl rfl (l' := #[.val (.int ip0), .val (.int ip1), .val (.int (ip0 &&& (63 : Int32))), .val .null]) rfl k) ?_
        show own_Go _ _ _ _ T299 (mkF m 27 #[.val (.int ip0), .val (.int ip1), .val (.int (ip0 &&& (63 : Int32))), .val .null] [])
        refine own_st (fun t k => XS.aloadN X299.here hx rfl (hb hby at_27) rfl rfl k) ?_
        show own_Go _ _ _ _ T299 (mkF m 28 #[.val (.int ip0), .val (.int ip1), .val (.int (ip0 &&& (63 : Int32))), .val .null] [.null])
        refine own_st (fun t k => XS.iloadN X299.here hx rfl (hb hby at_28) rfl k) ?_
        show own_Go _ _ _ _ T299 (mkF m 29 #[.val (.int ip0), .val (.int ip1), .val (.int (ip0 &&& (63 : Int32))), .val .null] [(.int (ip0 &&& (63 : Int32))), .null])
        have f301 := (own_stak S_ENOENT K299 all0)
        have f302 := (own_stak S_EIO K299 all0)
        have f303 := (own_stak S_EBADF K299 all0)
        have f304 := (own_stak S_EACCES K299 all0)
        have f305 := (own_stak S_EEXIST K299 all0)
        have f306 := (own_stak S_ENOTDIR K299 all0)
        have f307 := (own_stak S_EISDIR K299 all0)
        have f308 := (own_stak S_EINVAL K299 all0)
        have f309 := (own_stak S_ENOSPC K299 all0)
        have f310 := (own_stak S_ENAMETOOLONG K299 all0)
        obtain ⟨_, _, ⟨T311, L311, k311, n311⟩, -, X311, ⟨Lc311, hQ311, l311, y311, z311⟩, st311⟩ := Jvm.LawKit.callS X299 hx (y := (⟨"com/example/checkpost/checkpost/protocol/ErrnoByNumberPinLaw", "expected", "(I)Lcom/example/checkpost/checkpost/protocol/Errno;"⟩ : MethodName)) hown (mvT hZ (own_w hw 43 rfl)) (mvT hZ (own_w hw 44 rfl)) (mvT hZ (own_w hw 45 rfl)) (mvT hZ (own_w hw 46 rfl)) (by decide) (backOf (W := 1) (own_rm5 l Z a0 hw [] (ip0 &&& (63 : Int32)) w_ENOENT w_EIO w_EBADF w_EACCES w_EEXIST w_ENOTDIR w_EISDIR w_EINVAL w_ENOSPC w_ENAMETOOLONG T299.heap n0 Z299 f301 f302 f303 f304 f305 f306 f307 f308 f309 f310) hZ (own_w hw 46 rfl) (own_w hw 45 rfl) (by decide) (by decide)) (g := (mkF m 29 #[.val (.int ip0), .val (.int ip1), .val (.int (ip0 &&& (63 : Int32))), .val .null] [(.int (ip0 &&& (63 : Int32))), .null])) rfl (by rw [hml]; rfl) (argsL := [(.int (ip0 &&& (63 : Int32)))]) (rest := [.null]) (lenOf own_pd6 rfl) rfl (by show 2 * 0 + _ ≤ _; exact Nat.le_of_eq rfl) (hb hby at_29) (fun _ _ => ⟨rfl, rfl, (by decide : 2 + 0 ≤ _), (by decide : 11 + 0 ≤ _)⟩)
        dsimp only [Pt.U, Pt.locs, Pt.cells, Pt.slots] at X311 l311 y311 z311 st311 hQ311
        subst l311 y311 z311
        obtain ⟨N311q, e311, hL311⟩ := hQ311
        have N311 := Fr.app N299 N311q
        rcases hL311 with ⟨rfl, hq311_0_0, -⟩ | ⟨rfl, hq311_1_0, hq311_1_1, -⟩ | ⟨rfl, hq311_2_0, hq311_2_1, hq311_2_2, -⟩ | ⟨rfl, hq311_3_0, hq311_3_1, hq311_3_2, hq311_3_3, -⟩ | ⟨rfl, hq311_4_0, hq311_4_1, hq311_4_2, hq311_4_3, hq311_4_4, -⟩ | ⟨rfl, hq311_5_0, hq311_5_1, hq311_5_2, hq311_5_3, hq311_5_4, hq311_5_5, -⟩ | ⟨rfl, hq311_6_0, hq311_6_1, hq311_6_2, hq311_6_3, hq311_6_4, hq311_6_5, hq311_6_6, -⟩ | ⟨rfl, hq311_7_0, hq311_7_1, hq311_7_2, hq311_7_3, hq311_7_4, hq311_7_5, hq311_7_6, hq311_7_7, -⟩ | ⟨rfl, hq311_8_0, hq311_8_1, hq311_8_2, hq311_8_3, hq311_8_4, hq311_8_5, hq311_8_6, hq311_8_7, hq311_8_8, -⟩ | ⟨rfl, hq311_9_0, hq311_9_1, hq311_9_2, hq311_9_3, hq311_9_4, hq311_9_5, hq311_9_6, hq311_9_7, hq311_9_8, hq311_9_9, -⟩ | ⟨rfl, hq311_10_0, hq311_10_1, hq311_10_2, hq311_10_3, hq311_10_4, hq311_10_5, hq311_10_6, hq311_10_7, hq311_10_8, hq311_10_9, -⟩
        · skip
          exact absurd hq311_0_0 (Ne.symm hq157_10_0)
        · skip
          exact absurd hq311_1_1 (Ne.symm hq157_10_1)
        · skip
          exact absurd hq311_2_2 (Ne.symm hq157_10_2)
        · skip
          exact absurd hq311_3_3 (Ne.symm hq157_10_3)
        · skip
          exact absurd hq311_4_4 (Ne.symm hq157_10_4)
        · skip
          exact absurd hq311_5_5 (Ne.symm hq157_10_5)
        · skip
          exact absurd hq311_6_6 (Ne.symm hq157_10_6)
        · skip
          exact absurd hq311_7_7 (Ne.symm hq157_10_7)
        · skip
          exact absurd hq311_8_8 (Ne.symm hq157_10_8)
        · skip
          exact absurd hq311_9_9 (Ne.symm hq157_10_9)
        · skip
          refine own_st st311 ?_
          show own_Go _ _ _ _ T311 (mkF m 32 #[.val (.int ip0), .val (.int ip1), .val (.int (ip0 &&& (63 : Int32))), .val .null] [.null, .null])
          refine own_st (fun t k => Jvm.RoadKit.acmp (g := (mkF m 32 #[.val (.int ip0), .val (.int ip1), .val (.int (ip0 &&& (63 : Int32))), .val .null] [.null, .null])) X311 hx rfl rfl rfl (pc0 := 32) (pc' := 35) (same := true) rfl (hb hby at_32) rfl (decide_eq_true rfl) (by decide) (by decide) k) ?_
          show own_Go _ _ _ _ T311 (mkF m 35 #[.val (.int ip0), .val (.int ip1), .val (.int (ip0 &&& (63 : Int32))), .val .null] [])
          refine own_st (fun t k => XS.iconst X311.here hx rfl (hb hby at_35) k) ?_
          show own_Go _ _ _ _ T311 (mkF m 36 #[.val (.int ip0), .val (.int ip1), .val (.int (ip0 &&& (63 : Int32))), .val .null] [(.int (1 : Int32))])
          refine own_st (fun t k => XS.goto X311.here hx rfl (pc0 := 36) (pc' := 40) rfl (hb hby at_36) (by decide) (by decide) k) ?_
          show own_Go _ _ _ _ T311 (mkF m 40 #[.val (.int ip0), .val (.int ip1), .val (.int (ip0 &&& (63 : Int32))), .val .null] [(.int (1 : Int32))])
          exact own_retZ X311 hx hlk (t := .boolean) hret (by simp) (hb hby at_40) (by decide) (by decide) e311 ⟨rfl, N311⟩
set_option maxRecDepth 65536 in
set_option maxHeartbeats 40000000 in
theorem own_comes {Post : Tables → Env → Array Value → State → Outcome → State → Prop} (hpost : ∀ tb e args s v u, (limb_1_1.after args s (.returned v) u = true ∧ limb_1_2.after args s (.returned v) u = true ∧ True) → FrameEnd s (.returned v) u (Jvm.fieldLocs frame_1_writes args s ++ Jvm.arrayLocs frame_1_arrays args s ++ Jvm.staticLocs frame_1_statics s) 16 128 → Post tb e args s (.returned v) u) :
    ArmFor flags0 classFile x code maxLocals ret World_1 tables_1 room_1 Calls_1 rest_1 Pre_1 Post := by
  intro l hfl _ _ p e ha hc hk s m args below hf hA hF happ hP
  obtain ⟨hcalls, hrest, hpre⟩ := hP
  obtain ⟨-, -, -, hnamed, -, -, -, hat⟩ := (Spec.applies_iff hf).mp happ
  obtain ⟨hg, hn⟩ := and_e (Cond.before_iff.mp (show (Jvm.Cond.and given_1 narrow_1).before args s = true from hpre))
  obtain ⟨g65, g66⟩ := and_e hg
  obtain ⟨g67, g68⟩ := and_e g66
  obtain ⟨w0, w1, rfl⟩ : ∃ w0 w1 : Value, args = #[w0, w1] := by
    have hs : args.size = 2 := by simpa [Cond.value, given_1] using g65
    obtain ⟨L⟩ := args
    match L, hs with
    | [w0, w1], _ => exact ⟨w0, w1, rfl⟩
  have hw := fun d (hd : d ∈ tables_1) => atoms_spec (ws := Jvm.Cond.code x code maxLocals ret :: tables_1) hat d (List.mem_cons_of_mem _ hd)
  obtain ⟨i0, ei0⟩ := is_v g67
  obtain rfl : w0 = (.int i0) := Option.some.inj ei0
  obtain ⟨i1, ei1⟩ := is_v g68
  obtain rfl : w1 = (.int i1) := Option.some.inj ei1
  have hfit : Fit s := fun {y c} hc i hi => by
    obtain ⟨ha, rfl⟩ := Array.getElem?_eq_some_iff.mp hc
    have q := List.all_eq_true.mp ((Array.all_eq_true_iff_forall_mem.mp hF) _ (Array.getElem_mem ha)) i (List.mem_range.mpr hi)
    simpa [Array.getElem?_eq_getElem hi] using q
  obtain ⟨g1, g2⟩ := and_e hn
  obtain ⟨g3, g4⟩ := and_e g2
  obtain ⟨g5, g6⟩ := and_e g4
  obtain ⟨g7, g8⟩ := and_e g6
  obtain ⟨g9, g10⟩ := and_e g8
  obtain ⟨g11, g12⟩ := and_e g10
  obtain ⟨g13, g14⟩ := and_e g12
  obtain ⟨g15, g16⟩ := and_e g14
  obtain ⟨g17, g18⟩ := and_e g16
  obtain ⟨g19, g20⟩ := and_e g18
  obtain ⟨g21, g22⟩ := and_e g20
  obtain ⟨g23, g24⟩ := and_e g22
  obtain ⟨g25, g26⟩ := and_e g24
  obtain ⟨g27, g28⟩ := and_e g26
  obtain ⟨g29, g30⟩ := and_e g28
  obtain ⟨g31, g32⟩ := and_e g30
  obtain ⟨g33, g34⟩ := and_e g32
  obtain ⟨g35, g36⟩ := and_e g34
  obtain ⟨g37, g38⟩ := and_e g36
  obtain ⟨g39, g40⟩ := and_e g38
  obtain ⟨g41, g42⟩ := and_e g40
  obtain ⟨g43, g44⟩ := and_e g42
  obtain ⟨g45, g46⟩ := and_e g44
  obtain ⟨g47, g48⟩ := and_e g46
  obtain ⟨g49, g50⟩ := and_e g48
  obtain ⟨g51, g52⟩ := and_e g50
  obtain ⟨g53, g54⟩ := and_e g52
  obtain ⟨g55, g56⟩ := and_e g54
  obtain ⟨g57, g58⟩ := and_e g56
  obtain ⟨g59, g60⟩ := and_e g58
  obtain ⟨g61, g62⟩ := and_e g60
  obtain ⟨g63, g64⟩ := and_e g62
  obtain ⟨hsets, hown0⟩ := atoms_of _ (rest_1_c_eq ▸ (show rest_1_c.before _ s = true from hrest))
  obtain ⟨w__VALUES, ev_w__VALUES⟩ := arr_v g1
  have S__VALUES := Sta.start ev_w__VALUES (Or.inr ⟨(own_w hw 2 rfl), (own_w hw 8 rfl)⟩)
  obtain ⟨cl_w__VALUES, Ar_w__VALUES⟩ := Arr.start ev_w__VALUES g1
  have E_w__VALUES := Exa.start ev_w__VALUES g3
  obtain ⟨w_ENOENT, ev_w_ENOENT⟩ := exa_v g7
  have S_ENOENT := Sta.start ev_w_ENOENT (Or.inr ⟨(own_w hw 2 rfl), (own_w hw 16 rfl)⟩)
  have E_w_ENOENT := Exa.start ev_w_ENOENT g7
  obtain ⟨w_EIO, ev_w_EIO⟩ := exa_v g11
  have S_EIO := Sta.start ev_w_EIO (Or.inr ⟨(own_w hw 2 rfl), (own_w hw 17 rfl)⟩)
  have E_w_EIO := Exa.start ev_w_EIO g11
  obtain ⟨w_EBADF, ev_w_EBADF⟩ := exa_v g15
  have S_EBADF := Sta.start ev_w_EBADF (Or.inr ⟨(own_w hw 2 rfl), (own_w hw 18 rfl)⟩)
  have E_w_EBADF := Exa.start ev_w_EBADF g15
  obtain ⟨w_EACCES, ev_w_EACCES⟩ := exa_v g19
  have S_EACCES := Sta.start ev_w_EACCES (Or.inr ⟨(own_w hw 2 rfl), (own_w hw 19 rfl)⟩)
  have E_w_EACCES := Exa.start ev_w_EACCES g19
  obtain ⟨w_EEXIST, ev_w_EEXIST⟩ := exa_v g23
  have S_EEXIST := Sta.start ev_w_EEXIST (Or.inr ⟨(own_w hw 2 rfl), (own_w hw 20 rfl)⟩)
  have E_w_EEXIST := Exa.start ev_w_EEXIST g23
  obtain ⟨w_ENOTDIR, ev_w_ENOTDIR⟩ := exa_v g27
  have S_ENOTDIR := Sta.start ev_w_ENOTDIR (Or.inr ⟨(own_w hw 2 rfl), (own_w hw 21 rfl)⟩)
  have E_w_ENOTDIR := Exa.start ev_w_ENOTDIR g27
  obtain ⟨w_EISDIR, ev_w_EISDIR⟩ := exa_v g31
  have S_EISDIR := Sta.start ev_w_EISDIR (Or.inr ⟨(own_w hw 2 rfl), (own_w hw 22 rfl)⟩)
  have E_w_EISDIR := Exa.start ev_w_EISDIR g31
  obtain ⟨w_EINVAL, ev_w_EINVAL⟩ := exa_v g35
  have S_EINVAL := Sta.start ev_w_EINVAL (Or.inr ⟨(own_w hw 2 rfl), (own_w hw 23 rfl)⟩)
  have E_w_EINVAL := Exa.start ev_w_EINVAL g35
  obtain ⟨w_ENOSPC, ev_w_ENOSPC⟩ := exa_v g39
  have S_ENOSPC := Sta.start ev_w_ENOSPC (Or.inr ⟨(own_w hw 2 rfl), (own_w hw 24 rfl)⟩)
  have E_w_ENOSPC := Exa.start ev_w_ENOSPC g39
  obtain ⟨w_ENAMETOOLONG, ev_w_ENAMETOOLONG⟩ := exa_v g43
  have S_ENAMETOOLONG := Sta.start ev_w_ENAMETOOLONG (Or.inr ⟨(own_w hw 2 rfl), (own_w hw 25 rfl)⟩)
  have E_w_ENAMETOOLONG := Exa.start ev_w_ENAMETOOLONG g43
  obtain ⟨w_EMPTY, ev_w_EMPTY⟩ := exa_v (Cond.before_iff.mp (hsets _ (List.mem_of_getElem? (i := 2) rfl)))
  have S_EMPTY := Sta.start ev_w_EMPTY (Or.inl (hsets _ (List.mem_of_getElem? (i := 1) rfl)))
  have E_w_EMPTY := Exa.start ev_w_EMPTY (Cond.before_iff.mp (hsets _ (List.mem_of_getElem? (i := 2) rfl)))
  have F_number_w_ENOENT := Fld.start ((fld_at ev_w_ENOENT).symm.trans (own_eqI g47 (Term.int_eval _)))
  have F_number_w_EIO := Fld.start ((fld_at ev_w_EIO).symm.trans (own_eqI g49 (Term.int_eval _)))
  have F_number_w_EBADF := Fld.start ((fld_at ev_w_EBADF).symm.trans (own_eqI g51 (Term.int_eval _)))
  have F_number_w_EACCES := Fld.start ((fld_at ev_w_EACCES).symm.trans (own_eqI g53 (Term.int_eval _)))
  have F_number_w_EEXIST := Fld.start ((fld_at ev_w_EEXIST).symm.trans (own_eqI g55 (Term.int_eval _)))
  have F_number_w_ENOTDIR := Fld.start ((fld_at ev_w_ENOTDIR).symm.trans (own_eqI g57 (Term.int_eval _)))
  have F_number_w_EISDIR := Fld.start ((fld_at ev_w_EISDIR).symm.trans (own_eqI g59 (Term.int_eval _)))
  have F_number_w_EINVAL := Fld.start ((fld_at ev_w_EINVAL).symm.trans (own_eqI g61 (Term.int_eval _)))
  have F_number_w_ENOSPC := Fld.start ((fld_at ev_w_ENOSPC).symm.trans (own_eqI g63 (Term.int_eval _)))
  have F_number_w_ENAMETOOLONG := Fld.start ((fld_at ev_w_ENAMETOOLONG).symm.trans (own_eqI g64 (Term.int_eval _)))
  have F_value_w_EMPTY := Fld.start ((fld_at ev_w_EMPTY).symm.trans (null_v (Cond.before_iff.mp (hsets _ (List.mem_of_getElem? (i := 3) rfl)))))
  have V_w__VALUES : Arv s s.heap w__VALUES cl_w__VALUES.cls (.object "com/example/checkpost/checkpost/protocol/Errno") (10 : Int32) [(.ref w_ENOENT), (.ref w_EIO), (.ref w_EBADF), (.ref w_EACCES), (.ref w_EEXIST), (.ref w_ENOTDIR), (.ref w_EISDIR), (.ref w_EINVAL), (.ref w_ENOSPC), (.ref w_ENAMETOOLONG)] .null := Arv.start hfit Ar_w__VALUES (own_len g5 ev_w__VALUES Ar_w__VALUES).1 (own_len g5 ev_w__VALUES Ar_w__VALUES).2 (by decide) rfl ⟨own_elem g9 ev_w_ENOENT ev_w__VALUES Ar_w__VALUES, own_elem g13 ev_w_EIO ev_w__VALUES Ar_w__VALUES, own_elem g17 ev_w_EBADF ev_w__VALUES Ar_w__VALUES, own_elem g21 ev_w_EACCES ev_w__VALUES Ar_w__VALUES, own_elem g25 ev_w_EEXIST ev_w__VALUES Ar_w__VALUES, own_elem g29 ev_w_ENOTDIR ev_w__VALUES Ar_w__VALUES, own_elem g33 ev_w_EISDIR ev_w__VALUES Ar_w__VALUES, own_elem g37 ev_w_EINVAL ev_w__VALUES Ar_w__VALUES, own_elem g41 ev_w_ENOSPC ev_w__VALUES Ar_w__VALUES, own_elem g45 ev_w_ENAMETOOLONG ev_w__VALUES Ar_w__VALUES, trivial⟩
  obtain ⟨k_w__VALUES, hk_w__VALUES⟩ : ∃ k, k = cl_w__VALUES.cls := ⟨_, rfl⟩
  rw [← hk_w__VALUES] at V_w__VALUES
  obtain ⟨n, o, h1, h2, h3, _, L, rfl, ⟨rfl, N⟩, hq⟩ := own_rm0 l s _ hw tables_1 i0 i1 w__VALUES w_ENOENT w_EIO w_EBADF w_EACCES w_EEXIST w_ENOTDIR w_EISDIR w_EINVAL w_ENOSPC w_ENAMETOOLONG w_EMPTY k_w__VALUES s.heap s.heap.size (Nat.le_refl _) S__VALUES E_w__VALUES S_ENOENT E_w_ENOENT S_EIO E_w_EIO S_EBADF E_w_EBADF S_EACCES E_w_EACCES S_EEXIST E_w_EEXIST S_ENOTDIR E_w_ENOTDIR S_EISDIR E_w_EISDIR S_EINVAL E_w_EINVAL S_ENOSPC E_w_ENOSPC S_ENAMETOOLONG E_w_ENAMETOOLONG S_EMPTY E_w_EMPTY F_number_w_ENOENT F_number_w_EIO F_number_w_EBADF F_number_w_EACCES F_number_w_EEXIST F_number_w_ENOTDIR F_number_w_EISDIR F_number_w_EINVAL F_number_w_ENOSPC F_number_w_ENAMETOOLONG F_value_w_EMPTY V_w__VALUES p e ha hc hk s m _ below hf ((Spec.applies_iff_loose hf).mp happ).1 ⟨rfl, State.Warmed39.refl s, rfl⟩ trivial
  exact ⟨n, _, h1, h2, h3, hpost _ _ _ _ _ _ ⟨Cond.after_iff.mpr rfl, Cond.after_iff.mpr (eq_i res_at (Term.int_eval (1)) rfl), trivial⟩ ⟨hq.1, hq.2.1, (hq.2.2.sift fun y hy => Or.inr (N y hy)).mono (by decide) (by decide)⟩⟩
theorem main_1_1 : Claimed_1_1 := own_comes fun _ _ _ _ _ _ h hF => ⟨h.1, hF⟩
theorem main_1_2 : Claimed_1_2 := own_comes fun _ _ _ _ _ _ h hF => ⟨h.2.1, hF⟩
end Jvm.Pilot.@@N@@
namespace Jvm.Pilot.@@N@@
open Jvm Jvm.ClassFile Sem Op Lib Jvm.Free Jvm.Stand Jvm.Pilot.@@N@@.Jvm.D
/-! MADE BY PROGRAM (witnessworld.py) out of the Statement's table words and the real class files: 15 classes; the members and pool entries that the words name. The judged class is class 1, her method 2. -/
namespace start1
open Jvm.ClassFile
def u (s : String) : CpInfo := .utf8 (stringToUtf16 s)
/-- a pool by its gaps: so many unusable entries, then the entry; so many at the end -/
def gap : Nat → List CpInfo → List CpInfo
  | 0, r => r
  | n + 1, r => .unusable :: gap n r
def poolList (es : List (Nat × CpInfo)) (last : Nat) : List CpInfo := es.foldr (fun e r => gap e.1 (e.2 :: r)) (gap last [])
def pool (es : List (Nat × CpInfo)) (last : Nat) : Array CpInfo := ⟨poolList es last⟩
def fileOf (pool : Array CpInfo) (this : Nat) (attrs : Array Attribute := #[]) (ms : Array MethodInfo := #[]) (fl : Nat := 33) (sup : Nat := 0) (ifs : Array Nat := #[]) (fds : Array FieldInfo := #[]) : ClassFile where
  minorVersion := 0
  majorVersion := 65
  constantPool := pool
  accessFlags := fl
  thisClass := this
  superClass := sup
  interfaces := ifs
  fields := fds
  methods := ms
  attributes := attrs
def plain (name : String) (sup : Option ClassId) : Class where
  name := name
  kind := .ordinary
  loader := none
  accessFlags := 33
  super := sup
  interfaces := #[]
  cf := none
  fields := #[]
  methods := #[]
  instanceTypes := #[]
  staticTypes := #[]
  resolved := #[]
  callSites := []
  init := .initialized
  statics := none
  mirror := none

def pool0 : Array CpInfo := pool [(5, u "<init>"), (0, u "()V"), (1, .class_ 10), (1, u "java/lang/Object"), (85, u "clone"), (0, u "()Ljava/lang/Object;")] 26

def k0c0 : Code := { maxStack := 0, maxLocals := 1, code := object_method_1_code, exceptionTable := #[], attributes := #[] }
def k0m0 : Method := { name := "<init>", desc := "()V", sig := { parameters := [], returnType := none }, accessFlags := 1, code := some k0c0 }
def k0m1 : Method := { name := "clone", desc := "()Ljava/lang/Object;", sig := { parameters := [], returnType := some (.object "java/lang/Object") }, accessFlags := 260, code := none }
/-- java/lang/Object -/
def k0 : Class := { plain "java/lang/Object" none with
  accessFlags := 33
  interfaces := #[]
  cf := some (fileOf pool0 8 #[] #[{ accessFlags := 1, nameIndex := 5, descriptorIndex := 6, attributes := #[] }, { accessFlags := 260, nameIndex := 96, descriptorIndex := 97, attributes := #[] }] 33 0 #[] #[])
  fields := #[]
  methods := #[k0m0, k0m1]
  instanceTypes := #[]
  staticTypes := #[]
  resolved := Array.replicate 124 none
  statics := none }

def pool1 : Array CpInfo := pool [(2, .class_ 4), (1, u "java/lang/Object"), (0, u "<init>"), (0, u "()V"), (0, .fieldref 8 9), (0, .class_ 10), (0, .nameAndType 11 12), (0, u "com/example/checkpost/checkpost/protocol/Errno"), (0, u "ENOENT"), (0, u "Lcom/example/checkpost/checkpost/protocol/Errno;"), (0, .fieldref 8 14), (0, .nameAndType 15 12), (0, u "EIO"), (0, .fieldref 8 17), (0, .nameAndType 18 12), (0, u "EBADF"), (0, .fieldref 8 20), (0, .nameAndType 21 12), (0, u "EACCES"), (0, .fieldref 8 23), (0, .nameAndType 24 12), (0, u "EEXIST"), (0, .fieldref 8 26), (0, .nameAndType 27 12), (0, u "ENOTDIR"), (0, .fieldref 8 29), (0, .nameAndType 30 12), (0, u "EISDIR"), (0, .fieldref 8 32), (0, .nameAndType 33 12), (0, u "EINVAL"), (0, .fieldref 8 35), (0, .nameAndType 36 12), (0, u "ENOSPC"), (0, .fieldref 8 38), (0, .nameAndType 39 12), (0, u "ENAMETOOLONG"), (0, .methodref 8 41), (0, .nameAndType 42 43), (0, u "byNumber"), (0, u "(I)Ljava/util/Optional;"), (0, .methodref 45 46), (0, .class_ 47), (0, .nameAndType 48 49), (0, u "java/util/Optional"), (0, u "orElse"), (0, u "(Ljava/lang/Object;)Ljava/lang/Object;"), (0, .methodref 51 52), (0, .class_ 53), (0, .nameAndType 54 55), (0, u "com/example/checkpost/checkpost/protocol/ErrnoByNumberPinLaw"), (0, u "expected"), (0, u "(I)Lcom/example/checkpost/checkpost/protocol/Errno;"), (3, u "law"), (0, u "(II)Z")] 2

def k1m0 : Method := { name := "<init>", desc := "()V", sig := { parameters := [], returnType := none }, accessFlags := 2, code := none }
def k1c1 : Code := { maxStack := 2, maxLocals := 1, code := method_2_code, exceptionTable := #[], attributes := #[] }
def k1m1 : Method := { name := "expected", desc := "(I)Lcom/example/checkpost/checkpost/protocol/Errno;", sig := { parameters := [.int], returnType := some (.object "com/example/checkpost/checkpost/protocol/Errno") }, accessFlags := 10, code := some k1c1 }
def k1c2 : Code := { maxStack := 2, maxLocals := 4, code := code, exceptionTable := #[], attributes := #[] }
def k1m2 : Method := { name := "law", desc := "(II)Z", sig := { parameters := [.int, .int], returnType := some .boolean }, accessFlags := 9, code := some k1c2 }
/-- com/example/checkpost/checkpost/protocol/ErrnoByNumberPinLaw -/
def k1 : Class := { plain "com/example/checkpost/checkpost/protocol/ErrnoByNumberPinLaw" (some 0) with
  accessFlags := 49
  interfaces := #[]
  cf := some (fileOf pool1 51 #[] #[{ accessFlags := 2, nameIndex := 5, descriptorIndex := 6, attributes := #[] }, { accessFlags := 10, nameIndex := 54, descriptorIndex := 55, attributes := #[] }, { accessFlags := 9, nameIndex := 59, descriptorIndex := 60, attributes := #[] }] 49 2 #[] #[])
  fields := #[]
  methods := #[k1m0, k1m1, k1m2]
  instanceTypes := #[]
  staticTypes := #[]
  resolved := Array.replicate 63 none
  statics := none }

def pool2 : Array CpInfo := pool [(1, .class_ 2), (0, u "java/lang/constant/Constable"), (0, .class_ 4), (0, u "java/lang/Object")] 6

/-- java/lang/constant/Constable -/
def k2 : Class := { plain "java/lang/constant/Constable" (some 0) with
  accessFlags := 1537
  interfaces := #[]
  cf := some (fileOf pool2 1 #[] #[] 1537 3 #[] #[])
  fields := #[]
  methods := #[]
  instanceTypes := #[]
  staticTypes := #[]
  resolved := Array.replicate 11 none
  statics := none }

def pool3 : Array CpInfo := pool [(1, .class_ 2), (0, u "java/lang/Comparable"), (0, .class_ 4), (0, u "java/lang/Object")] 7

/-- java/lang/Comparable -/
def k3 : Class := { plain "java/lang/Comparable" (some 0) with
  accessFlags := 1537
  interfaces := #[]
  cf := some (fileOf pool3 1 #[] #[] 1537 3 #[] #[])
  fields := #[]
  methods := #[]
  instanceTypes := #[]
  staticTypes := #[]
  resolved := Array.replicate 12 none
  statics := none }

def pool4 : Array CpInfo := pool [(1, .class_ 2), (0, u "java/io/Serializable"), (0, .class_ 4), (0, u "java/lang/Object")] 2

/-- java/io/Serializable -/
def k4 : Class := { plain "java/io/Serializable" (some 0) with
  accessFlags := 1537
  interfaces := #[]
  cf := some (fileOf pool4 1 #[] #[] 1537 3 #[] #[])
  fields := #[]
  methods := #[]
  instanceTypes := #[]
  staticTypes := #[]
  resolved := Array.replicate 7 none
  statics := none }

def pool5 : Array CpInfo := pool [(2, .class_ 4), (1, u "java/lang/Enum"), (0, u "name"), (0, u "Ljava/lang/String;"), (2, u "ordinal"), (0, u "I"), (1, .class_ 14), (1, u "java/lang/Object"), (4, u "hash"), (86, .class_ 108), (1, u "java/lang/Enum$EnumDesc"), (2, .class_ 112), (0, u "java/lang/constant/Constable"), (0, .class_ 114), (0, u "java/lang/Comparable"), (0, .class_ 116), (0, u "java/io/Serializable")] 87

/-- java/lang/Enum -/
def k5 : Class := { plain "java/lang/Enum" (some 0) with
  accessFlags := 1057
  interfaces := #[2, 3, 4]
  cf := some (fileOf pool5 2 #[.nestMembers #[106]] #[] 1057 12 #[111, 113, 115] #[{ accessFlags := 18, nameIndex := 5, descriptorIndex := 6, attributes := #[] }, { accessFlags := 18, nameIndex := 9, descriptorIndex := 10, attributes := #[] }, { accessFlags := 2, nameIndex := 19, descriptorIndex := 10, attributes := #[] }])
  fields := #[{ name := "name", type := (.object "java/lang/String"), accessFlags := 18, slot := 0, constantValue := 0 }, { name := "ordinal", type := .int, accessFlags := 18, slot := 1, constantValue := 0 }, { name := "hash", type := .int, accessFlags := 2, slot := 2, constantValue := 0 }]
  methods := #[]
  instanceTypes := #[(.object "java/lang/String"), .int, .int]
  staticTypes := #[]
  resolved := Array.replicate 204 none
  statics := none }

def pool6 : Array CpInfo := pool [(1, .class_ 2), (0, u "com/example/checkpost/checkpost/protocol/Errno"), (2, u "ENOENT"), (0, u "Lcom/example/checkpost/checkpost/protocol/Errno;"), (2, u "EIO"), (2, u "EBADF"), (2, u "EACCES"), (2, u "EEXIST"), (2, u "ENOTDIR"), (2, u "EISDIR"), (2, u "EINVAL"), (2, u "ENOSPC"), (2, u "ENAMETOOLONG"), (0, .fieldref 1 35), (0, .nameAndType 36 37), (0, u "$VALUES"), (0, u "[Lcom/example/checkpost/checkpost/protocol/Errno;"), (0, .methodref 39 40), (0, .class_ 37), (0, .nameAndType 41 42), (0, u "clone"), (0, u "()Ljava/lang/Object;"), (1, .class_ 46), (1, u "java/lang/Enum"), (6, .fieldref 1 54), (0, .nameAndType 55 56), (0, u "number"), (0, u "I"), (0, .methodref 1 58), (0, .nameAndType 59 60), (0, u "values"), (0, u "()[Lcom/example/checkpost/checkpost/protocol/Errno;"), (0, .methodref 62 63), (0, .class_ 64), (0, .nameAndType 65 66), (0, u "java/util/Optional"), (0, u "of"), (0, u "(Ljava/lang/Object;)Ljava/util/Optional;"), (0, .methodref 62 68), (0, .nameAndType 69 70), (0, u "empty"), (0, u "()Ljava/util/Optional;"), (23, u "byNumber"), (0, u "(I)Ljava/util/Optional;")] 7

def k6c0 : Code := { maxStack := 1, maxLocals := 0, code := prog_17_method_1_code, exceptionTable := #[], attributes := #[] }
def k6m0 : Method := { name := "values", desc := "()[Lcom/example/checkpost/checkpost/protocol/Errno;", sig := { parameters := [], returnType := some (.array (.object "com/example/checkpost/checkpost/protocol/Errno")) }, accessFlags := 9, code := some k6c0 }
def k6c1 : Code := { maxStack := 2, maxLocals := 5, code := prog_17_method_5_code, exceptionTable := #[], attributes := #[] }
def k6m1 : Method := { name := "byNumber", desc := "(I)Ljava/util/Optional;", sig := { parameters := [.int], returnType := some (.object "java/util/Optional") }, accessFlags := 9, code := some k6c1 }
/-- com/example/checkpost/checkpost/protocol/Errno -/
def k6 : Class := { plain "com/example/checkpost/checkpost/protocol/Errno" (some 5) with
  accessFlags := 16433
  interfaces := #[]
  cf := some (fileOf pool6 1 #[] #[{ accessFlags := 9, nameIndex := 59, descriptorIndex := 60, attributes := #[] }, { accessFlags := 9, nameIndex := 94, descriptorIndex := 95, attributes := #[] }] 16433 44 #[] #[{ accessFlags := 16409, nameIndex := 5, descriptorIndex := 6, attributes := #[] }, { accessFlags := 16409, nameIndex := 9, descriptorIndex := 6, attributes := #[] }, { accessFlags := 16409, nameIndex := 12, descriptorIndex := 6, attributes := #[] }, { accessFlags := 16409, nameIndex := 15, descriptorIndex := 6, attributes := #[] }, { accessFlags := 16409, nameIndex := 18, descriptorIndex := 6, attributes := #[] }, { accessFlags := 16409, nameIndex := 21, descriptorIndex := 6, attributes := #[] }, { accessFlags := 16409, nameIndex := 24, descriptorIndex := 6, attributes := #[] }, { accessFlags := 16409, nameIndex := 27, descriptorIndex := 6, attributes := #[] }, { accessFlags := 16409, nameIndex := 30, descriptorIndex := 6, attributes := #[] }, { accessFlags := 16409, nameIndex := 33, descriptorIndex := 6, attributes := #[] }, { accessFlags := 18, nameIndex := 55, descriptorIndex := 56, attributes := #[] }, { accessFlags := 4122, nameIndex := 36, descriptorIndex := 37, attributes := #[] }])
  fields := #[{ name := "ENOENT", type := (.object "com/example/checkpost/checkpost/protocol/Errno"), accessFlags := 16409, slot := 0, constantValue := 0 }, { name := "EIO", type := (.object "com/example/checkpost/checkpost/protocol/Errno"), accessFlags := 16409, slot := 1, constantValue := 0 }, { name := "EBADF", type := (.object "com/example/checkpost/checkpost/protocol/Errno"), accessFlags := 16409, slot := 2, constantValue := 0 }, { name := "EACCES", type := (.object "com/example/checkpost/checkpost/protocol/Errno"), accessFlags := 16409, slot := 3, constantValue := 0 }, { name := "EEXIST", type := (.object "com/example/checkpost/checkpost/protocol/Errno"), accessFlags := 16409, slot := 4, constantValue := 0 }, { name := "ENOTDIR", type := (.object "com/example/checkpost/checkpost/protocol/Errno"), accessFlags := 16409, slot := 5, constantValue := 0 }, { name := "EISDIR", type := (.object "com/example/checkpost/checkpost/protocol/Errno"), accessFlags := 16409, slot := 6, constantValue := 0 }, { name := "EINVAL", type := (.object "com/example/checkpost/checkpost/protocol/Errno"), accessFlags := 16409, slot := 7, constantValue := 0 }, { name := "ENOSPC", type := (.object "com/example/checkpost/checkpost/protocol/Errno"), accessFlags := 16409, slot := 8, constantValue := 0 }, { name := "ENAMETOOLONG", type := (.object "com/example/checkpost/checkpost/protocol/Errno"), accessFlags := 16409, slot := 9, constantValue := 0 }, { name := "number", type := .int, accessFlags := 18, slot := 3, constantValue := 0 }, { name := "$VALUES", type := (.array (.object "com/example/checkpost/checkpost/protocol/Errno")), accessFlags := 4122, slot := 10, constantValue := 0 }]
  methods := #[k6m0, k6m1]
  instanceTypes := #[(.object "java/lang/String"), .int, .int, .int]
  staticTypes := #[(.object "com/example/checkpost/checkpost/protocol/Errno"), (.object "com/example/checkpost/checkpost/protocol/Errno"), (.object "com/example/checkpost/checkpost/protocol/Errno"), (.object "com/example/checkpost/checkpost/protocol/Errno"), (.object "com/example/checkpost/checkpost/protocol/Errno"), (.object "com/example/checkpost/checkpost/protocol/Errno"), (.object "com/example/checkpost/checkpost/protocol/Errno"), (.object "com/example/checkpost/checkpost/protocol/Errno"), (.object "com/example/checkpost/checkpost/protocol/Errno"), (.object "com/example/checkpost/checkpost/protocol/Errno"), (.array (.object "com/example/checkpost/checkpost/protocol/Errno"))]
  resolved := Array.replicate 103 none
  statics := some 0 }

def pool7 : Array CpInfo := pool [(1, .class_ 2), (0, u "java/lang/Cloneable"), (0, .class_ 4), (0, u "java/lang/Object")] 2

/-- java/lang/Cloneable -/
def k7 : Class := { plain "java/lang/Cloneable" (some 0) with
  accessFlags := 1537
  interfaces := #[]
  cf := some (fileOf pool7 1 #[] #[] 1537 3 #[] #[])
  fields := #[]
  methods := #[]
  instanceTypes := #[]
  staticTypes := #[]
  resolved := Array.replicate 7 none
  statics := none }

def pool8 : Array CpInfo := pool [(1, .fieldref 2 3), (0, .class_ 4), (0, .nameAndType 5 6), (0, u "java/util/Optional"), (0, u "EMPTY"), (0, u "Ljava/util/Optional;"), (0, .methodref 8 9), (0, .class_ 10), (0, .nameAndType 11 12), (0, u "java/lang/Object"), (0, u "<init>"), (0, u "()V"), (0, .fieldref 2 14), (0, .nameAndType 15 16), (0, u "value"), (0, u "Ljava/lang/Object;"), (0, .methodref 18 19), (0, .class_ 20), (0, .nameAndType 21 22), (0, u "java/util/Objects"), (0, u "requireNonNull"), (0, u "(Ljava/lang/Object;)Ljava/lang/Object;"), (0, .methodref 2 24), (0, .nameAndType 11 25), (0, u "(Ljava/lang/Object;)V"), (29, u "empty"), (0, u "()Ljava/util/Optional;"), (8, u "(Ljava/lang/Object;)Ljava/util/Optional;"), (16, u "of"), (82, u "orElse")] 21

def k8c0 : Code := { maxStack := 1, maxLocals := 1, code := jdk_32_method_1_code, exceptionTable := #[], attributes := #[] }
def k8m0 : Method := { name := "empty", desc := "()Ljava/util/Optional;", sig := { parameters := [], returnType := some (.object "java/util/Optional") }, accessFlags := 9, code := some k8c0 }
def k8c1 : Code := { maxStack := 2, maxLocals := 2, code := jdk_32_method_2_code, exceptionTable := #[], attributes := #[] }
def k8m1 : Method := { name := "<init>", desc := "(Ljava/lang/Object;)V", sig := { parameters := [(.object "java/lang/Object")], returnType := none }, accessFlags := 2, code := some k8c1 }
def k8c2 : Code := { maxStack := 3, maxLocals := 1, code := jdk_32_method_3_code, exceptionTable := #[], attributes := #[] }
def k8m2 : Method := { name := "of", desc := "(Ljava/lang/Object;)Ljava/util/Optional;", sig := { parameters := [(.object "java/lang/Object")], returnType := some (.object "java/util/Optional") }, accessFlags := 9, code := some k8c2 }
def k8c3 : Code := { maxStack := 1, maxLocals := 2, code := jdk_32_method_15_code, exceptionTable := #[], attributes := #[] }
def k8m3 : Method := { name := "orElse", desc := "(Ljava/lang/Object;)Ljava/lang/Object;", sig := { parameters := [(.object "java/lang/Object")], returnType := some (.object "java/lang/Object") }, accessFlags := 1, code := some k8c3 }
/-- java/util/Optional -/
def k8 : Class := { plain "java/util/Optional" (some 0) with
  accessFlags := 49
  interfaces := #[]
  cf := some (fileOf pool8 2 #[] #[{ accessFlags := 9, nameIndex := 55, descriptorIndex := 56, attributes := #[] }, { accessFlags := 2, nameIndex := 11, descriptorIndex := 25, attributes := #[] }, { accessFlags := 9, nameIndex := 82, descriptorIndex := 65, attributes := #[] }, { accessFlags := 1, nameIndex := 165, descriptorIndex := 22, attributes := #[] }] 49 8 #[] #[{ accessFlags := 26, nameIndex := 5, descriptorIndex := 6, attributes := #[] }, { accessFlags := 18, nameIndex := 15, descriptorIndex := 16, attributes := #[] }])
  fields := #[{ name := "EMPTY", type := (.object "java/util/Optional"), accessFlags := 26, slot := 0, constantValue := 0 }, { name := "value", type := (.object "java/lang/Object"), accessFlags := 18, slot := 0, constantValue := 0 }]
  methods := #[k8m0, k8m1, k8m2, k8m3]
  instanceTypes := #[(.object "java/lang/Object")]
  staticTypes := #[(.object "java/util/Optional")]
  resolved := Array.replicate 187 none
  statics := some 1 }

def pool9 : Array CpInfo := pool [(2, .class_ 4), (1, u "java/lang/Object"), (0, u "<init>"), (0, u "()V"), (35, .class_ 44), (1, u "java/util/Objects"), (0, u "requireNonNull"), (0, u "(Ljava/lang/Object;)Ljava/lang/Object;")] 137

def k9m0 : Method := { name := "<init>", desc := "()V", sig := { parameters := [], returnType := none }, accessFlags := 2, code := none }
def k9c1 : Code := { maxStack := 2, maxLocals := 1, code := jdk_31_method_10_code, exceptionTable := #[], attributes := #[] }
def k9m1 : Method := { name := "requireNonNull", desc := "(Ljava/lang/Object;)Ljava/lang/Object;", sig := { parameters := [(.object "java/lang/Object")], returnType := some (.object "java/lang/Object") }, accessFlags := 9, code := some k9c1 }
/-- java/util/Objects -/
def k9 : Class := { plain "java/util/Objects" (some 0) with
  accessFlags := 49
  interfaces := #[]
  cf := some (fileOf pool9 42 #[] #[{ accessFlags := 2, nameIndex := 5, descriptorIndex := 6, attributes := #[] }, { accessFlags := 9, nameIndex := 45, descriptorIndex := 46, attributes := #[] }] 49 2 #[] #[])
  fields := #[]
  methods := #[k9m0, k9m1]
  instanceTypes := #[]
  staticTypes := #[]
  resolved := Array.replicate 184 none
  statics := none }

/-- the primitive byte -/
def k10 : Class := { plain "byte" none with kind := .primitive 'B', accessFlags := 0x411 }
/-- [B -/
def k11 : Class := { plain "[B" (some 0) with kind := .array 10 .byte, interfaces := #[7, 4], accessFlags := 1041 }

/-- the primitive int -/
def k12 : Class := { plain "int" none with kind := .primitive 'I', accessFlags := 0x411 }
/-- [I -/
def k13 : Class := { plain "[I" (some 0) with kind := .array 12 .int, interfaces := #[7, 4], accessFlags := 1041 }

/-- [Lcom/example/checkpost/checkpost/protocol/Errno; -/
def k14 : Class := { plain "[Lcom/example/checkpost/checkpost/protocol/Errno;" (some 0) with kind := .array 6 (.object "com/example/checkpost/checkpost/protocol/Errno"), interfaces := #[7, 4], accessFlags := 1041 }

def heap : Heap := #[{ cls := 6, slots := #[.ref 3, .ref 4, .ref 5, .ref 6, .ref 7, .ref 8, .ref 9, .ref 10, .ref 11, .ref 12, .ref 2], vm := .statics 6 },
  { cls := 8, slots := #[.ref 13], vm := .statics 8 },
  { cls := 14, slots := #[.ref 3, .ref 4, .ref 5, .ref 6, .ref 7, .ref 8, .ref 9, .ref 10, .ref 11, .ref 12], vm := .none },
  { cls := 6, slots := #[.null, .int 0, .int 0, .int 2], vm := .none },
  { cls := 6, slots := #[.null, .int 0, .int 0, .int 5], vm := .none },
  { cls := 6, slots := #[.null, .int 0, .int 0, .int 9], vm := .none },
  { cls := 6, slots := #[.null, .int 0, .int 0, .int 13], vm := .none },
  { cls := 6, slots := #[.null, .int 0, .int 0, .int 17], vm := .none },
  { cls := 6, slots := #[.null, .int 0, .int 0, .int 20], vm := .none },
  { cls := 6, slots := #[.null, .int 0, .int 0, .int 21], vm := .none },
  { cls := 6, slots := #[.null, .int 0, .int 0, .int 22], vm := .none },
  { cls := 6, slots := #[.null, .int 0, .int 0, .int 28], vm := .none },
  { cls := 6, slots := #[.null, .int 0, .int 0, .int 36], vm := .none },
  { cls := 8, slots := #[.null], vm := .none }]
def classes : Array Class := #[k0, k1, k2, k3, k4, k5, k6, k7, k8, k9, k10, k11, k12, k13, k14]
def interned : List (Array UInt16 × Addr) := []
def slotsUsed : Nat := 63
def theMethod : MethodId := ⟨1, 2⟩
def args0 : Array Value := #[.int 5, .int 7]
def aboutOver (below : List Frame) : State where
  vm := { classes := classes, interned := interned.toArray }
  heap := heap
  slotsUsed := slotsUsed
  threads := #[{ frames := .invoking theMethod args0 :: below }]
def below0 : List Frame := [.native { method := ⟨0, 0⟩, args := #[] }]
def about1 : State := aboutOver below0
def p0 : Program := .bare "" "" ""
def e0 : Env := launch0.env 0 0 0
theorem w_frames : about1.frames = Frame.invoking theMethod args0 :: below0 := rfl
set_option maxRecDepth 65536 in
theorem w_args : argsFit about1.vm theMethod args0 = true := by decide +kernel
set_option maxRecDepth 65536 in
theorem w_heap : heapFits about1 = true := by decide +kernel
set_option maxRecDepth 65536 in
theorem w_runnable : about1.curStatus? = some .runnable := by decide +kernel
set_option maxRecDepth 65536 in
theorem w_alone : about1.alone = true := by decide +kernel
set_option maxRecDepth 65536 in
theorem w_named : about1.methodNamed? x = some theMethod := by decide +kernel
set_option maxRecDepth 65536 in
theorem w_hears : about1.hears theMethod below0 = true := by decide +kernel
set_option maxRecDepth 65536 in
theorem w_ripe : about1.ripe theMethod args0 below0 = true := by decide +kernel
theorem w_running : about1.status = .running := rfl
set_option maxRecDepth 65536 in
theorem w_room : about1.hasRoom e0.platform room_1 = true :=
  launch0.hasRoom_least _ room_1 (by decide +kernel) (by decide +kernel) (by decide +kernel) (by decide +kernel) (by decide +kernel) (by decide +kernel)
theorem allAtoms_all (ts : List Jvm.Cond) (a : Array Jvm.Value) (st : Jvm.State) : (allAtoms ts).before a st = ts.all (fun c => c.before a st) := by
  induction ts with
  | nil => rfl
  | cons c t ih =>
    show (Jvm.Cond.and c (allAtoms t)).before a st = _
    rw [Jvm.Cond.before_and, ih, List.all_cons]
def words1 : List Jvm.Cond := Jvm.Cond.code x code maxLocals ret :: tables_1
/-- a 'code' word, met by the world's own term for the bytes: nothing is compared byte by byte -/
theorem code_word {y : MethodName} {bytes : ByteArray} {mx : Nat} {rt : Option FieldType} {a : Array Value} {s : State} {m : MethodId} {meth : Method} {c : Code} (h1 : s.methodNamed? y = some m) (h2 : s.vm.method? m = some meth) (h3 : meth.code = some c) (h4 : c.code = bytes)
    (h5 : (c.maxLocals == mx && c.exceptionTable.isEmpty && decide (c.maxStack ≤ mostOperands) && decide (meth.sig.returnType = rt) && !meth.locks && decide (parseMethodDescriptor y.desc = some meth.sig)) = true) : (Jvm.Cond.code y bytes mx rt).before a s = true := by
  simp only [Bool.and_eq_true, beq_iff_eq, Bool.not_eq_true', decide_eq_true_eq] at h5
  obtain ⟨⟨⟨⟨⟨g1, g2⟩, g3⟩, g4⟩, g5⟩, g6⟩ := h5
  simp [Cond.before, Cond.holds, Cond.value, h1, h2, h3, h4, g1, g2, g3, g4, g5, g6]
def isCode : Jvm.Cond → Bool
  | .code _ _ _ _ => true
  | _ => false
theorem all_split {L : List Jvm.Cond} {P : Jvm.Cond → Bool} (h1 : L.all (fun c => isCode c || P c) = true) (h2 : ∀ c ∈ L.filter isCode, P c = true) : L.all P = true := by
  refine List.all_eq_true.mpr fun c hc => ?_
  have h := List.all_eq_true.mp h1 c hc
  rcases Bool.eq_false_or_eq_true (isCode c) with hi | hi
  · exact h2 c (List.mem_filter.mpr ⟨hc, hi⟩)
  · simpa [hi] using h
set_option maxRecDepth 65536 in
theorem w_c0 : (Jvm.Cond.code x code maxLocals ret).before args0 about1 = true := code_word (m := ⟨1, 2⟩) (meth := k1m2) (c := k1c2) (by decide +kernel) rfl rfl rfl (by decide +kernel)
set_option maxRecDepth 65536 in
theorem w_c1 : (Jvm.Cond.code ({ cls := "com/example/checkpost/checkpost/protocol/Errno", name := "byNumber", desc := "(I)Ljava/util/Optional;" } : Jvm.MethodName) prog_17_method_5_code (5 : Nat) (Option.some (Jvm.ClassFile.FieldType.object "java/util/Optional"))).before args0 about1 = true := code_word (m := ⟨6, 1⟩) (meth := k6m1) (c := k6c1) (by decide +kernel) rfl rfl rfl (by decide +kernel)
set_option maxRecDepth 65536 in
theorem w_c2 : (Jvm.Cond.code ({ cls := "com/example/checkpost/checkpost/protocol/Errno", name := "values", desc := "()[Lcom/example/checkpost/checkpost/protocol/Errno;" } : Jvm.MethodName) prog_17_method_1_code (0 : Nat) (Option.some (Jvm.ClassFile.FieldType.array (Jvm.ClassFile.FieldType.object "com/example/checkpost/checkpost/protocol/Errno")))).before args0 about1 = true := code_word (m := ⟨6, 0⟩) (meth := k6m0) (c := k6c0) (by decide +kernel) rfl rfl rfl (by decide +kernel)
set_option maxRecDepth 65536 in
theorem w_c3 : (Jvm.Cond.code ({ cls := "java/util/Optional", name := "empty", desc := "()Ljava/util/Optional;" } : Jvm.MethodName) jdk_32_method_1_code (1 : Nat) (Option.some (Jvm.ClassFile.FieldType.object "java/util/Optional"))).before args0 about1 = true := code_word (m := ⟨8, 0⟩) (meth := k8m0) (c := k8c0) (by decide +kernel) rfl rfl rfl (by decide +kernel)
set_option maxRecDepth 65536 in
theorem w_c4 : (Jvm.Cond.code ({ cls := "java/util/Optional", name := "orElse", desc := "(Ljava/lang/Object;)Ljava/lang/Object;" } : Jvm.MethodName) jdk_32_method_15_code (2 : Nat) (Option.some (Jvm.ClassFile.FieldType.object "java/lang/Object"))).before args0 about1 = true := code_word (m := ⟨8, 3⟩) (meth := k8m3) (c := k8c3) (by decide +kernel) rfl rfl rfl (by decide +kernel)
set_option maxRecDepth 65536 in
theorem w_c5 : (Jvm.Cond.code ({ cls := "com/example/checkpost/checkpost/protocol/ErrnoByNumberPinLaw", name := "expected", desc := "(I)Lcom/example/checkpost/checkpost/protocol/Errno;" } : Jvm.MethodName) method_2_code (1 : Nat) (Option.some (Jvm.ClassFile.FieldType.object "com/example/checkpost/checkpost/protocol/Errno"))).before args0 about1 = true := code_word (m := ⟨1, 1⟩) (meth := k1m1) (c := k1c1) (by decide +kernel) rfl rfl rfl (by decide +kernel)
set_option maxRecDepth 65536 in
theorem w_c6 : (Jvm.Cond.code ({ cls := "java/util/Optional", name := "of", desc := "(Ljava/lang/Object;)Ljava/util/Optional;" } : Jvm.MethodName) jdk_32_method_3_code (1 : Nat) (Option.some (Jvm.ClassFile.FieldType.object "java/util/Optional"))).before args0 about1 = true := code_word (m := ⟨8, 2⟩) (meth := k8m2) (c := k8c2) (by decide +kernel) rfl rfl rfl (by decide +kernel)
set_option maxRecDepth 65536 in
theorem w_c7 : (Jvm.Cond.code ({ cls := "java/util/Objects", name := "requireNonNull", desc := "(Ljava/lang/Object;)Ljava/lang/Object;" } : Jvm.MethodName) jdk_31_method_10_code (1 : Nat) (Option.some (Jvm.ClassFile.FieldType.object "java/lang/Object"))).before args0 about1 = true := code_word (m := ⟨9, 1⟩) (meth := k9m1) (c := k9c1) (by decide +kernel) rfl rfl rfl (by decide +kernel)
set_option maxRecDepth 65536 in
theorem w_c8 : (Jvm.Cond.code ({ cls := "java/util/Optional", name := "<init>", desc := "(Ljava/lang/Object;)V" } : Jvm.MethodName) jdk_32_method_2_code (2 : Nat) (Option.none : Option Jvm.ClassFile.FieldType)).before args0 about1 = true := code_word (m := ⟨8, 1⟩) (meth := k8m1) (c := k8c1) (by decide +kernel) rfl rfl rfl (by decide +kernel)
set_option maxRecDepth 65536 in
theorem w_c9 : (Jvm.Cond.code ({ cls := "java/lang/Object", name := "<init>", desc := "()V" } : Jvm.MethodName) object_method_1_code (1 : Nat) (Option.none : Option Jvm.ClassFile.FieldType)).before args0 about1 = true := code_word (m := ⟨0, 0⟩) (meth := k0m0) (c := k0c0) (by decide +kernel) rfl rfl rfl (by decide +kernel)
def codes1 : List Jvm.Cond := [Jvm.Cond.code x code maxLocals ret, Jvm.Cond.code ({ cls := "com/example/checkpost/checkpost/protocol/Errno", name := "byNumber", desc := "(I)Ljava/util/Optional;" } : Jvm.MethodName) prog_17_method_5_code (5 : Nat) (Option.some (Jvm.ClassFile.FieldType.object "java/util/Optional")), Jvm.Cond.code ({ cls := "com/example/checkpost/checkpost/protocol/Errno", name := "values", desc := "()[Lcom/example/checkpost/checkpost/protocol/Errno;" } : Jvm.MethodName) prog_17_method_1_code (0 : Nat) (Option.some (Jvm.ClassFile.FieldType.array (Jvm.ClassFile.FieldType.object "com/example/checkpost/checkpost/protocol/Errno"))), Jvm.Cond.code ({ cls := "java/util/Optional", name := "empty", desc := "()Ljava/util/Optional;" } : Jvm.MethodName) jdk_32_method_1_code (1 : Nat) (Option.some (Jvm.ClassFile.FieldType.object "java/util/Optional")), Jvm.Cond.code ({ cls := "java/util/Optional", name := "orElse", desc := "(Ljava/lang/Object;)Ljava/lang/Object;" } : Jvm.MethodName) jdk_32_method_15_code (2 : Nat) (Option.some (Jvm.ClassFile.FieldType.object "java/lang/Object")), Jvm.Cond.code ({ cls := "com/example/checkpost/checkpost/protocol/ErrnoByNumberPinLaw", name := "expected", desc := "(I)Lcom/example/checkpost/checkpost/protocol/Errno;" } : Jvm.MethodName) method_2_code (1 : Nat) (Option.some (Jvm.ClassFile.FieldType.object "com/example/checkpost/checkpost/protocol/Errno")), Jvm.Cond.code ({ cls := "java/util/Optional", name := "of", desc := "(Ljava/lang/Object;)Ljava/util/Optional;" } : Jvm.MethodName) jdk_32_method_3_code (1 : Nat) (Option.some (Jvm.ClassFile.FieldType.object "java/util/Optional")), Jvm.Cond.code ({ cls := "java/util/Objects", name := "requireNonNull", desc := "(Ljava/lang/Object;)Ljava/lang/Object;" } : Jvm.MethodName) jdk_31_method_10_code (1 : Nat) (Option.some (Jvm.ClassFile.FieldType.object "java/lang/Object")), Jvm.Cond.code ({ cls := "java/util/Optional", name := "<init>", desc := "(Ljava/lang/Object;)V" } : Jvm.MethodName) jdk_32_method_2_code (2 : Nat) (Option.none : Option Jvm.ClassFile.FieldType), Jvm.Cond.code ({ cls := "java/lang/Object", name := "<init>", desc := "()V" } : Jvm.MethodName) object_method_1_code (1 : Nat) (Option.none : Option Jvm.ClassFile.FieldType)]
set_option maxRecDepth 65536 in
theorem codes_eq : words1.filter isCode = codes1 := rfl
theorem w_codes : ∀ c ∈ words1.filter isCode, c.before args0 about1 = true := by
  rw [codes_eq]
  intro c hc
  simp only [codes1, List.mem_cons, List.not_mem_nil, or_false] at hc
  rcases hc with rfl | rfl | rfl | rfl | rfl | rfl | rfl | rfl | rfl | rfl
  · exact w_c0
  · exact w_c1
  · exact w_c2
  · exact w_c3
  · exact w_c4
  · exact w_c5
  · exact w_c6
  · exact w_c7
  · exact w_c8
  · exact w_c9
set_option maxRecDepth 65536 in
theorem w_t1 : (words1.take 24).all (fun c => isCode c || c.before args0 about1) = true := by decide +kernel
set_option maxRecDepth 65536 in
theorem w_t2 : ((words1.drop 24).take 24).all (fun c => isCode c || c.before args0 about1) = true := by decide +kernel
set_option maxRecDepth 65536 in
theorem w_t3 : (((words1.drop 24).drop 24).take 24).all (fun c => isCode c || c.before args0 about1) = true := by decide +kernel
set_option maxRecDepth 65536 in
theorem w_t4 : (((words1.drop 24).drop 24).drop 24).all (fun c => isCode c || c.before args0 about1) = true := by decide +kernel
theorem w_tables : (allAtoms (Jvm.Cond.code x code maxLocals ret :: tables_1)).before args0 about1 = true := by
  rw [allAtoms_all]
  show words1.all (fun c => c.before args0 about1) = true
  refine all_split ?_ w_codes
  rw [← List.take_append_drop 24 words1, List.all_append, w_t1, ← List.take_append_drop 24 (words1.drop 24), List.all_append, w_t2, ← List.take_append_drop 24 ((words1.drop 24).drop 24), List.all_append, w_t3, w_t4]
  rfl
set_option maxRecDepth 65536 in
theorem w_rest : rest_1_c.before args0 about1 = true := by decide +kernel
set_option maxRecDepth 65536 in
theorem w_case : (Jvm.Cond.and given_1 narrow_1).before args0 about1 = true := by decide +kernel
theorem w_applies : (headSpec (Jvm.Cond.code x code maxLocals ret :: tables_1) room_1).applies x e0.platform about1 = true :=
  (Spec.applies_iff w_frames).mpr ⟨w_running, w_runnable, w_alone, w_named, w_hears, w_ripe, w_room, w_tables⟩
theorem atStart : AtStart classFile x code maxLocals ret World_1 tables_1 room_1 Calls_1 rest_1 Pre_1 launch0 p0 e0 about1 theMethod args0 below0 :=
  ⟨lists_1, trivial, launch0.admits_env _ _ _, launch0.least_env, fairChoices_fair.cas, fairChoices_fair.clock, w_frames, w_args, w_heap, w_applies, trivial, w_rest, w_case⟩
end start1
theorem witness_1 : WitnessClaimed_1 := ⟨start1.p0, start1.e0, start1.about1, start1.theMethod, start1.args0, start1.below0, start1.atStart⟩
end Jvm.Pilot.@@N@@
