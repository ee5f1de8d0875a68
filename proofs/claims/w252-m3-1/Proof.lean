import JvmDerived
import JvmDerived.Pilot.@@N@@Statement
import JvmDerived.Pilot.@@N@@Code
set_option linter.unusedVariables false
set_option linter.unusedSimpArgs false
namespace Jvm.RoadKit
open Sem ClassFile Op Lib Jvm.Stand Jvm.Free Jvm.LawKit
section New
variable {p : Program} {l : Launch} {e : Env} {R : Room} {s : State} {m : MethodId} {args : Array Value} {below : List Frame} {meth : Method} {c : Code} {T : State} {locs : List Loc} {cells slots : Nat}
theorem retI (X : Stand p l e R s m args below meth c T locs cells slots) (hx : p.tables.exec = Jvm.exec) {pc : Nat} {Ls : Array Slot} {z : Int32} {rest : List Value} (hret : meth.sig.returnType = some .int) (hd : decode c.code pc = .ok (.ireturn, 1)) {fs : List Frame}
    (hl : ∀ (f : JFrame) (acts : List Action), f.method = m → f.locked = none → f.entered = [] → (doReturn e (T.setTop f) acts (some (.int z))).1 = T.setFrames fs) : Steps p.tables e below (T.setTop (mkF m pc Ls (.int z :: rest))) (T.setFrames fs) := by
  have hm' : T.vm.method? m = some meth := X.method'
  have hn : narrow .int (.int z) = .int z := rfl
  show Steps p.tables e below (T.setTop { method := m, pc := pc, locals := Ls, stack := _ :: rest, locked := none }) _
  jvm_step X.here [X.here.top, hx, hd, hm', hret, hn]
  first | (intro acts; rw [hl _ acts rfl rfl rfl]) | rw [hl _ _ rfl rfl rfl]
  exact Steps.refl _
end New
end Jvm.RoadKit
namespace Jvm.Pilot.@@N@@
open Jvm Jvm.ClassFile Sem Op Lib Jvm.Free Jvm.Stand Jvm.LawKit Jvm.RoadKit Bundle Jvm.Pilot.@@N@@.Jvm.D
/-- from the frame g on the run comes to an end that Q says -/
def own_Goes (p : Program) (e : Env) (below : List Frame) (Q : Outcome → State → Prop) (T : State) (g : JFrame) : Prop :=
  ∃ s₂ o, Steps p.tables e below (T.setTop g) s₂ ∧ s₂.status = .running ∧ Ended s₂ below o ∧ Q o s₂
theorem own_st {p : Program} {e : Env} {below : List Frame} {Q : Outcome → State → Prop} {T T' : State} {g g' : JFrame}
    (h : ∀ t, Steps p.tables e below (T'.setTop g') t → Steps p.tables e below (T.setTop g) t) (k : own_Goes p e below Q T' g') : own_Goes p e below Q T g := by
  obtain ⟨s₂, o, h1, h2⟩ := k
  exact ⟨s₂, o, h _ h1, h2⟩
theorem own_end {p : Program} {l : Launch} {e : Env} {R : Room} {s : State} {m : MethodId} {args : Array Value} {below : List Frame} {meth : Method} {c : Code} {T : State} {locs : List Loc} {cells slots : Nat} {C S : Nat} {Q : Option Value → Heap → List Loc → Prop} {g : JFrame} {v : Option Value}
    (X : Stand p l e R s m args below meth c T locs cells slots) (hv : meth.sig.returnType = none → v = none)
    (hret : ∀ fs, (∀ (f : JFrame) (acts : List Action), f.method = m → f.locked = none → f.entered = [] → (doReturn e (T.setTop f) acts v).1 = T.setFrames fs) → Steps p.tables e below (T.setTop g) (T.setFrames fs))
    (hQ : Q v T.heap locs) (hC : cells ≤ C) (hS : slots ≤ S) (hlocks : meth.locks = false := by first | assumption) :
    own_Goes p e below (fun o U' => ∃ v L, o = .returned v ∧ Q v U'.heap L ∧ FrameEnd s o U' L C S) T g := by
  obtain ⟨fs, hr, hrun, hended, hW, hsame⟩ := X.leave (v := v) hv hlocks
  exact ⟨_, _, hret fs hr, hrun, hended, _, _, rfl, hQ, ⟨_, rfl⟩, hW, hsame.mono hC hS⟩
theorem own_selP {s : State} {args : Array Value} {y : MethodName} {n : Nat} (wi : (Cond.instantiable y.cls n).before args s = true) (hpriv : s.PrivateAt y) (hinst : (Cond.instanceMethod y).before args s = true)
    (hy : y.cls ≠ "java/lang/invoke/MethodHandle" ∧ y.cls ≠ "java/lang/invoke/VarHandle") : (Cond.selects y.cls y y).before args s = true := by
  obtain ⟨c, k, hc, hk, -, hi, -, -⟩ := Cond.instantiable_spec wi
  exact Jvm.Stand.selects_self_of_private hc hk (Bool.or_eq_false_iff.mp hi).1 hpriv hinst hy
/-- what a call by a contract leaves, its counters put in -/
theorem own_packS {p : Program} {l : Launch} {e : Env} {R : Room} {s : State} {m : MethodId} {args : Array Value} {below : List Frame} {meth : Method} {c : Code} {T : State} {locs : List Loc} {cells slots rc rs : Nat} {Q : Option Value → Heap → List Loc → Prop} {g : JFrame} {rest : List Value}
    (h : ∃ (v : Option Value) (vm₁ : Vm) (B : Pt), s.WarmedH vm₁ ∧ Stand p l e R s m args below meth c B.U B.locs B.cells B.slots ∧ (∃ L, Q v B.U.heap L ∧ B.locs = locs ++ L ∧ B.cells = cells + rc ∧ B.slots = slots + rs) ∧ ∀ target, Steps p.tables e below (B.U.setTop { g with pc := g.pc + 3, stack := v.toList ++ rest }) target → Steps p.tables e below (T.setTop g) target) :
    ∃ (v : Option Value) (T' : State) (L : List Loc), Stand p l e R s m args below meth c T' (locs ++ L) (cells + rc) (slots + rs) ∧ Q v T'.heap L ∧ ∀ target, Steps p.tables e below (T'.setTop { g with pc := g.pc + 3, stack := v.toList ++ rest }) target → Steps p.tables e below (T.setTop g) target := by
  obtain ⟨v, vm₁, ⟨T', L', k', n'⟩, -, X', ⟨Lc, hq, l, y, z⟩, st⟩ := h
  subst l y z
  exact ⟨v, T', Lc, X', hq, st⟩
theorem own_packV {p : Program} {l : Launch} {e : Env} {R : Room} {s : State} {m : MethodId} {args : Array Value} {below : List Frame} {meth : Method} {c : Code} {T : State} {locs : List Loc} {cells slots rc rs : Nat} {Q : Option Value → Heap → List Loc → Prop} {g : JFrame} {rest : List Value}
    (h : ∃ (v : Option Value) (vm₁ : Vm) (B : Pt), s.WarmedH vm₁ ∧ Stand p l e R s m args below meth c B.U B.locs B.cells B.slots ∧ (∃ L, Q v B.U.heap L ∧ B.locs = locs ++ L ∧ B.cells = cells + rc ∧ B.slots = slots + rs) ∧ Steps p.tables e below (T.setTop g) (B.U.setTop { g with pc := g.pc + 3, stack := v.toList ++ rest })) :
    ∃ (v : Option Value) (T' : State) (L : List Loc), Stand p l e R s m args below meth c T' (locs ++ L) (cells + rc) (slots + rs) ∧ Q v T'.heap L ∧ ∀ target, Steps p.tables e below (T'.setTop { g with pc := g.pc + 3, stack := v.toList ++ rest }) target → Steps p.tables e below (T.setTop g) target := by
  obtain ⟨v, vm₁, ⟨T', L', k', n'⟩, -, X', ⟨Lc, hq, l, y, z⟩, st⟩ := h
  subst l y z
  exact ⟨v, T', Lc, X', hq, fun _ k => st.trans k⟩
/-- the written places, their list forgotten -/
theorem own_loc {p : Program} {l : Launch} {e : Env} {R : Room} {s : State} {m : MethodId} {args : Array Value} {below : List Frame} {meth : Method} {c : Code} {T : State} {locs : List Loc} {cells slots k : Nat}
    (X : Stand p l e R s m args below meth c T locs cells slots) (N : Fr k locs) : ∃ locs', Stand p l e R s m args below meth c T locs' cells slots ∧ Fr k locs' := ⟨_, X, N⟩

theorem own_and (x : Int32) : 0 ≤ (x &&& 2147483647).toInt := by
  have := (c_and x 2147483647 (by decide)).1; exact this
theorem own_rem (x d : Int32) (h0 : 0 ≤ x.toInt) (hd : 0 < d.toInt) : (x - (x / d) * d).toInt = x.toInt % d.toInt ∧ 0 ≤ (x - (x / d) * d).toInt ∧ (x - (x / d) * d).toInt < d.toInt := by
  rw [irem_eq_mod]
  have e := (c_irem x d d.toInt rfl).1 h0
  exact ⟨e, by rw [e]; exact Int.emod_nonneg _ (by omega), by rw [e]; exact Int.emod_lt_of_pos _ hd⟩
theorem own_in (j d : Int32) (h1 : 0 ≤ j.toInt) (h2 : j.toInt < d.toInt) : ¬ j < 0 ∧ j < d := by
  constructor
  · rw [Int32.lt_iff_toInt_lt]; simp; omega
  · rw [Int32.lt_iff_toInt_lt]; exact h2
theorem own_getD (L : List Int32) (k : Nat) : (L.map Value.int).getD k (.int 0) = .int (L.getD k 0) := by
  simp only [List.getD, List.getElem?_map]
  cases L[k]? <;> rfl

abbrev own_jv (x : Int64) : Slot := .val (.long x)
/-! references that may be null; what may lie in an Object[] -/
def own_Rf (r : Value) : Prop := r = .null ∨ ∃ a, r = .ref a
theorem own_Rf.isRef {r : Value} (h : own_Rf r) : r.isRef = true := by rcases h with rfl | ⟨a, rfl⟩ <;> rfl
theorem own_Rf.cat {r : Value} (h : own_Rf r) : r.category = 1 := by rcases h with rfl | ⟨a, rfl⟩ <;> rfl
def own_R (Z : State) (h : Heap) (r : Value) : Prop := r = .null ∨ ∃ a, r = .ref a ∧ Exa Z h a "[I"
theorem own_R.rf {Z : State} {h : Heap} {r : Value} (F : own_R Z h r) : own_Rf r := by
  rcases F with rfl | ⟨a, rfl, -⟩
  · exact Or.inl rfl
  · exact Or.inr ⟨a, rfl⟩
theorem own_R.ext {Z : State} {h h' : Heap} {r : Value} (F : own_R Z h r) (E : Ext h h') : own_R Z h' r := F.imp id fun ⟨a, q, X⟩ => ⟨a, q, X.ext E⟩
theorem own_R.wr {Z : State} {h h' : Heap} {r : Value} {b : Addr} {sl : Nat} {v : Value} (F : own_R Z h r) (W : Wr h h' b sl v) : own_R Z h' r := F.imp id fun ⟨a, q, X⟩ => ⟨a, q, X.wr W⟩
theorem own_R.keep {Z : State} {h h' : Heap} {r : Value} {ws : List Addr} (F : own_R Z h r) (K : Keep h h' ws) : own_R Z h' r := F.imp id fun ⟨a, q, X⟩ => ⟨a, q, X.keep K⟩
def own_O (Z : State) (h : Heap) (r : Value) : Prop := r = .null ∨ ∃ a, r = .ref a ∧ Ins Z h a "java/lang/Object" true
theorem own_O.rf {Z : State} {h : Heap} {r : Value} (F : own_O Z h r) : own_Rf r := by
  rcases F with rfl | ⟨a, rfl, -⟩
  · exact Or.inl rfl
  · exact Or.inr ⟨a, rfl⟩
theorem own_O.ext {Z : State} {h h' : Heap} {r : Value} (F : own_O Z h r) (E : Ext h h') : own_O Z h' r := F.imp id fun ⟨a, q, X⟩ => ⟨a, q, X.ext E⟩
theorem own_O.wr {Z : State} {h h' : Heap} {r : Value} {b : Addr} {sl : Nat} {v : Value} (F : own_O Z h r) (W : Wr h h' b sl v) : own_O Z h' r := F.imp id fun ⟨a, q, X⟩ => ⟨a, q, X.wr W⟩
theorem own_R.o {Z : State} {h : Heap} {r : Value} {a0 : Array Value} (F : own_R Z h r) (w : (Cond.castable "[I" "java/lang/Object").before a0 Z = true) : own_O Z h r := F.imp id fun ⟨a, q, X⟩ => ⟨a, q, Ins.of_exa X w⟩
theorem own_O.sto {Z : State} {h : Heap} {r : Value} {b : Addr} {c : Cell} {k : ClassId} {ty : FieldType} (F : own_O Z h r) (A : Arr Z h b c ty) (q : c.cls = k) (O : Ovr Z k "java/lang/Object") : Sto Z h b r := by
  rcases F with rfl | ⟨a, rfl, I⟩
  · exact Or.inl rfl
  · exact Sto.ofV A q O I
theorem own_R.stoA {Z : State} {h : Heap} {r : Value} {b : Addr} {c : Cell} {k : ClassId} {ty : FieldType} (F : own_R Z h r) (A : Arr Z h b c ty) (q : c.cls = k) (O : OvrA Z k .int "[I") : Sto Z h b r := by
  rcases F with rfl | ⟨a, rfl, X⟩
  · exact Or.inl rfl
  · exact Sto.ofVA A q O (Ins.self X)
theorem own_fitsR {r : Value} {C : String} (h : own_Rf r) : fits (.object C) r = true := by rcases h with rfl | ⟨a, rfl⟩ <;> rfl
theorem own_fitsA {r : Value} {t : FieldType} (h : own_Rf r) : fits (.array t) r = true := by rcases h with rfl | ⟨a, rfl⟩ <;> rfl
theorem own_ext_wr {h0 h h' : Heap} {b : Addr} {sl : Nat} {v : Value} (E : Ext h0 h) (W : Wr h h' b sl v) (q : h0.size ≤ b) : Ext h0 h' := by
  refine ⟨Nat.le_trans E.1 (Keep.of_wr W).1, fun x c hc => (Keep.of_wr W).2.1 x c (E.2 x c hc) fun z => ?_⟩
  cases List.mem_singleton.mp z
  exact absurd (Array.getElem?_eq_some_iff.mp hc).1 (Nat.not_lt.mpr q)
theorem own_ext_keep {h0 h h' : Heap} {b : Addr} (E : Ext h0 h) (K : Keep h h' [b]) (q : h0.size ≤ b) : Ext h0 h' := by
  refine ⟨Nat.le_trans E.1 K.1, fun x c hc => K.2.1 x c (E.2 x c hc) fun z => ?_⟩
  cases List.mem_singleton.mp z
  exact absurd (Array.getElem?_eq_some_iff.mp hc).1 (Nat.not_lt.mpr q)
theorem own_ext_trans {h0 h h' : Heap} (E : Ext h0 h) (F : Ext h h') : Ext h0 h' := ⟨Nat.le_trans E.1 F.1, fun x c hc => F.2 x c (E.2 x c hc)⟩
theorem own_ext_refl (h : Heap) : Ext h h := ⟨Nat.le_refl _, fun _ _ q => q⟩
theorem own_keep_ext {h h' : Heap} {ws : List Addr} (E : Ext h h') : Keep h h' ws := (Keep.refl h ws).ext E
theorem own_sta_keep {Z : State} {h h' : Heap} {C n d : String} {v : Value} {ws : List Addr} (F : Sta Z h C n d v) (K : Keep h h' ws) (hw : ∀ x ∈ ws, ∀ cell : Cell, h[x]? = some cell → cell.vm.isStatics = false) : Sta Z h' C n d v := by
  obtain ⟨cf, i, k, f, st, cell, h1, h2, h3, h4, h5, h6, r⟩ := F
  refine ⟨cf, i, k, f, st, cell, h1, h2, h3, h4, K.2.1 st cell h5 (fun z => ?_), h6, r⟩
  have := hw st z cell h5
  rw [h6] at this; cases this
/-- the class has its mirror -/
def own_Mm (Z : State) (C : String) (mr : Addr) : Prop := ∃ (c : ClassId) (k : Class), Z.vm.findClass C = some c ∧ Z.vm.classes[c]? = some k ∧ k.mirror = some mr

/-! byte arrays of which only the length is told -/
def own_Y (Z : State) (h : Heap) (a : Addr) (n : Int32) : Prop := ∃ k vs, Arv Z h a k .byte n vs (.int (0 : Int32)) ∧ vs.length = n.toNatClampNeg
theorem own_Y.lt {Z : State} {h : Heap} {a : Addr} {n : Int32} (F : own_Y Z h a n) : a < h.size := by obtain ⟨k, vs, A, -⟩ := F; exact A.lt
theorem own_Y.ext {Z : State} {h h' : Heap} {a : Addr} {n : Int32} (F : own_Y Z h a n) (E : Ext h h') : own_Y Z h' a n := by obtain ⟨k, vs, A, l⟩ := F; exact ⟨k, vs, A.ext E, l⟩
theorem own_Y.other {Z : State} {h h' : Heap} {a b : Addr} {n : Int32} {sl : Nat} {v : Value} (F : own_Y Z h a n) (W : Wr h h' b sl v) (q : a ≠ b) : own_Y Z h' a n := by obtain ⟨k, vs, A, l⟩ := F; exact ⟨k, vs, A.other W q, l⟩
theorem own_Y.keep {Z : State} {h h' : Heap} {a : Addr} {n : Int32} {ws : List Addr} (F : own_Y Z h a n) (K : Keep h h' ws) (q : a ∉ ws) : own_Y Z h' a n := by obtain ⟨k, vs, A, l⟩ := F; exact ⟨k, vs, A.keep K q, l⟩
theorem own_Y.nn {Z : State} {h : Heap} {a : Addr} {n : Int32} (F : own_Y Z h a n) : 0 ≤ n.toInt := by
  obtain ⟨k, vs, ⟨c, -, -, -, q, -⟩, -⟩ := F
  rw [Int32.lt_iff_toInt_lt] at q; have e0 : (0 : Int32).toInt = 0 := rfl; omega
theorem own_Y.nostat {Z : State} {h : Heap} {a : Addr} {n : Int32} (F : own_Y Z h a n) : ∀ cell : Cell, h[a]? = some cell → cell.vm.isStatics = false := by obtain ⟨k, vs, A, l⟩ := F; exact A.nostat
theorem own_Y.new {Z : State} {h : Heap} {a : Addr} {k : ClassId} {n : Int32} (A : Arr Z h a (newA k .byte n) .byte) (q : ¬ n < 0) : own_Y Z h a n :=
  ⟨k, [] ++ List.replicate n.toNatClampNeg (.int (0 : Int32)), (Arv.new A q).pad (pad_rep [] (.int (0 : Int32)) _), by simp⟩
theorem own_pos {j : Int32} (h : 0 ≤ j.toInt) : ¬ j < 0 := by rw [Int32.lt_iff_toInt_lt]; have e0 : (0 : Int32).toInt = 0 := rfl; omega
theorem own_ncl {j : Int32} (h : 0 ≤ j.toInt) : (j.toNatClampNeg : Int) = j.toInt := (nat_of (own_pos h)).symm
theorem own_add (a b : Int32) (h1 : -2147483648 ≤ a.toInt + b.toInt) (h2 : a.toInt + b.toInt < 2147483648) : (a + b).toInt = a.toInt + b.toInt := by
  have c := c_iadd a b; have r := rng32 (a + b); omega
theorem own_subI (a b : Int32) (h1 : -2147483648 ≤ a.toInt - b.toInt) (h2 : a.toInt - b.toInt < 2147483648) : (a - b).toInt = a.toInt - b.toInt := by
  have c := c_isub a b; have r := rng32 (a - b); omega
section Own
variable {p : Program} {l : Launch} {e : Env} {R : Room} {s : State} {m : MethodId} {args : Array Value} {below : List Frame} {meth : Method} {c : Code} {T : State} {locs : List Loc} {cells slots : Nat} {Z : State} {a0 : Array Value} {h : Heap}
theorem own_alen (X : Stand p l e R s m args below meth c T locs cells slots) (hx : p.tables.exec = Jvm.exec) (hZ : Z.Warmed39 s.vm) (eT : T.heap = h) {a : Addr} {n : Int32} (Y : own_Y Z h a n) {g : JFrame} (hg : g.method = m) {rest : List Value} (hs : g.stack = .ref a :: rest) (hd : decode c.code g.pc = .ok (.arraylength, 1)) :
    ∀ target, Steps p.tables e below (T.setTop { g with pc := g.pc + 1, stack := .int n :: rest }) target → Steps p.tables e below (T.setTop g) target := by
  obtain ⟨k, vs, ⟨cl, A, -, S, N, -, -⟩, -⟩ := Y
  have q := X.arraylength hx (by rw [eT]; exact A.1) (State.isArrayOf_alike hZ.alike A.2.1) hg hs hd
  rw [len_of S N] at q
  exact q
theorem own_stB (X : Stand p l e R s m args below meth c T locs cells slots) (hx : p.tables.exec = Jvm.exec) (hZ : Z.Warmed39 s.vm) (eT : T.heap = h) {a : Addr} {n : Int32} (Y : own_Y Z h a n) {j x : Int32} (hj : ¬ j < 0 ∧ j < n) {n0 : Nat} (N : Fr n0 locs) (ga : n0 ≤ a) {g : JFrame} (hg : g.method = m) {rest : List Value} (hs : g.stack = .int x :: .int j :: .ref a :: rest) (hd : decode c.code g.pc = .ok (.bastore, 1)) :
    ∃ T' h' lc, Stand p l e R s m args below meth c T' lc cells slots ∧ T'.heap = h' ∧ Fr n0 lc ∧ (∃ sl v, Wr h h' a sl v) ∧ own_Y Z h' a n ∧ ∀ target, Steps p.tables e below (T'.setTop { g with pc := g.pc + 1, stack := rest }) target → Steps p.tables e below (T.setTop g) target := by
  obtain ⟨k, vs, ⟨cl, A, qk, S, Nn, H, G⟩, hl⟩ := Y
  have hin := inb_of S hj
  obtain ⟨T', h', X', e', W, st⟩ := stB X hx hZ eT A (j := j) hin hg hs hd
  have hlt : j.toNatClampNeg < vs.length := by
    rw [hl, ← S]; exact Nat.lt_of_not_le fun q => hin (Or.inr q)
  have V := Arv.set A qk S Nn H G (fits_nar_byte _) W j.toNatClampNeg rfl hlt
  exact ⟨T', h', _, X', e', Fr.snoc X' N ga, ⟨_, _, W⟩, ⟨k, _, V, by simp [hl]⟩, st⟩
theorem own_cp (X : Stand p l e R s m args below meth c T locs cells slots) (hx : p.tables.exec = Jvm.exec) (hZ : Z.Warmed39 s.vm) {own : String} {index : Nat} (hown : s.vm.findClass own = some m.cls)
    (w1 : (Cond.methodLink own index Jvm.Stand.acN).before a0 Z = true) (w2 : (Cond.native Jvm.Stand.acN).before a0 Z = true) (w3 : (Cond.static Jvm.Stand.acN).before a0 Z = true) (w4 : (Cond.initialized "java/lang/System").before a0 Z = true) (eT : T.heap = h)
    {a b : Addr} {z z' sp dp nn : Int32} (A : own_Y Z h a z) (B : own_Y Z h b z') (h1 : 0 ≤ sp.toInt) (h2 : 0 ≤ dp.toInt) (h3 : 0 ≤ nn.toInt) (h4 : sp.toInt + nn.toInt ≤ z.toInt) (h5 : dp.toInt + nn.toInt ≤ z'.toInt) {n0 : Nat} (N : Fr n0 locs) (ge : n0 ≤ b)
    {g : JFrame} (hg : g.method = m) (hsize : g.locals.size = c.maxLocals) {rest : List Value} (hs : g.stack = .int nn :: .int dp :: .ref b :: .int sp :: .ref a :: rest) (hd : decode c.code g.pc = .ok (.invokestatic index, 3))
    (hf : 1 ≤ R.frames) {W : Nat} (hW : 2 * g.monitorRoom + (rest.map fun v => v.category).sum ≤ W) (hlo : W + (nativeFrameWords "java/lang/System" "arraycopy" 5 + 11) ≤ R.locals) :
    ∃ T' h' L, Stand p l e R s m args below meth c T' L cells slots ∧ T'.heap = h' ∧ Fr n0 L ∧ Keep h h' [b] ∧ own_Y Z h' b z' ∧ ∀ target, Steps p.tables e below (T'.setTop { g with pc := g.pc + 3, stack := rest }) target → Steps p.tables e below (T.setTop g) target := by
  have hz := A.nn; have hz' := B.nn
  obtain ⟨k, vs, VA, la⟩ := A
  obtain ⟨k', vd, VB, lb⟩ := B
  have e1 := own_ncl h1; have e2 := own_ncl h2; have e3 := own_ncl h3; have e4 := own_ncl hz; have e5 := own_ncl hz'
  obtain ⟨T', h', L, X', e', N', K, V, st⟩ := cpA X hx hZ hown w1 w2 w3 w4 eT VA VB (Or.inl ⟨rfl, rfl⟩) (own_pos h1) (own_pos h2) (own_pos h3) (by omega) (by omega) rfl (by omega) N ge hg hsize hs hd hf hW hlo
  exact ⟨T', h', L, X', e', N', K, ⟨k', _, V, by simp; omega⟩, st⟩
end Own

theorem d3_0 : decode jdk_29_method_65_code 0 = .ok (.iload_n 0, 1) := by decide +kernel
theorem d3_1 : decode jdk_29_method_65_code 1 = .ok (.iload_n 1, 1) := by decide +kernel
theorem d3_2 : decode jdk_29_method_65_code 2 = .ok (.if_icmp .lt 7, 3) := by decide +kernel
theorem d3_5 : decode jdk_29_method_65_code 5 = .ok (.iload_n 0, 1) := by decide +kernel
theorem d3_6 : decode jdk_29_method_65_code 6 = .ok (.goto 4, 3) := by decide +kernel
theorem d3_9 : decode jdk_29_method_65_code 9 = .ok (.iload_n 1, 1) := by decide +kernel
theorem d3_10 : decode jdk_29_method_65_code 10 = .ok (.ireturn, 1) := by decide +kernel
theorem own_ef3 (m : MethodId) (x0 : Int32) (x1 : Int32) : entryFrame m #[(.int x0), (.int x1)] 2 = mkF m 0 #[iv x0, iv x1] [] := by first | (simp [entryFrame, mkF, argsToLocals, Value.category]; done) | rfl
def own_f3_10 (v0 : Int32) (v1 : Int32) (t0 : Int32) : Int32 := t0
def own_f3_0 (p1 : Int32) (p2 : Int32) : Int32 := (if p1 < p2 then own_f3_10 p1 p2 p2 else own_f3_10 p1 p2 p1)
def Q3 (Z : State) (p1 : Int32) (p2 : Int32) (h0 : Heap) (n0 : Nat) (v : Option Value) (h : Heap) (L : List Loc) : Prop := v = some (.int (own_f3_0 p1 p2)) ∧ Fr n0 L ∧ h = h0
set_option maxRecDepth 65536 in
set_option maxHeartbeats 40000000 in
theorem rm3 (l : Launch) (Z : State) (a0 : Array Value) (hw : ∀ d ∈ tables_1, d.before a0 Z = true) (ws : List Jvm.Cond) (p1 : Int32) (p2 : Int32) (h0 : Heap) (n0 : Nat) (Z0 : n0 ≤ h0.size)  :
    MetFree l (⟨"java/lang/Math", "max", "(II)I"⟩ : MethodName) (head1 (Jvm.Cond.code (⟨"java/lang/Math", "max", "(II)I"⟩ : MethodName) jdk_29_method_65_code 2 (some .int) :: ws) ({ frames := 0, cells := 0, slots := 0, locals := 0 } : Room)) (fun a U => a = #[(.int p1), (.int p2)] ∧ Z.Warmed39 U.vm ∧ U.heap = h0) (fun _ _ _ _ _ => True) (fun _ U o U' => ∃ v L, o = .returned v ∧ Q3 Z p1 p2 h0 n0 v U'.heap L ∧ FrameEnd U o U' L ({ frames := 0, cells := 0, slots := 0, locals := 0 } : Room).cells ({ frames := 0, cells := 0, slots := 0, locals := 0 } : Room).slots) := by
  refine MetFree.of_bodySF (Jvm.Free.JP.mathPlain rfl (by decide +kernel)) hisR ?_
  intro p e s m args below meth c s₁ Bd hml0 hP hK
  obtain ⟨rfl, hZ, hh⟩ := hP
  have hx := Bd.exec
  have hby := Bd.bytes
  have hml : c.maxLocals = 2 := hml0
  have hown : s.vm.findClass "java/lang/Math" = some m.cls := findClass_of_methodNamed Bd.named
  have hnm := (name_of_methodNamed Bd.named Bd.method).1
  have hlk := Bd.notSynchronized
  have X0 : Stand p l e ({ frames := 0, cells := 0, slots := 0, locals := 0 } : Room) s m #[(.int p1), (.int p2)] below meth c s₁ [] 0 0 := Stand.of_body Bd
  have e0 : s₁.heap = h0 := by rw [← hh, Bd.state]; rfl
  have N0 := Fr.nil n0
  show own_Goes p e below (fun o U' => ∃ v L, o = .returned v ∧ Q3 Z p1 p2 h0 n0 v U'.heap L ∧ FrameEnd s o U' L ({ frames := 0, cells := 0, slots := 0, locals := 0 } : Room).cells ({ frames := 0, cells := 0, slots := 0, locals := 0 } : Room).slots) s₁ (entryFrame m #[(.int p1), (.int p2)] 2)
  refine own_st (T' := s₁) (g' := mkF m 0 #[iv p1, iv p2] []) (fun _ k => castTop (own_ef3 m p1 p2) k) ?_
  have b10 : ∀ (T : State) (Lc : List Loc) (X : Stand p l e ({ frames := 0, cells := 0, slots := 0, locals := 0 } : Room) s m #[(.int p1), (.int p2)] below meth c T Lc 0 0) (eT : T.heap = h0) (NL : Fr n0 Lc) (v0 : Int32) (v1 : Int32) (t0 : Int32), own_f3_0 p1 p2 = own_f3_10 v0 v1 t0 → own_Goes p e below (fun o U' => ∃ v L, o = .returned v ∧ Q3 Z p1 p2 h0 n0 v U'.heap L ∧ FrameEnd s o U' L ({ frames := 0, cells := 0, slots := 0, locals := 0 } : Room).cells ({ frames := 0, cells := 0, slots := 0, locals := 0 } : Room).slots) T (mkF m 10 #[iv v0, iv v1] [(.int t0)]) := by
    intro T Lc X eT NL v0 v1 t0 hf
    exact own_end (Q := Q3 Z p1 p2 h0 n0) (v := some (.int t0)) X (fun h => by rw [Bd.returns] at h; cases h) (fun fs hr => retI X hx Bd.returns (hb hby d3_10) hr) (⟨congrArg (fun z => some (Value.int z)) hf.symm, NL, eT⟩) (by decide) (by decide)
  have hf : own_f3_0 p1 p2 = own_f3_0 p1 p2 := rfl
  refine own_st (T' := s₁) (g' := (mkF m 1 #[iv p1, iv p2] [(.int p1)])) (fun _ k => XS.iloadN X0.here hx rfl (hb hby d3_0) rfl k) ?_
  refine own_st (T' := s₁) (g' := (mkF m 2 #[iv p1, iv p2] [(.int p2), (.int p1)])) (fun _ k => XS.iloadN X0.here hx rfl (hb hby d3_1) rfl k) ?_
  by_cases hc2 : p1 < p2
  · have hf := hf.trans (if_pos hc2)
    refine own_st (T' := s₁) (g' := (mkF m 9 #[iv p1, iv p2] [])) (fun _ k => XS.icmpYes X0.here hx rfl (pc0 := 2) (pc' := 9) rfl (hb hby d3_2) rfl (tlt hc2).1 (by decide) (by decide) k) ?_
    refine own_st (T' := s₁) (g' := (mkF m 10 #[iv p1, iv p2] [(.int p2)])) (fun _ k => XS.iloadN X0.here hx rfl (hb hby d3_9) rfl k) ?_
    exact b10 s₁ _ X0 e0 N0  p1 p2 p2 hf
  · have hf := hf.trans (if_neg hc2)
    refine own_st (T' := s₁) (g' := (mkF m 5 #[iv p1, iv p2] [])) (fun _ k => XS.icmpNo X0.here hx rfl (hb hby d3_2) rfl (flt hc2).1 k) ?_
    refine own_st (T' := s₁) (g' := (mkF m 6 #[iv p1, iv p2] [(.int p1)])) (fun _ k => XS.iloadN X0.here hx rfl (hb hby d3_5) rfl k) ?_
    refine own_st (T' := s₁) (g' := (mkF m 10 #[iv p1, iv p2] [(.int p1)])) (fun _ k => XS.goto X0.here hx rfl (pc0 := 6) (pc' := 10) rfl (hb hby d3_6) (by decide) (by decide) k) ?_
    exact b10 s₁ _ X0 e0 N0  p1 p2 p1 hf
theorem d19_0 : decode jdk_29_method_69_code 0 = .ok (.iload_n 0, 1) := by decide +kernel
theorem d19_1 : decode jdk_29_method_69_code 1 = .ok (.iload_n 1, 1) := by decide +kernel
theorem d19_2 : decode jdk_29_method_69_code 2 = .ok (.if_icmp .gt 7, 3) := by decide +kernel
theorem d19_5 : decode jdk_29_method_69_code 5 = .ok (.iload_n 0, 1) := by decide +kernel
theorem d19_6 : decode jdk_29_method_69_code 6 = .ok (.goto 4, 3) := by decide +kernel
theorem d19_9 : decode jdk_29_method_69_code 9 = .ok (.iload_n 1, 1) := by decide +kernel
theorem d19_10 : decode jdk_29_method_69_code 10 = .ok (.ireturn, 1) := by decide +kernel
theorem own_ef19 (m : MethodId) (x0 : Int32) (x1 : Int32) : entryFrame m #[(.int x0), (.int x1)] 2 = mkF m 0 #[iv x0, iv x1] [] := by first | (simp [entryFrame, mkF, argsToLocals, Value.category]; done) | rfl
def own_f19_10 (v0 : Int32) (v1 : Int32) (t0 : Int32) : Int32 := t0
def own_f19_0 (p1 : Int32) (p2 : Int32) : Int32 := (if p2 < p1 then own_f19_10 p1 p2 p2 else own_f19_10 p1 p2 p1)
def Q19 (Z : State) (p1 : Int32) (p2 : Int32) (h0 : Heap) (n0 : Nat) (v : Option Value) (h : Heap) (L : List Loc) : Prop := v = some (.int (own_f19_0 p1 p2)) ∧ Fr n0 L ∧ h = h0
set_option maxRecDepth 65536 in
set_option maxHeartbeats 40000000 in
theorem rm19 (l : Launch) (Z : State) (a0 : Array Value) (hw : ∀ d ∈ tables_1, d.before a0 Z = true) (ws : List Jvm.Cond) (p1 : Int32) (p2 : Int32) (h0 : Heap) (n0 : Nat) (Z0 : n0 ≤ h0.size)  :
    MetFree l (⟨"java/lang/Math", "min", "(II)I"⟩ : MethodName) (head1 (Jvm.Cond.code (⟨"java/lang/Math", "min", "(II)I"⟩ : MethodName) jdk_29_method_69_code 2 (some .int) :: ws) ({ frames := 0, cells := 0, slots := 0, locals := 0 } : Room)) (fun a U => a = #[(.int p1), (.int p2)] ∧ Z.Warmed39 U.vm ∧ U.heap = h0) (fun _ _ _ _ _ => True) (fun _ U o U' => ∃ v L, o = .returned v ∧ Q19 Z p1 p2 h0 n0 v U'.heap L ∧ FrameEnd U o U' L ({ frames := 0, cells := 0, slots := 0, locals := 0 } : Room).cells ({ frames := 0, cells := 0, slots := 0, locals := 0 } : Room).slots) := by
  refine MetFree.of_bodySF (Jvm.Free.JP.mathPlain rfl (by decide +kernel)) hisR ?_
  intro p e s m args below meth c s₁ Bd hml0 hP hK
  obtain ⟨rfl, hZ, hh⟩ := hP
  have hx := Bd.exec
  have hby := Bd.bytes
  have hml : c.maxLocals = 2 := hml0
  have hown : s.vm.findClass "java/lang/Math" = some m.cls := findClass_of_methodNamed Bd.named
  have hnm := (name_of_methodNamed Bd.named Bd.method).1
  have hlk := Bd.notSynchronized
  have X0 : Stand p l e ({ frames := 0, cells := 0, slots := 0, locals := 0 } : Room) s m #[(.int p1), (.int p2)] below meth c s₁ [] 0 0 := Stand.of_body Bd
  have e0 : s₁.heap = h0 := by rw [← hh, Bd.state]; rfl
  have N0 := Fr.nil n0
  show own_Goes p e below (fun o U' => ∃ v L, o = .returned v ∧ Q19 Z p1 p2 h0 n0 v U'.heap L ∧ FrameEnd s o U' L ({ frames := 0, cells := 0, slots := 0, locals := 0 } : Room).cells ({ frames := 0, cells := 0, slots := 0, locals := 0 } : Room).slots) s₁ (entryFrame m #[(.int p1), (.int p2)] 2)
  refine own_st (T' := s₁) (g' := mkF m 0 #[iv p1, iv p2] []) (fun _ k => castTop (own_ef19 m p1 p2) k) ?_
  have b10 : ∀ (T : State) (Lc : List Loc) (X : Stand p l e ({ frames := 0, cells := 0, slots := 0, locals := 0 } : Room) s m #[(.int p1), (.int p2)] below meth c T Lc 0 0) (eT : T.heap = h0) (NL : Fr n0 Lc) (v0 : Int32) (v1 : Int32) (t0 : Int32), own_f19_0 p1 p2 = own_f19_10 v0 v1 t0 → own_Goes p e below (fun o U' => ∃ v L, o = .returned v ∧ Q19 Z p1 p2 h0 n0 v U'.heap L ∧ FrameEnd s o U' L ({ frames := 0, cells := 0, slots := 0, locals := 0 } : Room).cells ({ frames := 0, cells := 0, slots := 0, locals := 0 } : Room).slots) T (mkF m 10 #[iv v0, iv v1] [(.int t0)]) := by
    intro T Lc X eT NL v0 v1 t0 hf
    exact own_end (Q := Q19 Z p1 p2 h0 n0) (v := some (.int t0)) X (fun h => by rw [Bd.returns] at h; cases h) (fun fs hr => retI X hx Bd.returns (hb hby d19_10) hr) (⟨congrArg (fun z => some (Value.int z)) hf.symm, NL, eT⟩) (by decide) (by decide)
  have hf : own_f19_0 p1 p2 = own_f19_0 p1 p2 := rfl
  refine own_st (T' := s₁) (g' := (mkF m 1 #[iv p1, iv p2] [(.int p1)])) (fun _ k => XS.iloadN X0.here hx rfl (hb hby d19_0) rfl k) ?_
  refine own_st (T' := s₁) (g' := (mkF m 2 #[iv p1, iv p2] [(.int p2), (.int p1)])) (fun _ k => XS.iloadN X0.here hx rfl (hb hby d19_1) rfl k) ?_
  by_cases hc2 : p2 < p1
  · have hf := hf.trans (if_pos hc2)
    refine own_st (T' := s₁) (g' := (mkF m 9 #[iv p1, iv p2] [])) (fun _ k => XS.icmpYes X0.here hx rfl (pc0 := 2) (pc' := 9) rfl (hb hby d19_2) rfl (tlt hc2).2.2.1 (by decide) (by decide) k) ?_
    refine own_st (T' := s₁) (g' := (mkF m 10 #[iv p1, iv p2] [(.int p2)])) (fun _ k => XS.iloadN X0.here hx rfl (hb hby d19_9) rfl k) ?_
    exact b10 s₁ _ X0 e0 N0  p1 p2 p2 hf
  · have hf := hf.trans (if_neg hc2)
    refine own_st (T' := s₁) (g' := (mkF m 5 #[iv p1, iv p2] [])) (fun _ k => XS.icmpNo X0.here hx rfl (hb hby d19_2) rfl (flt hc2).2.2.1 k) ?_
    refine own_st (T' := s₁) (g' := (mkF m 6 #[iv p1, iv p2] [(.int p1)])) (fun _ k => XS.iloadN X0.here hx rfl (hb hby d19_5) rfl k) ?_
    refine own_st (T' := s₁) (g' := (mkF m 10 #[iv p1, iv p2] [(.int p1)])) (fun _ k => XS.goto X0.here hx rfl (pc0 := 6) (pc' := 10) rfl (hb hby d19_6) (by decide) (by decide) k) ?_
    exact b10 s₁ _ X0 e0 N0  p1 p2 p1 hf
theorem d16_0 : decode jdk_29_method_70_code 0 = .ok (.lload_n 0, 1) := by decide +kernel
theorem d16_1 : decode jdk_29_method_70_code 1 = .ok (.lload_n 2, 1) := by decide +kernel
theorem d16_2 : decode jdk_29_method_70_code 2 = .ok (.lcmp, 1) := by decide +kernel
theorem d16_3 : decode jdk_29_method_70_code 3 = .ok (.ifCond .gt 7, 3) := by decide +kernel
theorem d16_6 : decode jdk_29_method_70_code 6 = .ok (.lload_n 0, 1) := by decide +kernel
theorem d16_7 : decode jdk_29_method_70_code 7 = .ok (.goto 4, 3) := by decide +kernel
theorem d16_10 : decode jdk_29_method_70_code 10 = .ok (.lload_n 2, 1) := by decide +kernel
theorem d16_11 : decode jdk_29_method_70_code 11 = .ok (.lreturn, 1) := by decide +kernel
theorem own_ef16 (m : MethodId) (x0 : Int64) (x1 : Int64) : entryFrame m #[(.long x0), (.long x1)] 4 = mkF m 0 #[own_jv x0, .second, own_jv x1, .second] [] := by first | (simp [entryFrame, mkF, argsToLocals, Value.category]; done) | rfl
def own_f16_11 (v0 : Int64) (v2 : Int64) (t0 : Int64) : Int64 := t0
def own_f16_0 (p1 : Int64) (p2 : Int64) : Int64 := (if (0 : Int32) < (lcmpW p1 p2) then own_f16_11 p1 p2 p2 else own_f16_11 p1 p2 p1)
def Q16 (Z : State) (p1 : Int64) (p2 : Int64) (h0 : Heap) (n0 : Nat) (v : Option Value) (h : Heap) (L : List Loc) : Prop := v = some (.long (own_f16_0 p1 p2)) ∧ Fr n0 L ∧ h = h0
set_option maxRecDepth 65536 in
set_option maxHeartbeats 40000000 in
theorem rm16 (l : Launch) (Z : State) (a0 : Array Value) (hw : ∀ d ∈ tables_1, d.before a0 Z = true) (ws : List Jvm.Cond) (p1 : Int64) (p2 : Int64) (h0 : Heap) (n0 : Nat) (Z0 : n0 ≤ h0.size)  :
    MetFree l (⟨"java/lang/Math", "min", "(JJ)J"⟩ : MethodName) (head1 (Jvm.Cond.code (⟨"java/lang/Math", "min", "(JJ)J"⟩ : MethodName) jdk_29_method_70_code 4 (some .long) :: ws) ({ frames := 0, cells := 0, slots := 0, locals := 0 } : Room)) (fun a U => a = #[(.long p1), (.long p2)] ∧ Z.Warmed39 U.vm ∧ U.heap = h0) (fun _ _ _ _ _ => True) (fun _ U o U' => ∃ v L, o = .returned v ∧ Q16 Z p1 p2 h0 n0 v U'.heap L ∧ FrameEnd U o U' L ({ frames := 0, cells := 0, slots := 0, locals := 0 } : Room).cells ({ frames := 0, cells := 0, slots := 0, locals := 0 } : Room).slots) := by
  refine MetFree.of_bodySF (Jvm.Free.JP.mathPlain rfl (by decide +kernel)) hisR ?_
  intro p e s m args below meth c s₁ Bd hml0 hP hK
  obtain ⟨rfl, hZ, hh⟩ := hP
  have hx := Bd.exec
  have hby := Bd.bytes
  have hml : c.maxLocals = 4 := hml0
  have hown : s.vm.findClass "java/lang/Math" = some m.cls := findClass_of_methodNamed Bd.named
  have hnm := (name_of_methodNamed Bd.named Bd.method).1
  have hlk := Bd.notSynchronized
  have X0 : Stand p l e ({ frames := 0, cells := 0, slots := 0, locals := 0 } : Room) s m #[(.long p1), (.long p2)] below meth c s₁ [] 0 0 := Stand.of_body Bd
  have e0 : s₁.heap = h0 := by rw [← hh, Bd.state]; rfl
  have N0 := Fr.nil n0
  show own_Goes p e below (fun o U' => ∃ v L, o = .returned v ∧ Q16 Z p1 p2 h0 n0 v U'.heap L ∧ FrameEnd s o U' L ({ frames := 0, cells := 0, slots := 0, locals := 0 } : Room).cells ({ frames := 0, cells := 0, slots := 0, locals := 0 } : Room).slots) s₁ (entryFrame m #[(.long p1), (.long p2)] 4)
  refine own_st (T' := s₁) (g' := mkF m 0 #[own_jv p1, .second, own_jv p2, .second] []) (fun _ k => castTop (own_ef16 m p1 p2) k) ?_
  have b11 : ∀ (T : State) (Lc : List Loc) (X : Stand p l e ({ frames := 0, cells := 0, slots := 0, locals := 0 } : Room) s m #[(.long p1), (.long p2)] below meth c T Lc 0 0) (eT : T.heap = h0) (NL : Fr n0 Lc) (v0 : Int64) (v2 : Int64) (t0 : Int64), own_f16_0 p1 p2 = own_f16_11 v0 v2 t0 → own_Goes p e below (fun o U' => ∃ v L, o = .returned v ∧ Q16 Z p1 p2 h0 n0 v U'.heap L ∧ FrameEnd s o U' L ({ frames := 0, cells := 0, slots := 0, locals := 0 } : Room).cells ({ frames := 0, cells := 0, slots := 0, locals := 0 } : Room).slots) T (mkF m 11 #[own_jv v0, .second, own_jv v2, .second] [(.long t0)]) := by
    intro T Lc X eT NL v0 v2 t0 hf
    exact own_end (Q := Q16 Z p1 p2 h0 n0) (v := some (.long t0)) X (fun h => by rw [Bd.returns] at h; cases h) (fun fs hr => X.lreturnOut hx Bd.returns (hb hby d16_11) hr) (⟨congrArg (fun z => some (Value.long z)) hf.symm, NL, eT⟩) (by decide) (by decide)
  have hf : own_f16_0 p1 p2 = own_f16_0 p1 p2 := rfl
  refine own_st (T' := s₁) (g' := (mkF m 1 #[own_jv p1, .second, own_jv p2, .second] [(.long p1)])) (fun _ k => XS.lloadN X0.here hx rfl (hb hby d16_0) rfl k) ?_
  refine own_st (T' := s₁) (g' := (mkF m 2 #[own_jv p1, .second, own_jv p2, .second] [(.long p2), (.long p1)])) (fun _ k => XS.lloadN X0.here hx rfl (hb hby d16_1) rfl k) ?_
  refine own_st (T' := s₁) (g' := (mkF m 3 #[own_jv p1, .second, own_jv p2, .second] [(.int (lcmpW p1 p2))])) (fun _ k => XS.lcmp X0.here hx rfl (hb hby d16_2) rfl k) ?_
  by_cases hc3 : (0 : Int32) < (lcmpW p1 p2)
  · have hf := hf.trans (if_pos hc3)
    refine own_st (T' := s₁) (g' := (mkF m 10 #[own_jv p1, .second, own_jv p2, .second] [])) (fun _ k => XS.ifYes X0.here hx rfl (pc0 := 3) (pc' := 10) rfl (hb hby d16_3) rfl ((if0 _ _).trans (tlt hc3).2.2.1) (by decide) (by decide) k) ?_
    refine own_st (T' := s₁) (g' := (mkF m 11 #[own_jv p1, .second, own_jv p2, .second] [(.long p2)])) (fun _ k => XS.lloadN X0.here hx rfl (hb hby d16_10) rfl k) ?_
    exact b11 s₁ _ X0 e0 N0  p1 p2 p2 hf
  · have hf := hf.trans (if_neg hc3)
    refine own_st (T' := s₁) (g' := (mkF m 6 #[own_jv p1, .second, own_jv p2, .second] [])) (fun _ k => XS.ifNo X0.here hx rfl (hb hby d16_3) rfl ((if0 _ _).trans (flt hc3).2.2.1) k) ?_
    refine own_st (T' := s₁) (g' := (mkF m 7 #[own_jv p1, .second, own_jv p2, .second] [(.long p1)])) (fun _ k => XS.lloadN X0.here hx rfl (hb hby d16_6) rfl k) ?_
    refine own_st (T' := s₁) (g' := (mkF m 11 #[own_jv p1, .second, own_jv p2, .second] [(.long p1)])) (fun _ k => XS.goto X0.here hx rfl (pc0 := 7) (pc' := 11) rfl (hb hby d16_7) (by decide) (by decide) k) ?_
    exact b11 s₁ _ X0 e0 N0  p1 p2 p1 hf
theorem d17_0 : decode jdk_29_method_66_code 0 = .ok (.lload_n 0, 1) := by decide +kernel
theorem d17_1 : decode jdk_29_method_66_code 1 = .ok (.lload_n 2, 1) := by decide +kernel
theorem d17_2 : decode jdk_29_method_66_code 2 = .ok (.lcmp, 1) := by decide +kernel
theorem d17_3 : decode jdk_29_method_66_code 3 = .ok (.ifCond .lt 7, 3) := by decide +kernel
theorem d17_6 : decode jdk_29_method_66_code 6 = .ok (.lload_n 0, 1) := by decide +kernel
theorem d17_7 : decode jdk_29_method_66_code 7 = .ok (.goto 4, 3) := by decide +kernel
theorem d17_10 : decode jdk_29_method_66_code 10 = .ok (.lload_n 2, 1) := by decide +kernel
theorem d17_11 : decode jdk_29_method_66_code 11 = .ok (.lreturn, 1) := by decide +kernel
theorem own_ef17 (m : MethodId) (x0 : Int64) (x1 : Int64) : entryFrame m #[(.long x0), (.long x1)] 4 = mkF m 0 #[own_jv x0, .second, own_jv x1, .second] [] := by first | (simp [entryFrame, mkF, argsToLocals, Value.category]; done) | rfl
def own_f17_11 (v0 : Int64) (v2 : Int64) (t0 : Int64) : Int64 := t0
def own_f17_0 (p1 : Int64) (p2 : Int64) : Int64 := (if (lcmpW p1 p2) < (0 : Int32) then own_f17_11 p1 p2 p2 else own_f17_11 p1 p2 p1)
def Q17 (Z : State) (p1 : Int64) (p2 : Int64) (h0 : Heap) (n0 : Nat) (v : Option Value) (h : Heap) (L : List Loc) : Prop := v = some (.long (own_f17_0 p1 p2)) ∧ Fr n0 L ∧ h = h0
set_option maxRecDepth 65536 in
set_option maxHeartbeats 40000000 in
theorem rm17 (l : Launch) (Z : State) (a0 : Array Value) (hw : ∀ d ∈ tables_1, d.before a0 Z = true) (ws : List Jvm.Cond) (p1 : Int64) (p2 : Int64) (h0 : Heap) (n0 : Nat) (Z0 : n0 ≤ h0.size)  :
    MetFree l (⟨"java/lang/Math", "max", "(JJ)J"⟩ : MethodName) (head1 (Jvm.Cond.code (⟨"java/lang/Math", "max", "(JJ)J"⟩ : MethodName) jdk_29_method_66_code 4 (some .long) :: ws) ({ frames := 0, cells := 0, slots := 0, locals := 0 } : Room)) (fun a U => a = #[(.long p1), (.long p2)] ∧ Z.Warmed39 U.vm ∧ U.heap = h0) (fun _ _ _ _ _ => True) (fun _ U o U' => ∃ v L, o = .returned v ∧ Q17 Z p1 p2 h0 n0 v U'.heap L ∧ FrameEnd U o U' L ({ frames := 0, cells := 0, slots := 0, locals := 0 } : Room).cells ({ frames := 0, cells := 0, slots := 0, locals := 0 } : Room).slots) := by
  refine MetFree.of_bodySF (Jvm.Free.JP.mathPlain rfl (by decide +kernel)) hisR ?_
  intro p e s m args below meth c s₁ Bd hml0 hP hK
  obtain ⟨rfl, hZ, hh⟩ := hP
  have hx := Bd.exec
  have hby := Bd.bytes
  have hml : c.maxLocals = 4 := hml0
  have hown : s.vm.findClass "java/lang/Math" = some m.cls := findClass_of_methodNamed Bd.named
  have hnm := (name_of_methodNamed Bd.named Bd.method).1
  have hlk := Bd.notSynchronized
  have X0 : Stand p l e ({ frames := 0, cells := 0, slots := 0, locals := 0 } : Room) s m #[(.long p1), (.long p2)] below meth c s₁ [] 0 0 := Stand.of_body Bd
  have e0 : s₁.heap = h0 := by rw [← hh, Bd.state]; rfl
  have N0 := Fr.nil n0
  show own_Goes p e below (fun o U' => ∃ v L, o = .returned v ∧ Q17 Z p1 p2 h0 n0 v U'.heap L ∧ FrameEnd s o U' L ({ frames := 0, cells := 0, slots := 0, locals := 0 } : Room).cells ({ frames := 0, cells := 0, slots := 0, locals := 0 } : Room).slots) s₁ (entryFrame m #[(.long p1), (.long p2)] 4)
  refine own_st (T' := s₁) (g' := mkF m 0 #[own_jv p1, .second, own_jv p2, .second] []) (fun _ k => castTop (own_ef17 m p1 p2) k) ?_
  have b11 : ∀ (T : State) (Lc : List Loc) (X : Stand p l e ({ frames := 0, cells := 0, slots := 0, locals := 0 } : Room) s m #[(.long p1), (.long p2)] below meth c T Lc 0 0) (eT : T.heap = h0) (NL : Fr n0 Lc) (v0 : Int64) (v2 : Int64) (t0 : Int64), own_f17_0 p1 p2 = own_f17_11 v0 v2 t0 → own_Goes p e below (fun o U' => ∃ v L, o = .returned v ∧ Q17 Z p1 p2 h0 n0 v U'.heap L ∧ FrameEnd s o U' L ({ frames := 0, cells := 0, slots := 0, locals := 0 } : Room).cells ({ frames := 0, cells := 0, slots := 0, locals := 0 } : Room).slots) T (mkF m 11 #[own_jv v0, .second, own_jv v2, .second] [(.long t0)]) := by
    intro T Lc X eT NL v0 v2 t0 hf
    exact own_end (Q := Q17 Z p1 p2 h0 n0) (v := some (.long t0)) X (fun h => by rw [Bd.returns] at h; cases h) (fun fs hr => X.lreturnOut hx Bd.returns (hb hby d17_11) hr) (⟨congrArg (fun z => some (Value.long z)) hf.symm, NL, eT⟩) (by decide) (by decide)
  have hf : own_f17_0 p1 p2 = own_f17_0 p1 p2 := rfl
  refine own_st (T' := s₁) (g' := (mkF m 1 #[own_jv p1, .second, own_jv p2, .second] [(.long p1)])) (fun _ k => XS.lloadN X0.here hx rfl (hb hby d17_0) rfl k) ?_
  refine own_st (T' := s₁) (g' := (mkF m 2 #[own_jv p1, .second, own_jv p2, .second] [(.long p2), (.long p1)])) (fun _ k => XS.lloadN X0.here hx rfl (hb hby d17_1) rfl k) ?_
  refine own_st (T' := s₁) (g' := (mkF m 3 #[own_jv p1, .second, own_jv p2, .second] [(.int (lcmpW p1 p2))])) (fun _ k => XS.lcmp X0.here hx rfl (hb hby d17_2) rfl k) ?_
  by_cases hc3 : (lcmpW p1 p2) < (0 : Int32)
  · have hf := hf.trans (if_pos hc3)
    refine own_st (T' := s₁) (g' := (mkF m 10 #[own_jv p1, .second, own_jv p2, .second] [])) (fun _ k => XS.ifYes X0.here hx rfl (pc0 := 3) (pc' := 10) rfl (hb hby d17_3) rfl ((if0 _ _).trans (tlt hc3).1) (by decide) (by decide) k) ?_
    refine own_st (T' := s₁) (g' := (mkF m 11 #[own_jv p1, .second, own_jv p2, .second] [(.long p2)])) (fun _ k => XS.lloadN X0.here hx rfl (hb hby d17_10) rfl k) ?_
    exact b11 s₁ _ X0 e0 N0  p1 p2 p2 hf
  · have hf := hf.trans (if_neg hc3)
    refine own_st (T' := s₁) (g' := (mkF m 6 #[own_jv p1, .second, own_jv p2, .second] [])) (fun _ k => XS.ifNo X0.here hx rfl (hb hby d17_3) rfl ((if0 _ _).trans (flt hc3).1) k) ?_
    refine own_st (T' := s₁) (g' := (mkF m 7 #[own_jv p1, .second, own_jv p2, .second] [(.long p1)])) (fun _ k => XS.lloadN X0.here hx rfl (hb hby d17_6) rfl k) ?_
    refine own_st (T' := s₁) (g' := (mkF m 11 #[own_jv p1, .second, own_jv p2, .second] [(.long p1)])) (fun _ k => XS.goto X0.here hx rfl (pc0 := 7) (pc' := 11) rfl (hb hby d17_7) (by decide) (by decide) k) ?_
    exact b11 s₁ _ X0 e0 N0  p1 p2 p1 hf
theorem d25_0 : decode prog_128_method_31_code 0 = .ok (.iload_n 0, 1) := by decide +kernel
theorem d25_1 : decode prog_128_method_31_code 1 = .ok (.sipush (-16384), 3) := by decide +kernel
theorem d25_4 : decode prog_128_method_31_code 4 = .ok (.iand, 1) := by decide +kernel
theorem d25_5 : decode prog_128_method_31_code 5 = .ok (.ifCond .ne 8, 3) := by decide +kernel
theorem d25_8 : decode prog_128_method_31_code 8 = .ok (.iconst 2, 1) := by decide +kernel
theorem d25_9 : decode prog_128_method_31_code 9 = .ok (.istore_n 1, 1) := by decide +kernel
theorem d25_10 : decode prog_128_method_31_code 10 = .ok (.goto 29, 3) := by decide +kernel
theorem d25_13 : decode prog_128_method_31_code 13 = .ok (.iload_n 0, 1) := by decide +kernel
theorem d25_14 : decode prog_128_method_31_code 14 = .ok (.ldc 177, 2) := by decide +kernel
theorem d25_16 : decode prog_128_method_31_code 16 = .ok (.iand, 1) := by decide +kernel
theorem d25_17 : decode prog_128_method_31_code 17 = .ok (.ifCond .ne 8, 3) := by decide +kernel
theorem d25_20 : decode prog_128_method_31_code 20 = .ok (.iconst 3, 1) := by decide +kernel
theorem d25_21 : decode prog_128_method_31_code 21 = .ok (.istore_n 1, 1) := by decide +kernel
theorem d25_22 : decode prog_128_method_31_code 22 = .ok (.goto 17, 3) := by decide +kernel
theorem d25_25 : decode prog_128_method_31_code 25 = .ok (.iload_n 0, 1) := by decide +kernel
theorem d25_26 : decode prog_128_method_31_code 26 = .ok (.ldc 178, 2) := by decide +kernel
theorem d25_28 : decode prog_128_method_31_code 28 = .ok (.iand, 1) := by decide +kernel
theorem d25_29 : decode prog_128_method_31_code 29 = .ok (.ifCond .ne 8, 3) := by decide +kernel
theorem d25_32 : decode prog_128_method_31_code 32 = .ok (.iconst 4, 1) := by decide +kernel
theorem d25_33 : decode prog_128_method_31_code 33 = .ok (.istore_n 1, 1) := by decide +kernel
theorem d25_34 : decode prog_128_method_31_code 34 = .ok (.goto 5, 3) := by decide +kernel
theorem d25_37 : decode prog_128_method_31_code 37 = .ok (.iconst 5, 1) := by decide +kernel
theorem d25_38 : decode prog_128_method_31_code 38 = .ok (.istore_n 1, 1) := by decide +kernel
theorem d25_39 : decode prog_128_method_31_code 39 = .ok (.iload_n 1, 1) := by decide +kernel
theorem d25_40 : decode prog_128_method_31_code 40 = .ok (.ireturn, 1) := by decide +kernel
theorem own_pn25 : plainName "com/example/millrace/millrace/wire/ProtocolWriter" = true := by first | (simp [plainName, overriddenIn]; done) | decide +kernel
theorem own_ef25 (m : MethodId) (x0 : Int32) : entryFrame m #[(.int x0)] 2 = mkF m 0 #[iv x0, .unset] [] := by first | (simp [entryFrame, mkF, argsToLocals, Value.category]; done) | rfl
def own_f25_39 (v0 : Int32) (v1 : Int32) : Int32 := v1
def own_f25_0 (p1 : Int32) : Int32 := (if (p1 &&& (-16384 : Int32)) = (0 : Int32) then own_f25_39 p1 (2 : Int32) else (if (p1 &&& (-2097152 : Int32)) = (0 : Int32) then own_f25_39 p1 (3 : Int32) else (if (p1 &&& (-268435456 : Int32)) = (0 : Int32) then own_f25_39 p1 (4 : Int32) else own_f25_39 p1 (5 : Int32))))
def Q25 (Z : State) (p1 : Int32) (h0 : Heap) (n0 : Nat) (v : Option Value) (h : Heap) (L : List Loc) : Prop := v = some (.int (own_f25_0 p1)) ∧ Fr n0 L ∧ h = h0
set_option maxRecDepth 65536 in
set_option maxHeartbeats 40000000 in
theorem rm25 (l : Launch) (Z : State) (a0 : Array Value) (hw : ∀ d ∈ tables_1, d.before a0 Z = true) (ws : List Jvm.Cond) (p1 : Int32) (h0 : Heap) (n0 : Nat) (Z0 : n0 ≤ h0.size)  :
    MetFree l (⟨"com/example/millrace/millrace/wire/ProtocolWriter", "sizeOfLongUnsignedVarint", "(I)I"⟩ : MethodName) (head1 (Jvm.Cond.code (⟨"com/example/millrace/millrace/wire/ProtocolWriter", "sizeOfLongUnsignedVarint", "(I)I"⟩ : MethodName) prog_128_method_31_code 2 (some .int) :: ws) ({ frames := 0, cells := 0, slots := 0, locals := 0 } : Room)) (fun a U => a = #[(.int p1)] ∧ Z.Warmed39 U.vm ∧ U.heap = h0) (fun _ _ _ _ _ => True) (fun _ U o U' => ∃ v L, o = .returned v ∧ Q25 Z p1 h0 n0 v U'.heap L ∧ FrameEnd U o U' L ({ frames := 0, cells := 0, slots := 0, locals := 0 } : Room).cells ({ frames := 0, cells := 0, slots := 0, locals := 0 } : Room).slots) := by
  refine MetFree.of_bodySF (plainFor_of_name own_pn25) hisR ?_
  intro p e s m args below meth c s₁ Bd hml0 hP hK
  obtain ⟨rfl, hZ, hh⟩ := hP
  have hx := Bd.exec
  have hby := Bd.bytes
  have hml : c.maxLocals = 2 := hml0
  have hown : s.vm.findClass "com/example/millrace/millrace/wire/ProtocolWriter" = some m.cls := findClass_of_methodNamed Bd.named
  have hnm := (name_of_methodNamed Bd.named Bd.method).1
  have hlk := Bd.notSynchronized
  have X0 : Stand p l e ({ frames := 0, cells := 0, slots := 0, locals := 0 } : Room) s m #[(.int p1)] below meth c s₁ [] 0 0 := Stand.of_body Bd
  have e0 : s₁.heap = h0 := by rw [← hh, Bd.state]; rfl
  have N0 := Fr.nil n0
  show own_Goes p e below (fun o U' => ∃ v L, o = .returned v ∧ Q25 Z p1 h0 n0 v U'.heap L ∧ FrameEnd s o U' L ({ frames := 0, cells := 0, slots := 0, locals := 0 } : Room).cells ({ frames := 0, cells := 0, slots := 0, locals := 0 } : Room).slots) s₁ (entryFrame m #[(.int p1)] 2)
  refine own_st (T' := s₁) (g' := mkF m 0 #[iv p1, .unset] []) (fun _ k => castTop (own_ef25 m p1) k) ?_
  have b39 : ∀ (T : State) (Lc : List Loc) (X : Stand p l e ({ frames := 0, cells := 0, slots := 0, locals := 0 } : Room) s m #[(.int p1)] below meth c T Lc 0 0) (eT : T.heap = h0) (NL : Fr n0 Lc) (v0 : Int32) (v1 : Int32), own_f25_0 p1 = own_f25_39 v0 v1 → own_Goes p e below (fun o U' => ∃ v L, o = .returned v ∧ Q25 Z p1 h0 n0 v U'.heap L ∧ FrameEnd s o U' L ({ frames := 0, cells := 0, slots := 0, locals := 0 } : Room).cells ({ frames := 0, cells := 0, slots := 0, locals := 0 } : Room).slots) T (mkF m 39 #[iv v0, iv v1] []) := by
    intro T Lc X eT NL v0 v1 hf
    refine own_st (T' := T) (g' := (mkF m 40 #[iv v0, iv v1] [(.int v1)])) (fun _ k => XS.iloadN X.here hx rfl (hb hby d25_39) rfl k) ?_
    exact own_end (Q := Q25 Z p1 h0 n0) (v := some (.int v1)) X (fun h => by rw [Bd.returns] at h; cases h) (fun fs hr => retI X hx Bd.returns (hb hby d25_40) hr) (⟨congrArg (fun z => some (Value.int z)) hf.symm, NL, eT⟩) (by decide) (by decide)
  have hf : own_f25_0 p1 = own_f25_0 p1 := rfl
  refine own_st (T' := s₁) (g' := (mkF m 1 #[iv p1, .unset] [(.int p1)])) (fun _ k => XS.iloadN X0.here hx rfl (hb hby d25_0) rfl k) ?_
  refine own_st (T' := s₁) (g' := (mkF m 4 #[iv p1, .unset] [(.int (-16384 : Int32)), (.int p1)])) (fun _ k => XS.sipush X0.here hx rfl (hb hby d25_1) k) ?_
  refine own_st (T' := s₁) (g' := (mkF m 5 #[iv p1, .unset] [(.int (p1 &&& (-16384 : Int32)))])) (fun _ k => XS.iand X0.here hx rfl (hb hby d25_4) rfl k) ?_
  by_cases hc5 : (p1 &&& (-16384 : Int32)) = (0 : Int32)
  · have hf := hf.trans (if_pos hc5)
    refine own_st (T' := s₁) (g' := (mkF m 8 #[iv p1, .unset] [])) (fun _ k => XS.ifNo X0.here hx rfl (hb hby d25_5) rfl ((if0 _ _).trans (teq hc5).2) k) ?_
    refine own_st (T' := s₁) (g' := (mkF m 9 #[iv p1, .unset] [(.int (2 : Int32))])) (fun _ k => XS.iconst X0.here hx rfl (hb hby d25_8) k) ?_
    refine own_st (T' := s₁) (g' := (mkF m 10 #[iv p1, iv (2 : Int32)] [])) (fun _ k => XS.istoreN X0.here hx rfl (hb hby d25_9) rfl (l' := #[iv p1, iv (2 : Int32)]) rfl k) ?_
    refine own_st (T' := s₁) (g' := (mkF m 39 #[iv p1, iv (2 : Int32)] [])) (fun _ k => XS.goto X0.here hx rfl (pc0 := 10) (pc' := 39) rfl (hb hby d25_10) (by decide) (by decide) k) ?_
    exact b39 s₁ _ X0 e0 N0  p1 (2 : Int32) hf
  · have hf := hf.trans (if_neg hc5)
    refine own_st (T' := s₁) (g' := (mkF m 13 #[iv p1, .unset] [])) (fun _ k => XS.ifYes X0.here hx rfl (pc0 := 5) (pc' := 13) rfl (hb hby d25_5) rfl ((if0 _ _).trans (feq hc5).2) (by decide) (by decide) k) ?_
    refine own_st (T' := s₁) (g' := (mkF m 14 #[iv p1, .unset] [(.int p1)])) (fun _ k => XS.iloadN X0.here hx rfl (hb hby d25_13) rfl k) ?_
    refine own_st (T' := s₁) (g' := (mkF m 16 #[iv p1, .unset] [(.int (-2097152 : Int32)), (.int p1)])) (fun _ k => (X0.ldcInt hx hown (mvT hZ (hw _ (List.mem_of_getElem? (i := 132) rfl))) (g := (mkF m 14 #[iv p1, .unset] [(.int p1)])) rfl (hb hby d25_14)) _ k) ?_
    refine own_st (T' := s₁) (g' := (mkF m 17 #[iv p1, .unset] [(.int (p1 &&& (-2097152 : Int32)))])) (fun _ k => XS.iand X0.here hx rfl (hb hby d25_16) rfl k) ?_
    by_cases hc17 : (p1 &&& (-2097152 : Int32)) = (0 : Int32)
    · have hf := hf.trans (if_pos hc17)
      refine own_st (T' := s₁) (g' := (mkF m 20 #[iv p1, .unset] [])) (fun _ k => XS.ifNo X0.here hx rfl (hb hby d25_17) rfl ((if0 _ _).trans (teq hc17).2) k) ?_
      refine own_st (T' := s₁) (g' := (mkF m 21 #[iv p1, .unset] [(.int (3 : Int32))])) (fun _ k => XS.iconst X0.here hx rfl (hb hby d25_20) k) ?_
      refine own_st (T' := s₁) (g' := (mkF m 22 #[iv p1, iv (3 : Int32)] [])) (fun _ k => XS.istoreN X0.here hx rfl (hb hby d25_21) rfl (l' := #[iv p1, iv (3 : Int32)]) rfl k) ?_
      refine own_st (T' := s₁) (g' := (mkF m 39 #[iv p1, iv (3 : Int32)] [])) (fun _ k => XS.goto X0.here hx rfl (pc0 := 22) (pc' := 39) rfl (hb hby d25_22) (by decide) (by decide) k) ?_
      exact b39 s₁ _ X0 e0 N0  p1 (3 : Int32) hf
    · have hf := hf.trans (if_neg hc17)
      refine own_st (T' := s₁) (g' := (mkF m 25 #[iv p1, .unset] [])) (fun _ k => XS.ifYes X0.here hx rfl (pc0 := 17) (pc' := 25) rfl (hb hby d25_17) rfl ((if0 _ _).trans (feq hc17).2) (by decide) (by decide) k) ?_
      refine own_st (T' := s₁) (g' := (mkF m 26 #[iv p1, .unset] [(.int p1)])) (fun _ k => XS.iloadN X0.here hx rfl (hb hby d25_25) rfl k) ?_
      refine own_st (T' := s₁) (g' := (mkF m 28 #[iv p1, .unset] [(.int (-268435456 : Int32)), (.int p1)])) (fun _ k => (X0.ldcInt hx hown (mvT hZ (hw _ (List.mem_of_getElem? (i := 133) rfl))) (g := (mkF m 26 #[iv p1, .unset] [(.int p1)])) rfl (hb hby d25_26)) _ k) ?_
      refine own_st (T' := s₁) (g' := (mkF m 29 #[iv p1, .unset] [(.int (p1 &&& (-268435456 : Int32)))])) (fun _ k => XS.iand X0.here hx rfl (hb hby d25_28) rfl k) ?_
      by_cases hc29 : (p1 &&& (-268435456 : Int32)) = (0 : Int32)
      · have hf := hf.trans (if_pos hc29)
        refine own_st (T' := s₁) (g' := (mkF m 32 #[iv p1, .unset] [])) (fun _ k => XS.ifNo X0.here hx rfl (hb hby d25_29) rfl ((if0 _ _).trans (teq hc29).2) k) ?_
        refine own_st (T' := s₁) (g' := (mkF m 33 #[iv p1, .unset] [(.int (4 : Int32))])) (fun _ k => XS.iconst X0.here hx rfl (hb hby d25_32) k) ?_
        refine own_st (T' := s₁) (g' := (mkF m 34 #[iv p1, iv (4 : Int32)] [])) (fun _ k => XS.istoreN X0.here hx rfl (hb hby d25_33) rfl (l' := #[iv p1, iv (4 : Int32)]) rfl k) ?_
        refine own_st (T' := s₁) (g' := (mkF m 39 #[iv p1, iv (4 : Int32)] [])) (fun _ k => XS.goto X0.here hx rfl (pc0 := 34) (pc' := 39) rfl (hb hby d25_34) (by decide) (by decide) k) ?_
        exact b39 s₁ _ X0 e0 N0  p1 (4 : Int32) hf
      · have hf := hf.trans (if_neg hc29)
        refine own_st (T' := s₁) (g' := (mkF m 37 #[iv p1, .unset] [])) (fun _ k => XS.ifYes X0.here hx rfl (pc0 := 29) (pc' := 37) rfl (hb hby d25_29) rfl ((if0 _ _).trans (feq hc29).2) (by decide) (by decide) k) ?_
        refine own_st (T' := s₁) (g' := (mkF m 38 #[iv p1, .unset] [(.int (5 : Int32))])) (fun _ k => XS.iconst X0.here hx rfl (hb hby d25_37) k) ?_
        refine own_st (T' := s₁) (g' := (mkF m 39 #[iv p1, iv (5 : Int32)] [])) (fun _ k => XS.istoreN X0.here hx rfl (hb hby d25_38) rfl (l' := #[iv p1, iv (5 : Int32)]) rfl k) ?_
        exact b39 s₁ _ X0 e0 N0  p1 (5 : Int32) hf
theorem d13_0 : decode prog_128_method_30_code 0 = .ok (.iload_n 0, 1) := by decide +kernel
theorem d13_1 : decode prog_128_method_30_code 1 = .ok (.bipush (-128), 2) := by decide +kernel
theorem d13_3 : decode prog_128_method_30_code 3 = .ok (.iand, 1) := by decide +kernel
theorem d13_4 : decode prog_128_method_30_code 4 = .ok (.ifCond .ne 7, 3) := by decide +kernel
theorem d13_7 : decode prog_128_method_30_code 7 = .ok (.iconst 1, 1) := by decide +kernel
theorem d13_8 : decode prog_128_method_30_code 8 = .ok (.goto 7, 3) := by decide +kernel
theorem d13_11 : decode prog_128_method_30_code 11 = .ok (.iload_n 0, 1) := by decide +kernel
theorem d13_12 : decode prog_128_method_30_code 12 = .ok (.invokestatic 173, 3) := by decide +kernel
theorem d13_15 : decode prog_128_method_30_code 15 = .ok (.ireturn, 1) := by decide +kernel
theorem own_pn13 : plainName "com/example/millrace/millrace/wire/ProtocolWriter" = true := by first | (simp [plainName, overriddenIn]; done) | decide +kernel
theorem own_pd13_0 : parseMethodDescriptor "(I)I" = some ⟨[.int], some .int⟩ := by decide +kernel
theorem own_ef13 (m : MethodId) (x0 : Int32) : entryFrame m #[(.int x0)] 1 = mkF m 0 #[iv x0] [] := by first | (simp [entryFrame, mkF, argsToLocals, Value.category]; done) | rfl
def own_f13_15 (v0 : Int32) (t0 : Int32) : Int32 := t0
def own_f13_0 (p1 : Int32) : Int32 := (if (p1 &&& (-128 : Int32)) = (0 : Int32) then own_f13_15 p1 (1 : Int32) else own_f13_15 p1 (own_f25_0 p1))
def Q13 (Z : State) (p1 : Int32) (h0 : Heap) (n0 : Nat) (v : Option Value) (h : Heap) (L : List Loc) : Prop := v = some (.int (own_f13_0 p1)) ∧ Fr n0 L ∧ h = h0
set_option maxRecDepth 65536 in
set_option maxHeartbeats 40000000 in
theorem rm13 (l : Launch) (Z : State) (a0 : Array Value) (hw : ∀ d ∈ tables_1, d.before a0 Z = true) (ws : List Jvm.Cond) (p1 : Int32) (h0 : Heap) (n0 : Nat) (Z0 : n0 ≤ h0.size)  :
    MetFree l (⟨"com/example/millrace/millrace/wire/ProtocolWriter", "sizeOfUnsignedVarint", "(I)I"⟩ : MethodName) (head1 (Jvm.Cond.code (⟨"com/example/millrace/millrace/wire/ProtocolWriter", "sizeOfUnsignedVarint", "(I)I"⟩ : MethodName) prog_128_method_30_code 1 (some .int) :: ws) ({ frames := 1, cells := 0, slots := 0, locals := 13 } : Room)) (fun a U => a = #[(.int p1)] ∧ Z.Warmed39 U.vm ∧ U.heap = h0) (fun _ _ _ _ _ => True) (fun _ U o U' => ∃ v L, o = .returned v ∧ Q13 Z p1 h0 n0 v U'.heap L ∧ FrameEnd U o U' L ({ frames := 1, cells := 0, slots := 0, locals := 13 } : Room).cells ({ frames := 1, cells := 0, slots := 0, locals := 13 } : Room).slots) := by
  refine MetFree.of_bodySF (plainFor_of_name own_pn13) hisR ?_
  intro p e s m args below meth c s₁ Bd hml0 hP hK
  obtain ⟨rfl, hZ, hh⟩ := hP
  have hx := Bd.exec
  have hby := Bd.bytes
  have hml : c.maxLocals = 1 := hml0
  have hown : s.vm.findClass "com/example/millrace/millrace/wire/ProtocolWriter" = some m.cls := findClass_of_methodNamed Bd.named
  have hnm := (name_of_methodNamed Bd.named Bd.method).1
  have hlk := Bd.notSynchronized
  have X0 : Stand p l e ({ frames := 1, cells := 0, slots := 0, locals := 13 } : Room) s m #[(.int p1)] below meth c s₁ [] 0 0 := Stand.of_body Bd
  have e0 : s₁.heap = h0 := by rw [← hh, Bd.state]; rfl
  have N0 := Fr.nil n0
  show own_Goes p e below (fun o U' => ∃ v L, o = .returned v ∧ Q13 Z p1 h0 n0 v U'.heap L ∧ FrameEnd s o U' L ({ frames := 1, cells := 0, slots := 0, locals := 13 } : Room).cells ({ frames := 1, cells := 0, slots := 0, locals := 13 } : Room).slots) s₁ (entryFrame m #[(.int p1)] 1)
  refine own_st (T' := s₁) (g' := mkF m 0 #[iv p1] []) (fun _ k => castTop (own_ef13 m p1) k) ?_
  have b15 : ∀ (T : State) (Lc : List Loc) (X : Stand p l e ({ frames := 1, cells := 0, slots := 0, locals := 13 } : Room) s m #[(.int p1)] below meth c T Lc 0 0) (eT : T.heap = h0) (NL : Fr n0 Lc) (v0 : Int32) (t0 : Int32), own_f13_0 p1 = own_f13_15 v0 t0 → own_Goes p e below (fun o U' => ∃ v L, o = .returned v ∧ Q13 Z p1 h0 n0 v U'.heap L ∧ FrameEnd s o U' L ({ frames := 1, cells := 0, slots := 0, locals := 13 } : Room).cells ({ frames := 1, cells := 0, slots := 0, locals := 13 } : Room).slots) T (mkF m 15 #[iv v0] [(.int t0)]) := by
    intro T Lc X eT NL v0 t0 hf
    exact own_end (Q := Q13 Z p1 h0 n0) (v := some (.int t0)) X (fun h => by rw [Bd.returns] at h; cases h) (fun fs hr => retI X hx Bd.returns (hb hby d13_15) hr) (⟨congrArg (fun z => some (Value.int z)) hf.symm, NL, eT⟩) (by decide) (by decide)
  have hf : own_f13_0 p1 = own_f13_0 p1 := rfl
  refine own_st (T' := s₁) (g' := (mkF m 1 #[iv p1] [(.int p1)])) (fun _ k => XS.iloadN X0.here hx rfl (hb hby d13_0) rfl k) ?_
  refine own_st (T' := s₁) (g' := (mkF m 3 #[iv p1] [(.int (-128 : Int32)), (.int p1)])) (fun _ k => XS.bipush X0.here hx rfl (hb hby d13_1) k) ?_
  refine own_st (T' := s₁) (g' := (mkF m 4 #[iv p1] [(.int (p1 &&& (-128 : Int32)))])) (fun _ k => XS.iand X0.here hx rfl (hb hby d13_3) rfl k) ?_
  by_cases hc4 : (p1 &&& (-128 : Int32)) = (0 : Int32)
  · have hf := hf.trans (if_pos hc4)
    refine own_st (T' := s₁) (g' := (mkF m 7 #[iv p1] [])) (fun _ k => XS.ifNo X0.here hx rfl (hb hby d13_4) rfl ((if0 _ _).trans (teq hc4).2) k) ?_
    refine own_st (T' := s₁) (g' := (mkF m 8 #[iv p1] [(.int (1 : Int32))])) (fun _ k => XS.iconst X0.here hx rfl (hb hby d13_7) k) ?_
    refine own_st (T' := s₁) (g' := (mkF m 15 #[iv p1] [(.int (1 : Int32))])) (fun _ k => XS.goto X0.here hx rfl (pc0 := 8) (pc' := 15) rfl (hb hby d13_8) (by decide) (by decide) k) ?_
    exact b15 s₁ _ X0 e0 N0  p1 (1 : Int32) hf
  · have hf := hf.trans (if_neg hc4)
    refine own_st (T' := s₁) (g' := (mkF m 11 #[iv p1] [])) (fun _ k => XS.ifYes X0.here hx rfl (pc0 := 4) (pc' := 11) rfl (hb hby d13_4) rfl ((if0 _ _).trans (feq hc4).2) (by decide) (by decide) k) ?_
    refine own_st (T' := s₁) (g' := (mkF m 12 #[iv p1] [(.int p1)])) (fun _ k => XS.iloadN X0.here hx rfl (hb hby d13_11) rfl k) ?_
    obtain ⟨v1, T1, L1, X1, hQ1, st1⟩ := own_packS (Jvm.LawKit.callS X0 hx (y := (⟨"com/example/millrace/millrace/wire/ProtocolWriter", "sizeOfLongUnsignedVarint", "(I)I"⟩ : MethodName)) hown (mvT hZ (hw _ (List.mem_of_getElem? (i := 123) rfl))) (mvT hZ (hw _ (List.mem_of_getElem? (i := 124) rfl))) (mvT hZ (hw _ (List.mem_of_getElem? (i := 12) rfl))) (mvT hZ (hw _ (List.mem_of_getElem? (i := 125) rfl))) (by decide) (backOf (W := 0) (rm25 l Z a0 hw [] p1 h0 n0 Z0 ) hZ (hw _ (List.mem_of_getElem? (i := 125) rfl)) (hw _ (List.mem_of_getElem? (i := 12) rfl)) (by decide) (by decide)) (g := (mkF m 12 #[iv p1] [(.int p1)])) rfl (by rw [hml]; rfl) (argsL := [(.int p1)]) (rest := []) (lenOf own_pd13_0 rfl) rfl (by show 2 * 0 + _ ≤ _; exact Nat.le_of_eq rfl) (hb hby d13_12) (fun _ _ => ⟨rfl, e0, (by decide : 0 + 0 ≤ _), (by decide : 0 + 0 ≤ _)⟩))
    obtain ⟨rfl, N1q, e1⟩ := hQ1
    obtain ⟨lc1, X1, N1⟩ := own_loc X1 (Fr.app N0 N1q)
    refine own_st (T' := T1) (g' := (mkF m 15 #[iv p1] [(.int (own_f25_0 p1))])) (fun _ k => (st1) _ k) ?_
    exact b15 T1 _ X1 e1 N1  p1 (own_f25_0 p1) hf
theorem d12_0 : decode prog_128_method_32_code 0 = .ok (.iload_n 0, 1) := by decide +kernel
theorem d12_1 : decode prog_128_method_32_code 1 = .ok (.iconst 1, 1) := by decide +kernel
theorem d12_2 : decode prog_128_method_32_code 2 = .ok (.ishl, 1) := by decide +kernel
theorem d12_3 : decode prog_128_method_32_code 3 = .ok (.iload_n 0, 1) := by decide +kernel
theorem d12_4 : decode prog_128_method_32_code 4 = .ok (.bipush 31, 2) := by decide +kernel
theorem d12_6 : decode prog_128_method_32_code 6 = .ok (.ishr, 1) := by decide +kernel
theorem d12_7 : decode prog_128_method_32_code 7 = .ok (.ixor, 1) := by decide +kernel
theorem d12_8 : decode prog_128_method_32_code 8 = .ok (.invokestatic 179, 3) := by decide +kernel
theorem d12_11 : decode prog_128_method_32_code 11 = .ok (.ireturn, 1) := by decide +kernel
theorem own_pn12 : plainName "com/example/millrace/millrace/wire/ProtocolWriter" = true := by first | (simp [plainName, overriddenIn]; done) | decide +kernel
theorem own_pd12_0 : parseMethodDescriptor "(I)I" = some ⟨[.int], some .int⟩ := by decide +kernel
theorem own_ef12 (m : MethodId) (x0 : Int32) : entryFrame m #[(.int x0)] 1 = mkF m 0 #[iv x0] [] := by first | (simp [entryFrame, mkF, argsToLocals, Value.category]; done) | rfl
def own_f12_0 (p1 : Int32) : Int32 := (own_f13_0 (((p1 <<< ((1 : Int32) &&& 31))) ^^^ ((p1 >>> ((31 : Int32) &&& 31)))))
def Q12 (Z : State) (p1 : Int32) (h0 : Heap) (n0 : Nat) (v : Option Value) (h : Heap) (L : List Loc) : Prop := v = some (.int (own_f12_0 p1)) ∧ Fr n0 L ∧ h = h0
set_option maxRecDepth 65536 in
set_option maxHeartbeats 40000000 in
theorem rm12 (l : Launch) (Z : State) (a0 : Array Value) (hw : ∀ d ∈ tables_1, d.before a0 Z = true) (ws : List Jvm.Cond) (p1 : Int32) (h0 : Heap) (n0 : Nat) (Z0 : n0 ≤ h0.size)  :
    MetFree l (⟨"com/example/millrace/millrace/wire/ProtocolWriter", "sizeOfVarint", "(I)I"⟩ : MethodName) (head1 (Jvm.Cond.code (⟨"com/example/millrace/millrace/wire/ProtocolWriter", "sizeOfVarint", "(I)I"⟩ : MethodName) prog_128_method_32_code 1 (some .int) :: ws) ({ frames := 2, cells := 0, slots := 0, locals := 25 } : Room)) (fun a U => a = #[(.int p1)] ∧ Z.Warmed39 U.vm ∧ U.heap = h0) (fun _ _ _ _ _ => True) (fun _ U o U' => ∃ v L, o = .returned v ∧ Q12 Z p1 h0 n0 v U'.heap L ∧ FrameEnd U o U' L ({ frames := 2, cells := 0, slots := 0, locals := 25 } : Room).cells ({ frames := 2, cells := 0, slots := 0, locals := 25 } : Room).slots) := by
  refine MetFree.of_bodySF (plainFor_of_name own_pn12) hisR ?_
  intro p e s m args below meth c s₁ Bd hml0 hP hK
  obtain ⟨rfl, hZ, hh⟩ := hP
  have hx := Bd.exec
  have hby := Bd.bytes
  have hml : c.maxLocals = 1 := hml0
  have hown : s.vm.findClass "com/example/millrace/millrace/wire/ProtocolWriter" = some m.cls := findClass_of_methodNamed Bd.named
  have hnm := (name_of_methodNamed Bd.named Bd.method).1
  have hlk := Bd.notSynchronized
  have X0 : Stand p l e ({ frames := 2, cells := 0, slots := 0, locals := 25 } : Room) s m #[(.int p1)] below meth c s₁ [] 0 0 := Stand.of_body Bd
  have e0 : s₁.heap = h0 := by rw [← hh, Bd.state]; rfl
  have N0 := Fr.nil n0
  show own_Goes p e below (fun o U' => ∃ v L, o = .returned v ∧ Q12 Z p1 h0 n0 v U'.heap L ∧ FrameEnd s o U' L ({ frames := 2, cells := 0, slots := 0, locals := 25 } : Room).cells ({ frames := 2, cells := 0, slots := 0, locals := 25 } : Room).slots) s₁ (entryFrame m #[(.int p1)] 1)
  refine own_st (T' := s₁) (g' := mkF m 0 #[iv p1] []) (fun _ k => castTop (own_ef12 m p1) k) ?_
  have hf : own_f12_0 p1 = own_f12_0 p1 := rfl
  refine own_st (T' := s₁) (g' := (mkF m 1 #[iv p1] [(.int p1)])) (fun _ k => XS.iloadN X0.here hx rfl (hb hby d12_0) rfl k) ?_
  refine own_st (T' := s₁) (g' := (mkF m 2 #[iv p1] [(.int (1 : Int32)), (.int p1)])) (fun _ k => XS.iconst X0.here hx rfl (hb hby d12_1) k) ?_
  refine own_st (T' := s₁) (g' := (mkF m 3 #[iv p1] [(.int ((p1 <<< ((1 : Int32) &&& 31))))])) (fun _ k => XS.ishl X0.here hx rfl (hb hby d12_2) rfl k) ?_
  refine own_st (T' := s₁) (g' := (mkF m 4 #[iv p1] [(.int p1), (.int ((p1 <<< ((1 : Int32) &&& 31))))])) (fun _ k => XS.iloadN X0.here hx rfl (hb hby d12_3) rfl k) ?_
  refine own_st (T' := s₁) (g' := (mkF m 6 #[iv p1] [(.int (31 : Int32)), (.int p1), (.int ((p1 <<< ((1 : Int32) &&& 31))))])) (fun _ k => XS.bipush X0.here hx rfl (hb hby d12_4) k) ?_
  refine own_st (T' := s₁) (g' := (mkF m 7 #[iv p1] [(.int ((p1 >>> ((31 : Int32) &&& 31)))), (.int ((p1 <<< ((1 : Int32) &&& 31))))])) (fun _ k => XS.ishr X0.here hx rfl (hb hby d12_6) rfl k) ?_
  refine own_st (T' := s₁) (g' := (mkF m 8 #[iv p1] [(.int (((p1 <<< ((1 : Int32) &&& 31))) ^^^ ((p1 >>> ((31 : Int32) &&& 31)))))])) (fun _ k => XS.ixor X0.here hx rfl (hb hby d12_7) rfl k) ?_
  obtain ⟨v1, T1, L1, X1, hQ1, st1⟩ := own_packS (Jvm.LawKit.callS X0 hx (y := (⟨"com/example/millrace/millrace/wire/ProtocolWriter", "sizeOfUnsignedVarint", "(I)I"⟩ : MethodName)) hown (mvT hZ (hw _ (List.mem_of_getElem? (i := 76) rfl))) (mvT hZ (hw _ (List.mem_of_getElem? (i := 77) rfl))) (mvT hZ (hw _ (List.mem_of_getElem? (i := 12) rfl))) (mvT hZ (hw _ (List.mem_of_getElem? (i := 78) rfl))) (by decide) (backOf (W := 0) (rm13 l Z a0 hw [] (((p1 <<< ((1 : Int32) &&& 31))) ^^^ ((p1 >>> ((31 : Int32) &&& 31)))) h0 n0 Z0 ) hZ (hw _ (List.mem_of_getElem? (i := 78) rfl)) (hw _ (List.mem_of_getElem? (i := 12) rfl)) (by decide) (by decide)) (g := (mkF m 8 #[iv p1] [(.int (((p1 <<< ((1 : Int32) &&& 31))) ^^^ ((p1 >>> ((31 : Int32) &&& 31)))))])) rfl (by rw [hml]; rfl) (argsL := [(.int (((p1 <<< ((1 : Int32) &&& 31))) ^^^ ((p1 >>> ((31 : Int32) &&& 31)))))]) (rest := []) (lenOf own_pd12_0 rfl) rfl (by show 2 * 0 + _ ≤ _; exact Nat.le_of_eq rfl) (hb hby d12_8) (fun _ _ => ⟨rfl, e0, (by decide : 0 + 0 ≤ _), (by decide : 0 + 0 ≤ _)⟩))
  obtain ⟨rfl, N1q, e1⟩ := hQ1
  obtain ⟨lc1, X1, N1⟩ := own_loc X1 (Fr.app N0 N1q)
  refine own_st (T' := T1) (g' := (mkF m 11 #[iv p1] [(.int (own_f13_0 (((p1 <<< ((1 : Int32) &&& 31))) ^^^ ((p1 >>> ((31 : Int32) &&& 31))))))])) (fun _ k => (st1) _ k) ?_
  exact own_end (Q := Q12 Z p1 h0 n0) (v := some (.int (own_f13_0 (((p1 <<< ((1 : Int32) &&& 31))) ^^^ ((p1 >>> ((31 : Int32) &&& 31))))))) X1 (fun h => by rw [Bd.returns] at h; cases h) (fun fs hr => retI X1 hx Bd.returns (hb hby d12_11) hr) (⟨congrArg (fun z => some (Value.int z)) hf.symm, N1, e1⟩) (by decide) (by decide)
/-- the long read as an unsigned number -/
def own_u (r : Int64) : Int := r.toInt % 18446744073709551616
def own_sh (v3 : Int64) : Int64 := (((v3).toUInt64 >>> ((7 : Int32) &&& 0x3f).toInt64.toUInt64).toInt64)
def own_sz : Nat → Int32 → Int64 → Int32
  | 0, v2, _ => v2
  | k + 1, v2, v3 => if (lcmpW (v3 &&& (-128 : Int64)) (0 : Int64)) = (0 : Int32) then v2 else own_sz k (v2 + (1 : Int32)) (own_sh v3)
def own_zz (p1 : Int64) : Int64 := ((p1 <<< ((1 : Int32) &&& 0x3f).toInt64)) ^^^ ((p1 >>> ((63 : Int32) &&& 0x3f).toInt64))
def own_f11_0 (p1 : Int64) : Int32 := own_sz 10 (1 : Int32) (own_zz p1)
theorem own_u_rng (r : Int64) : 0 ≤ own_u r ∧ own_u r < 18446744073709551616 := by unfold own_u; omega
theorem own_u_sh (r : Int64) : own_u (own_sh r) = own_u r / 128 := by
  have h : (own_sh r).toInt = (r.toInt % 18446744073709551616) / (2 ^ 7 : Nat) := c_lushr r 7 7 (by decide) (by decide)
  unfold own_u
  rw [h]; omega
theorem own_big (r : Int64) : own_u r < 128 * 128 ^ 9 := by
  have := own_u_rng r
  have e : (128 : Int) * 128 ^ 9 = 1180591620717411303424 := by decide
  rw [e]; omega
theorem own_testBit (i : Nat) : (18446744073709551488 : Nat).testBit i = (decide (7 ≤ i) && decide (i < 64)) := by
  have e : (18446744073709551488 : Nat) = (2 ^ 57 - 1) <<< 7 := by decide
  rw [e, Nat.testBit_shiftLeft, Nat.testBit_two_pow_sub_one]
  by_cases h : 7 ≤ i <;> simp [h] <;> omega
theorem own_and128 (n : Nat) (h : n < 18446744073709551616) : n &&& 18446744073709551488 = n / 128 * 128 := by
  apply Nat.eq_of_testBit_eq
  intro i
  have e : n / 128 * 128 = (n >>> 7) <<< 7 := by rw [Nat.shiftLeft_eq, Nat.shiftRight_eq_div_pow]
  rw [Nat.testBit_and, own_testBit, e, Nat.testBit_shiftLeft, Nat.testBit_shiftRight]
  by_cases h7 : 7 ≤ i
  · have e2 : 7 + (i - 7) = i := by omega
    rw [e2]
    by_cases h64 : i < 64
    · simp [h7, h64]
    · have hz : n.testBit i = false := Nat.testBit_lt_two_pow (Nat.lt_of_lt_of_le h (by
        have : (18446744073709551616 : Nat) = 2 ^ 64 := by decide
        rw [this]; exact Nat.pow_le_pow_right (by decide) (by omega)))
      simp [hz]
  · simp [h7]
theorem own_u_nat (r : Int64) : own_u r = (r.toBitVec.toNat : Int) := by
  unfold own_u
  have h : r.toInt = r.toBitVec.toInt := rfl
  have hb := r.toBitVec.isLt
  have e : (18446744073709551616 : Int) = ((2 ^ 64 : Nat) : Int) := by decide
  rw [h, BitVec.toInt_eq_toNat_bmod, e, Int.bmod_emod]
  omega
theorem own_low (r : Int64) : (lcmpW (r &&& (-128 : Int64)) (0 : Int64)) = (0 : Int32) ↔ own_u r < 128 := by
  rw [lw_eq, own_u_nat, ← Int64.toBitVec_inj, Int64.toBitVec_and, ← BitVec.toNat_inj, BitVec.toNat_and]
  have e1 : (-128 : Int64).toBitVec.toNat = 18446744073709551488 := by decide
  have e2 : (0 : Int64).toBitVec.toNat = 0 := by decide
  have hb := r.toBitVec.isLt
  rw [e1, e2, own_and128 _ hb]
  omega
theorem own_leave (r : Int64) (h : own_u r < 128 * 128 ^ 0) : (lcmpW (r &&& (-128 : Int64)) (0 : Int64)) = (0 : Int32) := (own_low r).mpr (by simpa using h)
theorem own_next (k : Nat) (r : Int64) (h : own_u r < 128 * 128 ^ (k + 1)) : own_u (own_sh r) < 128 * 128 ^ k := by
  rw [own_u_sh]
  have e : (128 : Int) * 128 ^ (k + 1) = 128 * (128 * 128 ^ k) := by rw [Int.pow_succ, Int.mul_comm (128 ^ k) 128]
  omega
theorem d11_0 : decode prog_128_method_33_code 0 = .ok (.iconst 1, 1) := by decide +kernel
theorem d11_1 : decode prog_128_method_33_code 1 = .ok (.istore_n 2, 1) := by decide +kernel
theorem d11_2 : decode prog_128_method_33_code 2 = .ok (.lload_n 0, 1) := by decide +kernel
theorem d11_3 : decode prog_128_method_33_code 3 = .ok (.iconst 1, 1) := by decide +kernel
theorem d11_4 : decode prog_128_method_33_code 4 = .ok (.lshl, 1) := by decide +kernel
theorem d11_5 : decode prog_128_method_33_code 5 = .ok (.lload_n 0, 1) := by decide +kernel
theorem d11_6 : decode prog_128_method_33_code 6 = .ok (.bipush 63, 2) := by decide +kernel
theorem d11_8 : decode prog_128_method_33_code 8 = .ok (.lshr, 1) := by decide +kernel
theorem d11_9 : decode prog_128_method_33_code 9 = .ok (.lxor, 1) := by decide +kernel
theorem d11_10 : decode prog_128_method_33_code 10 = .ok (.lstore_n 3, 1) := by decide +kernel
theorem d11_11 : decode prog_128_method_33_code 11 = .ok (.lload_n 3, 1) := by decide +kernel
theorem d11_12 : decode prog_128_method_33_code 12 = .ok (.ldc2_w 83, 3) := by decide +kernel
theorem d11_15 : decode prog_128_method_33_code 15 = .ok (.land, 1) := by decide +kernel
theorem d11_16 : decode prog_128_method_33_code 16 = .ok (.lconst 0, 1) := by decide +kernel
theorem d11_17 : decode prog_128_method_33_code 17 = .ok (.lcmp, 1) := by decide +kernel
theorem d11_18 : decode prog_128_method_33_code 18 = .ok (.ifCond .eq 14, 3) := by decide +kernel
theorem d11_21 : decode prog_128_method_33_code 21 = .ok (.iinc 2 1, 3) := by decide +kernel
theorem d11_24 : decode prog_128_method_33_code 24 = .ok (.lload_n 3, 1) := by decide +kernel
theorem d11_25 : decode prog_128_method_33_code 25 = .ok (.bipush 7, 2) := by decide +kernel
theorem d11_27 : decode prog_128_method_33_code 27 = .ok (.lushr, 1) := by decide +kernel
theorem d11_28 : decode prog_128_method_33_code 28 = .ok (.lstore_n 3, 1) := by decide +kernel
theorem d11_29 : decode prog_128_method_33_code 29 = .ok (.goto (-18), 3) := by decide +kernel
theorem d11_32 : decode prog_128_method_33_code 32 = .ok (.iload_n 2, 1) := by decide +kernel
theorem d11_33 : decode prog_128_method_33_code 33 = .ok (.ireturn, 1) := by decide +kernel
theorem own_pn11 : plainName "com/example/millrace/millrace/wire/ProtocolWriter" = true := by first | (simp [plainName, overriddenIn]; done) | decide +kernel
theorem own_ef11 (m : MethodId) (x0 : Int64) : entryFrame m #[(.long x0)] 5 = mkF m 0 #[own_jv x0, .second, .unset, .unset, .unset] [] := by first | (simp [entryFrame, mkF, argsToLocals, Value.category]; done) | rfl
def Q11 (Z : State) (p1 : Int64) (h0 : Heap) (n0 : Nat) (v : Option Value) (h : Heap) (L : List Loc) : Prop := v = some (.int (own_f11_0 p1)) ∧ Fr n0 L ∧ h = h0
set_option maxRecDepth 65536 in
set_option maxHeartbeats 40000000 in
theorem rm11 (l : Launch) (Z : State) (a0 : Array Value) (hw : ∀ d ∈ tables_1, d.before a0 Z = true) (ws : List Jvm.Cond) (p1 : Int64) (h0 : Heap) (n0 : Nat) (Z0 : n0 ≤ h0.size)  :
    MetFree l (⟨"com/example/millrace/millrace/wire/ProtocolWriter", "sizeOfVarlong", "(J)I"⟩ : MethodName) (head1 (Jvm.Cond.code (⟨"com/example/millrace/millrace/wire/ProtocolWriter", "sizeOfVarlong", "(J)I"⟩ : MethodName) prog_128_method_33_code 5 (some .int) :: ws) ({ frames := 0, cells := 0, slots := 0, locals := 0 } : Room)) (fun a U => a = #[(.long p1)] ∧ Z.Warmed39 U.vm ∧ U.heap = h0) (fun _ _ _ _ _ => True) (fun _ U o U' => ∃ v L, o = .returned v ∧ Q11 Z p1 h0 n0 v U'.heap L ∧ FrameEnd U o U' L ({ frames := 0, cells := 0, slots := 0, locals := 0 } : Room).cells ({ frames := 0, cells := 0, slots := 0, locals := 0 } : Room).slots) := by
  refine MetFree.of_bodySF (plainFor_of_name own_pn11) hisR ?_
  intro p e s m args below meth c s₁ Bd hml0 hP hK
  obtain ⟨rfl, hZ, hh⟩ := hP
  have hx := Bd.exec
  have hby := Bd.bytes
  have hml : c.maxLocals = 5 := hml0
  have hown : s.vm.findClass "com/example/millrace/millrace/wire/ProtocolWriter" = some m.cls := findClass_of_methodNamed Bd.named
  have hnm := (name_of_methodNamed Bd.named Bd.method).1
  have hlk := Bd.notSynchronized
  have X0 : Stand p l e ({ frames := 0, cells := 0, slots := 0, locals := 0 } : Room) s m #[(.long p1)] below meth c s₁ [] 0 0 := Stand.of_body Bd
  have e0 : s₁.heap = h0 := by rw [← hh, Bd.state]; rfl
  have N0 := Fr.nil n0
  show own_Goes p e below (fun o U' => ∃ v L, o = .returned v ∧ Q11 Z p1 h0 n0 v U'.heap L ∧ FrameEnd s o U' L ({ frames := 0, cells := 0, slots := 0, locals := 0 } : Room).cells ({ frames := 0, cells := 0, slots := 0, locals := 0 } : Room).slots) s₁ (entryFrame m #[(.long p1)] 5)
  refine own_st (T' := s₁) (g' := mkF m 0 #[own_jv p1, .second, .unset, .unset, .unset] []) (fun _ k => castTop (own_ef11 m p1) k) ?_
  have loop : ∀ (k : Nat) (T : State) (Lc : List Loc) (X : Stand p l e ({ frames := 0, cells := 0, slots := 0, locals := 0 } : Room) s m #[(.long p1)] below meth c T Lc 0 0) (eT : T.heap = h0) (NL : Fr n0 Lc) (v2 : Int32) (v3 : Int64), own_u v3 < 128 * 128 ^ k → own_f11_0 p1 = own_sz (k + 1) v2 v3 → own_Goes p e below (fun o U' => ∃ v L, o = .returned v ∧ Q11 Z p1 h0 n0 v U'.heap L ∧ FrameEnd s o U' L ({ frames := 0, cells := 0, slots := 0, locals := 0 } : Room).cells ({ frames := 0, cells := 0, slots := 0, locals := 0 } : Room).slots) T (mkF m 11 #[own_jv p1, .second, iv v2, own_jv v3, .second] []) := by
    intro k
    induction k with
    | zero =>
      intro T Lc X eT NL v2 v3 hu hf
      refine own_st (T' := T) (g' := (mkF m 12 #[own_jv p1, .second, iv v2, own_jv v3, .second] [(.long v3)])) (fun _ k => XS.lloadN X.here hx rfl (hb hby d11_11) rfl k) ?_
      refine own_st (T' := T) (g' := (mkF m 15 #[own_jv p1, .second, iv v2, own_jv v3, .second] [(.long (-128 : Int64)), (.long v3)])) (fun _ k => (X.ldc2Long hx hown (mvT hZ (hw _ (List.mem_of_getElem? (i := 72) rfl))) (g := (mkF m 12 #[own_jv p1, .second, iv v2, own_jv v3, .second] [(.long v3)])) rfl (hb hby d11_12)) _ k) ?_
      refine own_st (T' := T) (g' := (mkF m 16 #[own_jv p1, .second, iv v2, own_jv v3, .second] [(.long (v3 &&& (-128 : Int64)))])) (fun _ k => XS.land X.here hx rfl (hb hby d11_15) rfl k) ?_
      refine own_st (T' := T) (g' := (mkF m 17 #[own_jv p1, .second, iv v2, own_jv v3, .second] [(.long (0 : Int64)), (.long (v3 &&& (-128 : Int64)))])) (fun _ k => XS.lconst X.here hx rfl (hb hby d11_16) k) ?_
      refine own_st (T' := T) (g' := (mkF m 18 #[own_jv p1, .second, iv v2, own_jv v3, .second] [(.int (lcmpW (v3 &&& (-128 : Int64)) (0 : Int64)))])) (fun _ k => XS.lcmp X.here hx rfl (hb hby d11_17) rfl k) ?_
      have hf := hf.trans (if_pos (own_leave v3 hu))
      refine own_st (T' := T) (g' := (mkF m 32 #[own_jv p1, .second, iv v2, own_jv v3, .second] [])) (fun _ k => XS.ifYes X.here hx rfl (pc0 := 18) (pc' := 32) rfl (hb hby d11_18) rfl ((if0 _ _).trans (teq (own_leave v3 hu)).1) (by decide) (by decide) k) ?_
      refine own_st (T' := T) (g' := (mkF m 33 #[own_jv p1, .second, iv v2, own_jv v3, .second] [(.int v2)])) (fun _ k => XS.iloadN X.here hx rfl (hb hby d11_32) rfl k) ?_
      exact own_end (Q := Q11 Z p1 h0 n0) (v := some (.int v2)) X (fun h => by rw [Bd.returns] at h; cases h) (fun fs hr => retI X hx Bd.returns (hb hby d11_33) hr) (⟨congrArg (fun z => some (Value.int z)) hf.symm, NL, eT⟩) (by decide) (by decide)
    | succ k ih =>
      intro T Lc X eT NL v2 v3 hu hf
      refine own_st (T' := T) (g' := (mkF m 12 #[own_jv p1, .second, iv v2, own_jv v3, .second] [(.long v3)])) (fun _ k => XS.lloadN X.here hx rfl (hb hby d11_11) rfl k) ?_
      refine own_st (T' := T) (g' := (mkF m 15 #[own_jv p1, .second, iv v2, own_jv v3, .second] [(.long (-128 : Int64)), (.long v3)])) (fun _ k => (X.ldc2Long hx hown (mvT hZ (hw _ (List.mem_of_getElem? (i := 72) rfl))) (g := (mkF m 12 #[own_jv p1, .second, iv v2, own_jv v3, .second] [(.long v3)])) rfl (hb hby d11_12)) _ k) ?_
      refine own_st (T' := T) (g' := (mkF m 16 #[own_jv p1, .second, iv v2, own_jv v3, .second] [(.long (v3 &&& (-128 : Int64)))])) (fun _ k => XS.land X.here hx rfl (hb hby d11_15) rfl k) ?_
      refine own_st (T' := T) (g' := (mkF m 17 #[own_jv p1, .second, iv v2, own_jv v3, .second] [(.long (0 : Int64)), (.long (v3 &&& (-128 : Int64)))])) (fun _ k => XS.lconst X.here hx rfl (hb hby d11_16) k) ?_
      refine own_st (T' := T) (g' := (mkF m 18 #[own_jv p1, .second, iv v2, own_jv v3, .second] [(.int (lcmpW (v3 &&& (-128 : Int64)) (0 : Int64)))])) (fun _ k => XS.lcmp X.here hx rfl (hb hby d11_17) rfl k) ?_
      by_cases hc18 : (lcmpW (v3 &&& (-128 : Int64)) (0 : Int64)) = (0 : Int32)
      · have hf := hf.trans (if_pos hc18)
        refine own_st (T' := T) (g' := (mkF m 32 #[own_jv p1, .second, iv v2, own_jv v3, .second] [])) (fun _ k => XS.ifYes X.here hx rfl (pc0 := 18) (pc' := 32) rfl (hb hby d11_18) rfl ((if0 _ _).trans (teq hc18).1) (by decide) (by decide) k) ?_
        refine own_st (T' := T) (g' := (mkF m 33 #[own_jv p1, .second, iv v2, own_jv v3, .second] [(.int v2)])) (fun _ k => XS.iloadN X.here hx rfl (hb hby d11_32) rfl k) ?_
        exact own_end (Q := Q11 Z p1 h0 n0) (v := some (.int v2)) X (fun h => by rw [Bd.returns] at h; cases h) (fun fs hr => retI X hx Bd.returns (hb hby d11_33) hr) (⟨congrArg (fun z => some (Value.int z)) hf.symm, NL, eT⟩) (by decide) (by decide)
      · have hf := hf.trans (if_neg hc18)
        refine own_st (T' := T) (g' := (mkF m 21 #[own_jv p1, .second, iv v2, own_jv v3, .second] [])) (fun _ k => XS.ifNo X.here hx rfl (hb hby d11_18) rfl ((if0 _ _).trans (feq hc18).1) k) ?_
        refine own_st (T' := T) (g' := (mkF m 24 #[own_jv p1, .second, iv (v2 + (1 : Int32)), own_jv v3, .second] [])) (fun _ k => XS.iinc X.here hx rfl (hb hby d11_21) rfl (l' := #[own_jv p1, .second, iv (v2 + (1 : Int32)), own_jv v3, .second]) rfl k) ?_
        refine own_st (T' := T) (g' := (mkF m 25 #[own_jv p1, .second, iv (v2 + (1 : Int32)), own_jv v3, .second] [(.long v3)])) (fun _ k => XS.lloadN X.here hx rfl (hb hby d11_24) rfl k) ?_
        refine own_st (T' := T) (g' := (mkF m 27 #[own_jv p1, .second, iv (v2 + (1 : Int32)), own_jv v3, .second] [(.int (7 : Int32)), (.long v3)])) (fun _ k => XS.bipush X.here hx rfl (hb hby d11_25) k) ?_
        refine own_st (T' := T) (g' := (mkF m 28 #[own_jv p1, .second, iv (v2 + (1 : Int32)), own_jv v3, .second] [(.long (((v3).toUInt64 >>> ((7 : Int32) &&& 0x3f).toInt64.toUInt64).toInt64))])) (fun _ k => XS.lushr X.here hx rfl (hb hby d11_27) rfl k) ?_
        refine own_st (T' := T) (g' := (mkF m 29 #[own_jv p1, .second, iv (v2 + (1 : Int32)), own_jv (((v3).toUInt64 >>> ((7 : Int32) &&& 0x3f).toInt64.toUInt64).toInt64), .second] [])) (fun _ k => XS.lstoreN X.here hx rfl (hb hby d11_28) rfl (l' := #[own_jv p1, .second, iv (v2 + (1 : Int32)), own_jv (((v3).toUInt64 >>> ((7 : Int32) &&& 0x3f).toInt64.toUInt64).toInt64), .second]) rfl k) ?_
        refine own_st (T' := T) (g' := (mkF m 11 #[own_jv p1, .second, iv (v2 + (1 : Int32)), own_jv (((v3).toUInt64 >>> ((7 : Int32) &&& 0x3f).toInt64.toUInt64).toInt64), .second] [])) (fun _ k => XS.goto X.here hx rfl (pc0 := 29) (pc' := 11) rfl (hb hby d11_29) (by decide) (by decide) k) ?_
        exact ih T _ X eT NL _ _ (own_next k v3 hu) hf
  have hf : own_f11_0 p1 = own_f11_0 p1 := rfl
  refine own_st (T' := s₁) (g' := (mkF m 1 #[own_jv p1, .second, .unset, .unset, .unset] [(.int (1 : Int32))])) (fun _ k => XS.iconst X0.here hx rfl (hb hby d11_0) k) ?_
  refine own_st (T' := s₁) (g' := (mkF m 2 #[own_jv p1, .second, iv (1 : Int32), .unset, .unset] [])) (fun _ k => XS.istoreN X0.here hx rfl (hb hby d11_1) rfl (l' := #[own_jv p1, .second, iv (1 : Int32), .unset, .unset]) rfl k) ?_
  refine own_st (T' := s₁) (g' := (mkF m 3 #[own_jv p1, .second, iv (1 : Int32), .unset, .unset] [(.long p1)])) (fun _ k => XS.lloadN X0.here hx rfl (hb hby d11_2) rfl k) ?_
  refine own_st (T' := s₁) (g' := (mkF m 4 #[own_jv p1, .second, iv (1 : Int32), .unset, .unset] [(.int (1 : Int32)), (.long p1)])) (fun _ k => XS.iconst X0.here hx rfl (hb hby d11_3) k) ?_
  refine own_st (T' := s₁) (g' := (mkF m 5 #[own_jv p1, .second, iv (1 : Int32), .unset, .unset] [(.long ((p1 <<< ((1 : Int32) &&& 0x3f).toInt64)))])) (fun _ k => XS.lshl X0.here hx rfl (hb hby d11_4) rfl k) ?_
  refine own_st (T' := s₁) (g' := (mkF m 6 #[own_jv p1, .second, iv (1 : Int32), .unset, .unset] [(.long p1), (.long ((p1 <<< ((1 : Int32) &&& 0x3f).toInt64)))])) (fun _ k => XS.lloadN X0.here hx rfl (hb hby d11_5) rfl k) ?_
  refine own_st (T' := s₁) (g' := (mkF m 8 #[own_jv p1, .second, iv (1 : Int32), .unset, .unset] [(.int (63 : Int32)), (.long p1), (.long ((p1 <<< ((1 : Int32) &&& 0x3f).toInt64)))])) (fun _ k => XS.bipush X0.here hx rfl (hb hby d11_6) k) ?_
  refine own_st (T' := s₁) (g' := (mkF m 9 #[own_jv p1, .second, iv (1 : Int32), .unset, .unset] [(.long ((p1 >>> ((63 : Int32) &&& 0x3f).toInt64))), (.long ((p1 <<< ((1 : Int32) &&& 0x3f).toInt64)))])) (fun _ k => XS.lshr X0.here hx rfl (hb hby d11_8) rfl k) ?_
  refine own_st (T' := s₁) (g' := (mkF m 10 #[own_jv p1, .second, iv (1 : Int32), .unset, .unset] [(.long (((p1 <<< ((1 : Int32) &&& 0x3f).toInt64)) ^^^ ((p1 >>> ((63 : Int32) &&& 0x3f).toInt64))))])) (fun _ k => XS.lxor X0.here hx rfl (hb hby d11_9) rfl k) ?_
  refine own_st (T' := s₁) (g' := (mkF m 11 #[own_jv p1, .second, iv (1 : Int32), own_jv (((p1 <<< ((1 : Int32) &&& 0x3f).toInt64)) ^^^ ((p1 >>> ((63 : Int32) &&& 0x3f).toInt64))), .second] [])) (fun _ k => XS.lstoreN X0.here hx rfl (hb hby d11_10) rfl (l' := #[own_jv p1, .second, iv (1 : Int32), own_jv (((p1 <<< ((1 : Int32) &&& 0x3f).toInt64)) ^^^ ((p1 >>> ((63 : Int32) &&& 0x3f).toInt64))), .second]) rfl k) ?_
  exact loop 9 s₁ _ X0 e0 N0 _ _ (own_big _) hf
/-- how many bytes -/
def own_m : Nat → Int64 → Nat
  | 0, _ => 1
  | k + 1, r => if (lcmpW (r &&& (-128 : Int64)) (0 : Int64)) = (0 : Int32) then 1 else own_m k (own_sh r) + 1
theorem own_m1 : ∀ (k : Nat) (r : Int64), 1 ≤ own_m k r
  | 0, _ => Nat.le_refl _
  | k + 1, r => by
    show 1 ≤ (if (lcmpW (r &&& (-128 : Int64)) (0 : Int64)) = (0 : Int32) then 1 else own_m k (own_sh r) + 1)
    split <;> omega
theorem own_mk : ∀ (k : Nat) (r : Int64), own_u r < 128 * 128 ^ k → own_m (k + 1) r ≤ k + 1
  | 0, r, h => by rw [show own_m (0 + 1) r = 1 from if_pos (own_leave r h)]; exact Nat.le_refl _
  | k + 1, r, h => by
    show (if (lcmpW (r &&& (-128 : Int64)) (0 : Int64)) = (0 : Int32) then 1 else own_m (k + 1) (own_sh r) + 1) ≤ k + 1 + 1
    have := own_mk k (own_sh r) (own_next k r h)
    split <;> omega
theorem own_szm : ∀ (k : Nat) (s : Int32) (r : Int64), 0 ≤ s.toInt → s.toInt + k ≤ 1000 → (own_sz k s r).toInt = s.toInt + own_m k r - 1
  | 0, s, r, _, _ => by show s.toInt = s.toInt + (1 : Nat) - 1; omega
  | k + 1, s, r, h1, h2 => by
    show (if (lcmpW (r &&& (-128 : Int64)) (0 : Int64)) = (0 : Int32) then s else own_sz k (s + (1 : Int32)) (own_sh r)).toInt = s.toInt + (if (lcmpW (r &&& (-128 : Int64)) (0 : Int64)) = (0 : Int32) then 1 else own_m k (own_sh r) + 1 : Nat) - 1
    have e1 : (1 : Int32).toInt = 1 := rfl
    have a := own_add s 1 (by rw [e1]; omega) (by rw [e1]; omega)
    rw [e1] at a
    have i := own_szm k (s + 1) (own_sh r) (by omega) (by omega)
    split
    · omega
    · rw [i, a]; omega
theorem own_vl (v : Int64) : (own_f11_0 v).toInt = own_m 10 (own_zz v) ∧ 1 ≤ own_m 10 (own_zz v) ∧ own_m 10 (own_zz v) ≤ 10 := by
  have i := own_szm 10 (1 : Int32) (own_zz v) (by decide) (by decide)
  have e1 : (1 : Int32).toInt = 1 := rfl
  refine ⟨?_, own_m1 _ _, own_mk 9 _ (own_big _)⟩
  show (own_sz 10 (1 : Int32) (own_zz v)).toInt = _
  rw [i, e1]; omega
theorem own_two (z : Int64) (h1 : 0 ≤ z.toInt) (h2 : z.toInt < 16384) : own_m 10 z = if z.toInt < 128 then 1 else 2 := by
  have hu : own_u z = z.toInt := by unfold own_u; omega
  by_cases h : z.toInt < 128
  · rw [if_pos h]; exact if_pos ((own_low z).mpr (by omega))
  · rw [if_neg h]
    refine (if_neg (fun q => by have := (own_low z).mp q; omega)).trans ?_
    have hs := own_u_sh z
    rw [show own_m 9 (own_sh z) = 1 from if_pos ((own_low _).mpr (by omega))]
theorem own_i1 : (1 : Int32).toInt = 1 := rfl
theorem d26_0 : decode prog_128_method_21_code 0 = .ok (.iload_n 1, 1) := by decide +kernel
theorem d26_1 : decode prog_128_method_21_code 1 = .ok (.istore 4, 2) := by decide +kernel
theorem d26_3 : decode prog_128_method_21_code 3 = .ok (.lload_n 2, 1) := by decide +kernel
theorem d26_4 : decode prog_128_method_21_code 4 = .ok (.lstore 5, 2) := by decide +kernel
theorem d26_6 : decode prog_128_method_21_code 6 = .ok (.lload 5, 2) := by decide +kernel
theorem d26_8 : decode prog_128_method_21_code 8 = .ok (.ldc2_w 83, 3) := by decide +kernel
theorem d26_11 : decode prog_128_method_21_code 11 = .ok (.land, 1) := by decide +kernel
theorem d26_12 : decode prog_128_method_21_code 12 = .ok (.lconst 0, 1) := by decide +kernel
theorem d26_13 : decode prog_128_method_21_code 13 = .ok (.lcmp, 1) := by decide +kernel
theorem d26_14 : decode prog_128_method_21_code 14 = .ok (.ifCond .eq 32, 3) := by decide +kernel
theorem d26_17 : decode prog_128_method_21_code 17 = .ok (.aload_n 0, 1) := by decide +kernel
theorem d26_18 : decode prog_128_method_21_code 18 = .ok (.iload 4, 2) := by decide +kernel
theorem d26_20 : decode prog_128_method_21_code 20 = .ok (.iinc 4 1, 3) := by decide +kernel
theorem d26_23 : decode prog_128_method_21_code 23 = .ok (.lload 5, 2) := by decide +kernel
theorem d26_25 : decode prog_128_method_21_code 25 = .ok (.ldc2_w 85, 3) := by decide +kernel
theorem d26_28 : decode prog_128_method_21_code 28 = .ok (.land, 1) := by decide +kernel
theorem d26_29 : decode prog_128_method_21_code 29 = .ok (.ldc2_w 87, 3) := by decide +kernel
theorem d26_32 : decode prog_128_method_21_code 32 = .ok (.lor, 1) := by decide +kernel
theorem d26_33 : decode prog_128_method_21_code 33 = .ok (.l2i, 1) := by decide +kernel
theorem d26_34 : decode prog_128_method_21_code 34 = .ok (.i2b, 1) := by decide +kernel
theorem d26_35 : decode prog_128_method_21_code 35 = .ok (.bastore, 1) := by decide +kernel
theorem d26_36 : decode prog_128_method_21_code 36 = .ok (.lload 5, 2) := by decide +kernel
theorem d26_38 : decode prog_128_method_21_code 38 = .ok (.bipush 7, 2) := by decide +kernel
theorem d26_40 : decode prog_128_method_21_code 40 = .ok (.lushr, 1) := by decide +kernel
theorem d26_41 : decode prog_128_method_21_code 41 = .ok (.lstore 5, 2) := by decide +kernel
theorem d26_43 : decode prog_128_method_21_code 43 = .ok (.goto (-37), 3) := by decide +kernel
theorem d26_46 : decode prog_128_method_21_code 46 = .ok (.aload_n 0, 1) := by decide +kernel
theorem d26_47 : decode prog_128_method_21_code 47 = .ok (.iload 4, 2) := by decide +kernel
theorem d26_49 : decode prog_128_method_21_code 49 = .ok (.iinc 4 1, 3) := by decide +kernel
theorem d26_52 : decode prog_128_method_21_code 52 = .ok (.lload 5, 2) := by decide +kernel
theorem d26_54 : decode prog_128_method_21_code 54 = .ok (.l2i, 1) := by decide +kernel
theorem d26_55 : decode prog_128_method_21_code 55 = .ok (.i2b, 1) := by decide +kernel
theorem d26_56 : decode prog_128_method_21_code 56 = .ok (.bastore, 1) := by decide +kernel
theorem d26_57 : decode prog_128_method_21_code 57 = .ok (.iload 4, 2) := by decide +kernel
theorem d26_59 : decode prog_128_method_21_code 59 = .ok (.ireturn, 1) := by decide +kernel
theorem own_pn26 : plainName "com/example/millrace/millrace/wire/ProtocolWriter" = true := by first | (simp [plainName, overriddenIn]; done) | decide +kernel
theorem own_ef26 (m : MethodId) (x0 : Addr) (x1 : Int32) (x2 : Int64) : entryFrame m #[(.ref x0), (.int x1), (.long x2)] 7 = mkF m 0 #[rv x0, iv x1, own_jv x2, .second, .unset, .unset, .unset] [] := by first | (simp [entryFrame, mkF, argsToLocals, Value.category]; done) | rfl
def Q26 (Z : State) (a1 : Addr) (p2 : Int32) (p3 : Int64) (n : Int32) (h0 : Heap) (n0 : Nat) (v : Option Value) (h : Heap) (L : List Loc) : Prop := ∃ r, v = some (.int r) ∧ r.toInt = p2.toInt + own_m 10 p3 ∧ Fr n0 L ∧ Keep h0 h [a1] ∧ own_Y Z h a1 n
set_option maxRecDepth 65536 in
set_option maxHeartbeats 40000000 in
theorem rm26 (l : Launch) (Z : State) (a0 : Array Value) (hw : ∀ d ∈ tables_1, d.before a0 Z = true) (ws : List Jvm.Cond) (a1 : Addr) (p2 : Int32) (p3 : Int64) (n : Int32) (h0 : Heap) (n0 : Nat) (Z0 : n0 ≤ h0.size) (Y_a1 : own_Y Z h0 a1 n) (gn_a1 : n0 ≤ a1) (hat : 0 ≤ p2.toInt) (hroom : p2.toInt + own_m 10 p3 ≤ n.toInt) :
    MetFree l (⟨"com/example/millrace/millrace/wire/ProtocolWriter", "putLongUnsignedVarlong", "([BIJ)I"⟩ : MethodName) (head1 (Jvm.Cond.code (⟨"com/example/millrace/millrace/wire/ProtocolWriter", "putLongUnsignedVarlong", "([BIJ)I"⟩ : MethodName) prog_128_method_21_code 7 (some .int) :: ws) ({ frames := 0, cells := 0, slots := 0, locals := 0 } : Room)) (fun a U => a = #[(.ref a1), (.int p2), (.long p3)] ∧ Z.Warmed39 U.vm ∧ U.heap = h0) (fun _ _ _ _ _ => True) (fun _ U o U' => ∃ v L, o = .returned v ∧ Q26 Z a1 p2 p3 n h0 n0 v U'.heap L ∧ FrameEnd U o U' L ({ frames := 0, cells := 0, slots := 0, locals := 0 } : Room).cells ({ frames := 0, cells := 0, slots := 0, locals := 0 } : Room).slots) := by
  refine MetFree.of_bodySF (plainFor_of_name own_pn26) hisR ?_
  intro p e s m args below meth c s₁ Bd hml0 hP hK
  obtain ⟨rfl, hZ, hh⟩ := hP
  have hx := Bd.exec
  have hby := Bd.bytes
  have hml : c.maxLocals = 7 := hml0
  have hown : s.vm.findClass "com/example/millrace/millrace/wire/ProtocolWriter" = some m.cls := findClass_of_methodNamed Bd.named
  have hnm := (name_of_methodNamed Bd.named Bd.method).1
  have hlk := Bd.notSynchronized
  have X0 : Stand p l e ({ frames := 0, cells := 0, slots := 0, locals := 0 } : Room) s m #[(.ref a1), (.int p2), (.long p3)] below meth c s₁ [] 0 0 := Stand.of_body Bd
  have e0 : s₁.heap = h0 := by rw [← hh, Bd.state]; rfl
  have N0 := Fr.nil n0
  show own_Goes p e below (fun o U' => ∃ v L, o = .returned v ∧ Q26 Z a1 p2 p3 n h0 n0 v U'.heap L ∧ FrameEnd s o U' L ({ frames := 0, cells := 0, slots := 0, locals := 0 } : Room).cells ({ frames := 0, cells := 0, slots := 0, locals := 0 } : Room).slots) s₁ (entryFrame m #[(.ref a1), (.int p2), (.long p3)] 7)
  refine own_st (T' := s₁) (g' := mkF m 0 #[rv a1, iv p2, own_jv p3, .second, .unset, .unset, .unset] []) (fun _ k => castTop (own_ef26 m a1 p2 p3) k) ?_
  have loop : ∀ (k : Nat) (T : State) (hh1 : Heap) (Lc : List Loc) (X : Stand p l e ({ frames := 0, cells := 0, slots := 0, locals := 0 } : Room) s m #[(.ref a1), (.int p2), (.long p3)] below meth c T Lc 0 0) (eT : T.heap = hh1) (NL : Fr n0 Lc) (Zh : n0 ≤ hh1.size) (Kp : Keep h0 hh1 [a1]) (Yt : own_Y Z hh1 a1 n) (v4 : Int32) (v5 : Int64), own_u v5 < 128 * 128 ^ k → 0 ≤ v4.toInt → v4.toInt + own_m (k + 1) v5 = p2.toInt + own_m 10 p3 → own_Goes p e below (fun o U' => ∃ v L, o = .returned v ∧ Q26 Z a1 p2 p3 n h0 n0 v U'.heap L ∧ FrameEnd s o U' L ({ frames := 0, cells := 0, slots := 0, locals := 0 } : Room).cells ({ frames := 0, cells := 0, slots := 0, locals := 0 } : Room).slots) T (mkF m 6 #[rv a1, iv p2, own_jv p3, .second, iv v4, own_jv v5, .second] []) := by
    intro k
    induction k with
    | zero =>
      intro T hh1 Lc X eT NL Zh Kp Yt v4 v5 hu h4 ht
      have hm : own_m (0 + 1) v5 = 1 := if_pos (own_leave v5 hu)
      refine own_st (T' := T) (g' := (mkF m 8 #[rv a1, iv p2, own_jv p3, .second, iv v4, own_jv v5, .second] [(.long v5)])) (fun _ k => XS.lload X.here hx rfl (hb hby d26_6) rfl k) ?_
      refine own_st (T' := T) (g' := (mkF m 11 #[rv a1, iv p2, own_jv p3, .second, iv v4, own_jv v5, .second] [(.long (-128 : Int64)), (.long v5)])) (fun _ k => (X.ldc2Long hx hown (mvT hZ (hw _ (List.mem_of_getElem? (i := 72) rfl))) (g := (mkF m 8 #[rv a1, iv p2, own_jv p3, .second, iv v4, own_jv v5, .second] [(.long v5)])) rfl (hb hby d26_8)) _ k) ?_
      refine own_st (T' := T) (g' := (mkF m 12 #[rv a1, iv p2, own_jv p3, .second, iv v4, own_jv v5, .second] [(.long (v5 &&& (-128 : Int64)))])) (fun _ k => XS.land X.here hx rfl (hb hby d26_11) rfl k) ?_
      refine own_st (T' := T) (g' := (mkF m 13 #[rv a1, iv p2, own_jv p3, .second, iv v4, own_jv v5, .second] [(.long (0 : Int64)), (.long (v5 &&& (-128 : Int64)))])) (fun _ k => XS.lconst X.here hx rfl (hb hby d26_12) k) ?_
      refine own_st (T' := T) (g' := (mkF m 14 #[rv a1, iv p2, own_jv p3, .second, iv v4, own_jv v5, .second] [(.int (lcmpW (v5 &&& (-128 : Int64)) (0 : Int64)))])) (fun _ k => XS.lcmp X.here hx rfl (hb hby d26_13) rfl k) ?_
      refine own_st (T' := T) (g' := (mkF m 46 #[rv a1, iv p2, own_jv p3, .second, iv v4, own_jv v5, .second] [])) (fun _ k => XS.ifYes X.here hx rfl (pc0 := 14) (pc' := 46) rfl (hb hby d26_14) rfl ((if0 _ _).trans (teq (own_leave v5 hu)).1) (by decide) (by decide) k) ?_
      refine own_st (T' := T) (g' := (mkF m 47 #[rv a1, iv p2, own_jv p3, .second, iv v4, own_jv v5, .second] [(.ref a1)])) (fun _ k => XS.aloadN X.here hx rfl (hb hby d26_46) rfl rfl k) ?_
      refine own_st (T' := T) (g' := (mkF m 49 #[rv a1, iv p2, own_jv p3, .second, iv v4, own_jv v5, .second] [(.int v4), (.ref a1)])) (fun _ k => XS.iload X.here hx rfl (hb hby d26_47) rfl k) ?_
      refine own_st (T' := T) (g' := (mkF m 52 #[rv a1, iv p2, own_jv p3, .second, iv (v4 + (1 : Int32)), own_jv v5, .second] [(.int v4), (.ref a1)])) (fun _ k => XS.iinc X.here hx rfl (hb hby d26_49) rfl (l' := #[rv a1, iv p2, own_jv p3, .second, iv (v4 + (1 : Int32)), own_jv v5, .second]) rfl k) ?_
      refine own_st (T' := T) (g' := (mkF m 54 #[rv a1, iv p2, own_jv p3, .second, iv (v4 + (1 : Int32)), own_jv v5, .second] [(.long v5), (.int v4), (.ref a1)])) (fun _ k => XS.lload X.here hx rfl (hb hby d26_52) rfl k) ?_
      refine own_st (T' := T) (g' := (mkF m 55 #[rv a1, iv p2, own_jv p3, .second, iv (v4 + (1 : Int32)), own_jv v5, .second] [(.int ((v5).toInt32)), (.int v4), (.ref a1)])) (fun _ k => XS.l2i X.here hx rfl (hb hby d26_54) rfl k) ?_
      refine own_st (T' := T) (g' := (mkF m 56 #[rv a1, iv p2, own_jv p3, .second, iv (v4 + (1 : Int32)), own_jv v5, .second] [(.int ((((v5).toInt32)).toInt8.toInt32)), (.int v4), (.ref a1)])) (fun _ k => XS.i2b X.here hx rfl (hb hby d26_55) rfl k) ?_
      obtain ⟨T1, h1, lc1, X1, e1, N1, ⟨sl1, vv1, W1⟩, Yn1, st1⟩ := own_stB X hx hZ eT Yt (j := v4) (x := ((((v5).toInt32)).toInt8.toInt32)) (own_in v4 n h4 (by omega)) NL gn_a1 (g := (mkF m 56 #[rv a1, iv p2, own_jv p3, .second, iv (v4 + (1 : Int32)), own_jv v5, .second] [(.int ((((v5).toInt32)).toInt8.toInt32)), (.int v4), (.ref a1)])) rfl rfl (hb hby d26_56)
      have Zs1 : n0 ≤ h1.size := Nat.le_trans Zh (Keep.of_wr W1).1
      have Ke1 : Keep h0 h1 [a1] := Kp.wr W1 (Or.inl (List.mem_of_getElem? (i := 0) rfl))
      refine own_st (T' := T1) (g' := (mkF m 57 #[rv a1, iv p2, own_jv p3, .second, iv (v4 + (1 : Int32)), own_jv v5, .second] [])) (fun _ k => (st1) _ k) ?_
      refine own_st (T' := T1) (g' := (mkF m 59 #[rv a1, iv p2, own_jv p3, .second, iv (v4 + (1 : Int32)), own_jv v5, .second] [(.int (v4 + (1 : Int32)))])) (fun _ k => XS.iload X1.here hx rfl (hb hby d26_57) rfl k) ?_
      exact own_end (Q := Q26 Z a1 p2 p3 n h0 n0) (v := some (.int (v4 + (1 : Int32)))) X1 (fun h => by rw [Bd.returns] at h; cases h) (fun fs hr => retI X1 hx Bd.returns (hb hby d26_59) hr) (by rw [e1]; exact ⟨_, rfl, by rw [own_add v4 1 (by rw [own_i1]; omega) (by rw [own_i1]; have := rng32 n; omega), own_i1]; omega, N1, Ke1, Yn1⟩) (by decide) (by decide)
    | succ k ih =>
      intro T hh1 Lc X eT NL Zh Kp Yt v4 v5 hu h4 ht
      have hm1 := own_m1 (k + 1) (own_sh v5)
      refine own_st (T' := T) (g' := (mkF m 8 #[rv a1, iv p2, own_jv p3, .second, iv v4, own_jv v5, .second] [(.long v5)])) (fun _ k => XS.lload X.here hx rfl (hb hby d26_6) rfl k) ?_
      refine own_st (T' := T) (g' := (mkF m 11 #[rv a1, iv p2, own_jv p3, .second, iv v4, own_jv v5, .second] [(.long (-128 : Int64)), (.long v5)])) (fun _ k => (X.ldc2Long hx hown (mvT hZ (hw _ (List.mem_of_getElem? (i := 72) rfl))) (g := (mkF m 8 #[rv a1, iv p2, own_jv p3, .second, iv v4, own_jv v5, .second] [(.long v5)])) rfl (hb hby d26_8)) _ k) ?_
      refine own_st (T' := T) (g' := (mkF m 12 #[rv a1, iv p2, own_jv p3, .second, iv v4, own_jv v5, .second] [(.long (v5 &&& (-128 : Int64)))])) (fun _ k => XS.land X.here hx rfl (hb hby d26_11) rfl k) ?_
      refine own_st (T' := T) (g' := (mkF m 13 #[rv a1, iv p2, own_jv p3, .second, iv v4, own_jv v5, .second] [(.long (0 : Int64)), (.long (v5 &&& (-128 : Int64)))])) (fun _ k => XS.lconst X.here hx rfl (hb hby d26_12) k) ?_
      refine own_st (T' := T) (g' := (mkF m 14 #[rv a1, iv p2, own_jv p3, .second, iv v4, own_jv v5, .second] [(.int (lcmpW (v5 &&& (-128 : Int64)) (0 : Int64)))])) (fun _ k => XS.lcmp X.here hx rfl (hb hby d26_13) rfl k) ?_
      by_cases hc14 : (lcmpW (v5 &&& (-128 : Int64)) (0 : Int64)) = (0 : Int32)
      · refine own_st (T' := T) (g' := (mkF m 46 #[rv a1, iv p2, own_jv p3, .second, iv v4, own_jv v5, .second] [])) (fun _ k => XS.ifYes X.here hx rfl (pc0 := 14) (pc' := 46) rfl (hb hby d26_14) rfl ((if0 _ _).trans (teq hc14).1) (by decide) (by decide) k) ?_
        have hm : own_m (k + 1 + 1) v5 = 1 := if_pos hc14
        refine own_st (T' := T) (g' := (mkF m 47 #[rv a1, iv p2, own_jv p3, .second, iv v4, own_jv v5, .second] [(.ref a1)])) (fun _ k => XS.aloadN X.here hx rfl (hb hby d26_46) rfl rfl k) ?_
        refine own_st (T' := T) (g' := (mkF m 49 #[rv a1, iv p2, own_jv p3, .second, iv v4, own_jv v5, .second] [(.int v4), (.ref a1)])) (fun _ k => XS.iload X.here hx rfl (hb hby d26_47) rfl k) ?_
        refine own_st (T' := T) (g' := (mkF m 52 #[rv a1, iv p2, own_jv p3, .second, iv (v4 + (1 : Int32)), own_jv v5, .second] [(.int v4), (.ref a1)])) (fun _ k => XS.iinc X.here hx rfl (hb hby d26_49) rfl (l' := #[rv a1, iv p2, own_jv p3, .second, iv (v4 + (1 : Int32)), own_jv v5, .second]) rfl k) ?_
        refine own_st (T' := T) (g' := (mkF m 54 #[rv a1, iv p2, own_jv p3, .second, iv (v4 + (1 : Int32)), own_jv v5, .second] [(.long v5), (.int v4), (.ref a1)])) (fun _ k => XS.lload X.here hx rfl (hb hby d26_52) rfl k) ?_
        refine own_st (T' := T) (g' := (mkF m 55 #[rv a1, iv p2, own_jv p3, .second, iv (v4 + (1 : Int32)), own_jv v5, .second] [(.int ((v5).toInt32)), (.int v4), (.ref a1)])) (fun _ k => XS.l2i X.here hx rfl (hb hby d26_54) rfl k) ?_
        refine own_st (T' := T) (g' := (mkF m 56 #[rv a1, iv p2, own_jv p3, .second, iv (v4 + (1 : Int32)), own_jv v5, .second] [(.int ((((v5).toInt32)).toInt8.toInt32)), (.int v4), (.ref a1)])) (fun _ k => XS.i2b X.here hx rfl (hb hby d26_55) rfl k) ?_
        obtain ⟨T2, h2, lc2, X2, e2, N2, ⟨sl2, vv2, W2⟩, Yn2, st2⟩ := own_stB X hx hZ eT Yt (j := v4) (x := ((((v5).toInt32)).toInt8.toInt32)) (own_in v4 n h4 (by omega)) NL gn_a1 (g := (mkF m 56 #[rv a1, iv p2, own_jv p3, .second, iv (v4 + (1 : Int32)), own_jv v5, .second] [(.int ((((v5).toInt32)).toInt8.toInt32)), (.int v4), (.ref a1)])) rfl rfl (hb hby d26_56)
        have Zs2 : n0 ≤ h2.size := Nat.le_trans Zh (Keep.of_wr W2).1
        have Ke2 : Keep h0 h2 [a1] := Kp.wr W2 (Or.inl (List.mem_of_getElem? (i := 0) rfl))
        refine own_st (T' := T2) (g' := (mkF m 57 #[rv a1, iv p2, own_jv p3, .second, iv (v4 + (1 : Int32)), own_jv v5, .second] [])) (fun _ k => (st2) _ k) ?_
        refine own_st (T' := T2) (g' := (mkF m 59 #[rv a1, iv p2, own_jv p3, .second, iv (v4 + (1 : Int32)), own_jv v5, .second] [(.int (v4 + (1 : Int32)))])) (fun _ k => XS.iload X2.here hx rfl (hb hby d26_57) rfl k) ?_
        exact own_end (Q := Q26 Z a1 p2 p3 n h0 n0) (v := some (.int (v4 + (1 : Int32)))) X2 (fun h => by rw [Bd.returns] at h; cases h) (fun fs hr => retI X2 hx Bd.returns (hb hby d26_59) hr) (by rw [e2]; exact ⟨_, rfl, by rw [own_add v4 1 (by rw [own_i1]; omega) (by rw [own_i1]; have := rng32 n; omega), own_i1]; omega, N2, Ke2, Yn2⟩) (by decide) (by decide)
      · refine own_st (T' := T) (g' := (mkF m 17 #[rv a1, iv p2, own_jv p3, .second, iv v4, own_jv v5, .second] [])) (fun _ k => XS.ifNo X.here hx rfl (hb hby d26_14) rfl ((if0 _ _).trans (feq hc14).1) k) ?_
        have hm : own_m (k + 1 + 1) v5 = own_m (k + 1) (own_sh v5) + 1 := if_neg hc14
        refine own_st (T' := T) (g' := (mkF m 18 #[rv a1, iv p2, own_jv p3, .second, iv v4, own_jv v5, .second] [(.ref a1)])) (fun _ k => XS.aloadN X.here hx rfl (hb hby d26_17) rfl rfl k) ?_
        refine own_st (T' := T) (g' := (mkF m 20 #[rv a1, iv p2, own_jv p3, .second, iv v4, own_jv v5, .second] [(.int v4), (.ref a1)])) (fun _ k => XS.iload X.here hx rfl (hb hby d26_18) rfl k) ?_
        refine own_st (T' := T) (g' := (mkF m 23 #[rv a1, iv p2, own_jv p3, .second, iv (v4 + (1 : Int32)), own_jv v5, .second] [(.int v4), (.ref a1)])) (fun _ k => XS.iinc X.here hx rfl (hb hby d26_20) rfl (l' := #[rv a1, iv p2, own_jv p3, .second, iv (v4 + (1 : Int32)), own_jv v5, .second]) rfl k) ?_
        refine own_st (T' := T) (g' := (mkF m 25 #[rv a1, iv p2, own_jv p3, .second, iv (v4 + (1 : Int32)), own_jv v5, .second] [(.long v5), (.int v4), (.ref a1)])) (fun _ k => XS.lload X.here hx rfl (hb hby d26_23) rfl k) ?_
        refine own_st (T' := T) (g' := (mkF m 28 #[rv a1, iv p2, own_jv p3, .second, iv (v4 + (1 : Int32)), own_jv v5, .second] [(.long (127 : Int64)), (.long v5), (.int v4), (.ref a1)])) (fun _ k => (X.ldc2Long hx hown (mvT hZ (hw _ (List.mem_of_getElem? (i := 130) rfl))) (g := (mkF m 25 #[rv a1, iv p2, own_jv p3, .second, iv (v4 + (1 : Int32)), own_jv v5, .second] [(.long v5), (.int v4), (.ref a1)])) rfl (hb hby d26_25)) _ k) ?_
        refine own_st (T' := T) (g' := (mkF m 29 #[rv a1, iv p2, own_jv p3, .second, iv (v4 + (1 : Int32)), own_jv v5, .second] [(.long (v5 &&& (127 : Int64))), (.int v4), (.ref a1)])) (fun _ k => XS.land X.here hx rfl (hb hby d26_28) rfl k) ?_
        refine own_st (T' := T) (g' := (mkF m 32 #[rv a1, iv p2, own_jv p3, .second, iv (v4 + (1 : Int32)), own_jv v5, .second] [(.long (128 : Int64)), (.long (v5 &&& (127 : Int64))), (.int v4), (.ref a1)])) (fun _ k => (X.ldc2Long hx hown (mvT hZ (hw _ (List.mem_of_getElem? (i := 131) rfl))) (g := (mkF m 29 #[rv a1, iv p2, own_jv p3, .second, iv (v4 + (1 : Int32)), own_jv v5, .second] [(.long (v5 &&& (127 : Int64))), (.int v4), (.ref a1)])) rfl (hb hby d26_29)) _ k) ?_
        refine own_st (T' := T) (g' := (mkF m 33 #[rv a1, iv p2, own_jv p3, .second, iv (v4 + (1 : Int32)), own_jv v5, .second] [(.long ((v5 &&& (127 : Int64)) ||| (128 : Int64))), (.int v4), (.ref a1)])) (fun _ k => XS.lor X.here hx rfl (hb hby d26_32) rfl k) ?_
        refine own_st (T' := T) (g' := (mkF m 34 #[rv a1, iv p2, own_jv p3, .second, iv (v4 + (1 : Int32)), own_jv v5, .second] [(.int ((((v5 &&& (127 : Int64)) ||| (128 : Int64))).toInt32)), (.int v4), (.ref a1)])) (fun _ k => XS.l2i X.here hx rfl (hb hby d26_33) rfl k) ?_
        refine own_st (T' := T) (g' := (mkF m 35 #[rv a1, iv p2, own_jv p3, .second, iv (v4 + (1 : Int32)), own_jv v5, .second] [(.int ((((((v5 &&& (127 : Int64)) ||| (128 : Int64))).toInt32)).toInt8.toInt32)), (.int v4), (.ref a1)])) (fun _ k => XS.i2b X.here hx rfl (hb hby d26_34) rfl k) ?_
        obtain ⟨T3, h3, lc3, X3, e3, N3, ⟨sl3, vv3, W3⟩, Yn3, st3⟩ := own_stB X hx hZ eT Yt (j := v4) (x := ((((((v5 &&& (127 : Int64)) ||| (128 : Int64))).toInt32)).toInt8.toInt32)) (own_in v4 n h4 (by omega)) NL gn_a1 (g := (mkF m 35 #[rv a1, iv p2, own_jv p3, .second, iv (v4 + (1 : Int32)), own_jv v5, .second] [(.int ((((((v5 &&& (127 : Int64)) ||| (128 : Int64))).toInt32)).toInt8.toInt32)), (.int v4), (.ref a1)])) rfl rfl (hb hby d26_35)
        have Zs3 : n0 ≤ h3.size := Nat.le_trans Zh (Keep.of_wr W3).1
        have Ke3 : Keep h0 h3 [a1] := Kp.wr W3 (Or.inl (List.mem_of_getElem? (i := 0) rfl))
        refine own_st (T' := T3) (g' := (mkF m 36 #[rv a1, iv p2, own_jv p3, .second, iv (v4 + (1 : Int32)), own_jv v5, .second] [])) (fun _ k => (st3) _ k) ?_
        refine own_st (T' := T3) (g' := (mkF m 38 #[rv a1, iv p2, own_jv p3, .second, iv (v4 + (1 : Int32)), own_jv v5, .second] [(.long v5)])) (fun _ k => XS.lload X3.here hx rfl (hb hby d26_36) rfl k) ?_
        refine own_st (T' := T3) (g' := (mkF m 40 #[rv a1, iv p2, own_jv p3, .second, iv (v4 + (1 : Int32)), own_jv v5, .second] [(.int (7 : Int32)), (.long v5)])) (fun _ k => XS.bipush X3.here hx rfl (hb hby d26_38) k) ?_
        refine own_st (T' := T3) (g' := (mkF m 41 #[rv a1, iv p2, own_jv p3, .second, iv (v4 + (1 : Int32)), own_jv v5, .second] [(.long (((v5).toUInt64 >>> ((7 : Int32) &&& 0x3f).toInt64.toUInt64).toInt64))])) (fun _ k => XS.lushr X3.here hx rfl (hb hby d26_40) rfl k) ?_
        refine own_st (T' := T3) (g' := (mkF m 43 #[rv a1, iv p2, own_jv p3, .second, iv (v4 + (1 : Int32)), own_jv (((v5).toUInt64 >>> ((7 : Int32) &&& 0x3f).toInt64.toUInt64).toInt64), .second] [])) (fun _ k => XS.lstore X3.here hx rfl (hb hby d26_41) rfl (l' := #[rv a1, iv p2, own_jv p3, .second, iv (v4 + (1 : Int32)), own_jv (((v5).toUInt64 >>> ((7 : Int32) &&& 0x3f).toInt64.toUInt64).toInt64), .second]) rfl k) ?_
        refine own_st (T' := T3) (g' := (mkF m 6 #[rv a1, iv p2, own_jv p3, .second, iv (v4 + (1 : Int32)), own_jv (((v5).toUInt64 >>> ((7 : Int32) &&& 0x3f).toInt64.toUInt64).toInt64), .second] [])) (fun _ k => XS.goto X3.here hx rfl (pc0 := 43) (pc' := 6) rfl (hb hby d26_43) (by decide) (by decide) k) ?_
        exact ih T3 _ _ X3 e3 N3 Zs3 Ke3 Yn3 _ (own_sh v5) (own_next k v5 hu) (by rw [own_add v4 1 (by rw [own_i1]; omega) (by rw [own_i1]; have := rng32 n; omega), own_i1]; omega) (by rw [own_add v4 1 (by rw [own_i1]; omega) (by rw [own_i1]; have := rng32 n; omega), own_i1]; omega)
  refine own_st (T' := s₁) (g' := (mkF m 1 #[rv a1, iv p2, own_jv p3, .second, .unset, .unset, .unset] [(.int p2)])) (fun _ k => XS.iloadN X0.here hx rfl (hb hby d26_0) rfl k) ?_
  refine own_st (T' := s₁) (g' := (mkF m 3 #[rv a1, iv p2, own_jv p3, .second, iv p2, .unset, .unset] [])) (fun _ k => XS.istore X0.here hx rfl (hb hby d26_1) rfl (l' := #[rv a1, iv p2, own_jv p3, .second, iv p2, .unset, .unset]) rfl k) ?_
  refine own_st (T' := s₁) (g' := (mkF m 4 #[rv a1, iv p2, own_jv p3, .second, iv p2, .unset, .unset] [(.long p3)])) (fun _ k => XS.lloadN X0.here hx rfl (hb hby d26_3) rfl k) ?_
  refine own_st (T' := s₁) (g' := (mkF m 6 #[rv a1, iv p2, own_jv p3, .second, iv p2, own_jv p3, .second] [])) (fun _ k => XS.lstore X0.here hx rfl (hb hby d26_4) rfl (l' := #[rv a1, iv p2, own_jv p3, .second, iv p2, own_jv p3, .second]) rfl k) ?_
  exact loop 9 s₁ _ _ X0 e0 N0 Z0 (Keep.refl _ _) Y_a1 _ _ (own_big _) hat rfl
theorem own_hm (x : Int32) (h0 : 0 ≤ x.toInt) (k : Nat) (hk : k ≤ 31) (m : Int32) (hm : m.toBitVec.toNat = 4294967296 - 2 ^ k) (h : x.toInt < 2 ^ k) : (x &&& m) = 0 := by
  have hx : (x.toBitVec.toNat : Int) = x.toInt := by
    have e : x.toInt = x.toBitVec.toInt := rfl
    rw [e, BitVec.toInt_eq_toNat_bmod] at h0 ⊢
    have hb := x.toBitVec.isLt
    rw [Int.bmod_def] at h0 ⊢
    split at h0 <;> rename_i q
    · rw [if_pos q]; omega
    · omega
  rw [← Int32.toBitVec_inj, Int32.toBitVec_and, ← BitVec.toNat_inj, BitVec.toNat_and, hm]
  have hlt : x.toBitVec.toNat < 2 ^ k := by
    have : ((x.toBitVec.toNat : Nat) : Int) < ((2 ^ k : Nat) : Int) := by rw [hx]; simpa using h
    exact Int.ofNat_lt.mp this
  show x.toBitVec.toNat &&& (4294967296 - 2 ^ k) = 0
  apply Nat.eq_of_testBit_eq
  intro i
  rw [Nat.testBit_and, Nat.zero_testBit]
  by_cases hi : i < k
  · have e2 : (4294967296 - 2 ^ k : Nat) = 2 ^ k * (2 ^ (32 - k) - 1) := by
      rw [Nat.mul_sub, ← Nat.pow_add, Nat.mul_one, show k + (32 - k) = 32 by omega]
    rw [e2, Nat.testBit_two_pow_mul]
    simp [show ¬ k ≤ i by omega]
  · rw [Nat.testBit_lt_two_pow (Nat.lt_of_lt_of_le hlt (Nat.pow_le_pow_right (by decide) (Nat.le_of_not_lt hi)))]
    simp
theorem own_hm' (x : Int32) (h0 : 0 ≤ x.toInt) (h : (x &&& (-128 : Int32)) = 0) : x.toInt < 128 := by
  have hx : (x.toBitVec.toNat : Int) = x.toInt := by
    have e : x.toInt = x.toBitVec.toInt := rfl
    rw [e, BitVec.toInt_eq_toNat_bmod] at h0 ⊢
    have hb := x.toBitVec.isLt
    rw [Int.bmod_def] at h0 ⊢
    split at h0 <;> rename_i q
    · rw [if_pos q]; omega
    · omega
  rw [← Int32.toBitVec_inj, Int32.toBitVec_and, ← BitVec.toNat_inj, BitVec.toNat_and] at h
  have e1 : (-128 : Int32).toBitVec.toNat = 4294967168 := by decide
  have e2 : (0 : Int32).toBitVec.toNat = 0 := by decide
  rw [e1, e2] at h
  have hb := x.toBitVec.isLt
  have q : ∀ i, 7 ≤ i → i < 32 → x.toBitVec.toNat.testBit i = false := fun i h7 h32 => by
    have t := congrArg (fun z => Nat.testBit z i) h
    have e3 : (4294967168 : Nat) = 2 ^ 7 * (2 ^ 25 - 1) := by decide
    simp only [Nat.testBit_and, Nat.zero_testBit, e3, Nat.testBit_two_pow_mul, Nat.testBit_two_pow_sub_one] at t
    simpa [h7, show i - 7 < 25 by omega] using t
  have hlt : x.toBitVec.toNat < 2 ^ 7 := by
    apply Nat.lt_pow_two_of_testBit
    intro i hi
    by_cases h32 : i < 32
    · exact q i hi h32
    · exact Nat.testBit_lt_two_pow (Nat.lt_of_lt_of_le hb (Nat.pow_le_pow_right (by decide) (Nat.le_of_not_lt h32)))
  have : (2 : Nat) ^ 7 = 128 := by decide
  omega
theorem own_su (x : Int32) (h0 : 0 ≤ x.toInt) (h : x.toInt < 16384) : (own_f13_0 x).toInt = if x.toInt < 128 then 1 else 2 := by
  by_cases q : x.toInt < 128
  · rw [if_pos q, show own_f13_0 x = 1 from if_pos (own_hm x h0 7 (by decide) (-128) (by decide) (by simpa using q))]; rfl
  · rw [if_neg q, show own_f13_0 x = own_f25_0 x from if_neg (fun z => q (own_hm' x h0 z)), show own_f25_0 x = 2 from (if_pos (own_hm x h0 14 (by decide) (-16384) (by decide) (by simpa using h))).trans rfl]; rfl
theorem own_ml (x : Int32) (h0 : 0 ≤ x.toInt) (h : x.toInt < 16384) : (own_m 10 ((x).toInt64 &&& (4294967295 : Int64)) : Int) = (own_f13_0 x).toInt := by
  have m := c_maskL x.toInt64 4294967295 32 (by decide) (by decide)
  have i := c_i2l x
  have e : (x.toInt64 &&& (4294967295 : Int64)).toInt = x.toInt := by rw [m, i]; omega
  rw [own_two _ (by omega) (by omega), own_su x h0 h, e]
  split <;> rfl
theorem d21_0 : decode prog_128_method_18_code 0 = .ok (.iload_n 2, 1) := by decide +kernel
theorem d21_1 : decode prog_128_method_18_code 1 = .ok (.bipush (-128), 2) := by decide +kernel
theorem d21_3 : decode prog_128_method_18_code 3 = .ok (.iand, 1) := by decide +kernel
theorem d21_4 : decode prog_128_method_18_code 4 = .ok (.ifCond .eq 15, 3) := by decide +kernel
theorem d21_7 : decode prog_128_method_18_code 7 = .ok (.aload_n 0, 1) := by decide +kernel
theorem d21_8 : decode prog_128_method_18_code 8 = .ok (.iload_n 1, 1) := by decide +kernel
theorem d21_9 : decode prog_128_method_18_code 9 = .ok (.iload_n 2, 1) := by decide +kernel
theorem d21_10 : decode prog_128_method_18_code 10 = .ok (.i2l, 1) := by decide +kernel
theorem d21_11 : decode prog_128_method_18_code 11 = .ok (.ldc2_w 78, 3) := by decide +kernel
theorem d21_14 : decode prog_128_method_18_code 14 = .ok (.land, 1) := by decide +kernel
theorem d21_15 : decode prog_128_method_18_code 15 = .ok (.invokestatic 80, 3) := by decide +kernel
theorem d21_18 : decode prog_128_method_18_code 18 = .ok (.ireturn, 1) := by decide +kernel
theorem d21_19 : decode prog_128_method_18_code 19 = .ok (.aload_n 0, 1) := by decide +kernel
theorem d21_20 : decode prog_128_method_18_code 20 = .ok (.iload_n 1, 1) := by decide +kernel
theorem d21_21 : decode prog_128_method_18_code 21 = .ok (.iload_n 2, 1) := by decide +kernel
theorem d21_22 : decode prog_128_method_18_code 22 = .ok (.i2b, 1) := by decide +kernel
theorem d21_23 : decode prog_128_method_18_code 23 = .ok (.bastore, 1) := by decide +kernel
theorem d21_24 : decode prog_128_method_18_code 24 = .ok (.iload_n 1, 1) := by decide +kernel
theorem d21_25 : decode prog_128_method_18_code 25 = .ok (.iconst 1, 1) := by decide +kernel
theorem d21_26 : decode prog_128_method_18_code 26 = .ok (.iadd, 1) := by decide +kernel
theorem d21_27 : decode prog_128_method_18_code 27 = .ok (.ireturn, 1) := by decide +kernel
theorem own_pn21 : plainName "com/example/millrace/millrace/wire/ProtocolWriter" = true := by first | (simp [plainName, overriddenIn]; done) | decide +kernel
theorem own_pd21_0 : parseMethodDescriptor "([BIJ)I" = some ⟨[(.array .byte), .int, .long], some .int⟩ := by decide +kernel
theorem own_ef21 (m : MethodId) (x0 : Addr) (x1 : Int32) (x2 : Int32) : entryFrame m #[(.ref x0), (.int x1), (.int x2)] 3 = mkF m 0 #[rv x0, iv x1, iv x2] [] := by first | (simp [entryFrame, mkF, argsToLocals, Value.category]; done) | rfl
def Q21 (Z : State) (a1 : Addr) (p2 : Int32) (p3 : Int32) (n : Int32) (h0 : Heap) (n0 : Nat) (v : Option Value) (h : Heap) (L : List Loc) : Prop := ∃ r, v = some (.int r) ∧ r.toInt = p2.toInt + (own_f13_0 p3).toInt ∧ Fr n0 L ∧ Keep h0 h [a1] ∧ own_Y Z h a1 n
set_option maxRecDepth 65536 in
set_option maxHeartbeats 40000000 in
theorem rm21 (l : Launch) (Z : State) (a0 : Array Value) (hw : ∀ d ∈ tables_1, d.before a0 Z = true) (ws : List Jvm.Cond) (a1 : Addr) (p2 : Int32) (p3 : Int32) (n : Int32) (h0 : Heap) (n0 : Nat) (Z0 : n0 ≤ h0.size) (Y_a1 : own_Y Z h0 a1 n) (gn_a1 : n0 ≤ a1) (hat : 0 ≤ p2.toInt) (h30 : 0 ≤ p3.toInt) (h3 : p3.toInt < 16384) (hroom : p2.toInt + (own_f13_0 p3).toInt ≤ n.toInt) :
    MetFree l (⟨"com/example/millrace/millrace/wire/ProtocolWriter", "putUnsignedVarint", "([BII)I"⟩ : MethodName) (head1 (Jvm.Cond.code (⟨"com/example/millrace/millrace/wire/ProtocolWriter", "putUnsignedVarint", "([BII)I"⟩ : MethodName) prog_128_method_18_code 3 (some .int) :: ws) ({ frames := 1, cells := 0, slots := 0, locals := 18 } : Room)) (fun a U => a = #[(.ref a1), (.int p2), (.int p3)] ∧ Z.Warmed39 U.vm ∧ U.heap = h0) (fun _ _ _ _ _ => True) (fun _ U o U' => ∃ v L, o = .returned v ∧ Q21 Z a1 p2 p3 n h0 n0 v U'.heap L ∧ FrameEnd U o U' L ({ frames := 1, cells := 0, slots := 0, locals := 18 } : Room).cells ({ frames := 1, cells := 0, slots := 0, locals := 18 } : Room).slots) := by
  refine MetFree.of_bodySF (plainFor_of_name own_pn21) hisR ?_
  intro p e s m args below meth c s₁ Bd hml0 hP hK
  obtain ⟨rfl, hZ, hh⟩ := hP
  have hx := Bd.exec
  have hby := Bd.bytes
  have hml : c.maxLocals = 3 := hml0
  have hown : s.vm.findClass "com/example/millrace/millrace/wire/ProtocolWriter" = some m.cls := findClass_of_methodNamed Bd.named
  have hnm := (name_of_methodNamed Bd.named Bd.method).1
  have hlk := Bd.notSynchronized
  have X0 : Stand p l e ({ frames := 1, cells := 0, slots := 0, locals := 18 } : Room) s m #[(.ref a1), (.int p2), (.int p3)] below meth c s₁ [] 0 0 := Stand.of_body Bd
  have e0 : s₁.heap = h0 := by rw [← hh, Bd.state]; rfl
  have N0 := Fr.nil n0
  show own_Goes p e below (fun o U' => ∃ v L, o = .returned v ∧ Q21 Z a1 p2 p3 n h0 n0 v U'.heap L ∧ FrameEnd s o U' L ({ frames := 1, cells := 0, slots := 0, locals := 18 } : Room).cells ({ frames := 1, cells := 0, slots := 0, locals := 18 } : Room).slots) s₁ (entryFrame m #[(.ref a1), (.int p2), (.int p3)] 3)
  refine own_st (T' := s₁) (g' := mkF m 0 #[rv a1, iv p2, iv p3] []) (fun _ k => castTop (own_ef21 m a1 p2 p3) k) ?_
  refine own_st (T' := s₁) (g' := (mkF m 1 #[rv a1, iv p2, iv p3] [(.int p3)])) (fun _ k => XS.iloadN X0.here hx rfl (hb hby d21_0) rfl k) ?_
  refine own_st (T' := s₁) (g' := (mkF m 3 #[rv a1, iv p2, iv p3] [(.int (-128 : Int32)), (.int p3)])) (fun _ k => XS.bipush X0.here hx rfl (hb hby d21_1) k) ?_
  refine own_st (T' := s₁) (g' := (mkF m 4 #[rv a1, iv p2, iv p3] [(.int (p3 &&& (-128 : Int32)))])) (fun _ k => XS.iand X0.here hx rfl (hb hby d21_3) rfl k) ?_
  by_cases hc4 : (p3 &&& (-128 : Int32)) = (0 : Int32)
  · refine own_st (T' := s₁) (g' := (mkF m 19 #[rv a1, iv p2, iv p3] [])) (fun _ k => XS.ifYes X0.here hx rfl (pc0 := 4) (pc' := 19) rfl (hb hby d21_4) rfl ((if0 _ _).trans (teq hc4).1) (by decide) (by decide) k) ?_
    have hs : (own_f13_0 p3).toInt = 1 := by rw [show own_f13_0 p3 = 1 from if_pos hc4]; rfl
    refine own_st (T' := s₁) (g' := (mkF m 20 #[rv a1, iv p2, iv p3] [(.ref a1)])) (fun _ k => XS.aloadN X0.here hx rfl (hb hby d21_19) rfl rfl k) ?_
    refine own_st (T' := s₁) (g' := (mkF m 21 #[rv a1, iv p2, iv p3] [(.int p2), (.ref a1)])) (fun _ k => XS.iloadN X0.here hx rfl (hb hby d21_20) rfl k) ?_
    refine own_st (T' := s₁) (g' := (mkF m 22 #[rv a1, iv p2, iv p3] [(.int p3), (.int p2), (.ref a1)])) (fun _ k => XS.iloadN X0.here hx rfl (hb hby d21_21) rfl k) ?_
    refine own_st (T' := s₁) (g' := (mkF m 23 #[rv a1, iv p2, iv p3] [(.int ((p3).toInt8.toInt32)), (.int p2), (.ref a1)])) (fun _ k => XS.i2b X0.here hx rfl (hb hby d21_22) rfl k) ?_
    obtain ⟨T1, h1, lc1, X1, e1, N1, ⟨sl1, vv1, W1⟩, Yn1, st1⟩ := own_stB X0 hx hZ e0 Y_a1 (j := p2) (x := ((p3).toInt8.toInt32)) (own_in p2 n hat (by omega)) N0 gn_a1 (g := (mkF m 23 #[rv a1, iv p2, iv p3] [(.int ((p3).toInt8.toInt32)), (.int p2), (.ref a1)])) rfl rfl (hb hby d21_23)
    have Zs1 : n0 ≤ h1.size := Nat.le_trans Z0 (Keep.of_wr W1).1
    have Ke1 : Keep h0 h1 [a1] := (Keep.refl h0 [a1]).wr W1 (Or.inl (List.mem_of_getElem? (i := 0) rfl))
    refine own_st (T' := T1) (g' := (mkF m 24 #[rv a1, iv p2, iv p3] [])) (fun _ k => (st1) _ k) ?_
    refine own_st (T' := T1) (g' := (mkF m 25 #[rv a1, iv p2, iv p3] [(.int p2)])) (fun _ k => XS.iloadN X1.here hx rfl (hb hby d21_24) rfl k) ?_
    refine own_st (T' := T1) (g' := (mkF m 26 #[rv a1, iv p2, iv p3] [(.int (1 : Int32)), (.int p2)])) (fun _ k => XS.iconst X1.here hx rfl (hb hby d21_25) k) ?_
    refine own_st (T' := T1) (g' := (mkF m 27 #[rv a1, iv p2, iv p3] [(.int (p2 + (1 : Int32)))])) (fun _ k => XS.iadd X1.here hx rfl (hb hby d21_26) rfl k) ?_
    exact own_end (Q := Q21 Z a1 p2 p3 n h0 n0) (v := some (.int (p2 + (1 : Int32)))) X1 (fun h => by rw [Bd.returns] at h; cases h) (fun fs hr => retI X1 hx Bd.returns (hb hby d21_27) hr) (by rw [e1]; exact ⟨_, rfl, (by rw [own_add p2 1 (by rw [own_i1]; omega) (by rw [own_i1]; have := rng32 n; omega), own_i1]; omega), N1, Ke1, Yn1⟩) (by decide) (by decide)
  · refine own_st (T' := s₁) (g' := (mkF m 7 #[rv a1, iv p2, iv p3] [])) (fun _ k => XS.ifNo X0.here hx rfl (hb hby d21_4) rfl ((if0 _ _).trans (feq hc4).1) k) ?_
    refine own_st (T' := s₁) (g' := (mkF m 8 #[rv a1, iv p2, iv p3] [(.ref a1)])) (fun _ k => XS.aloadN X0.here hx rfl (hb hby d21_7) rfl rfl k) ?_
    refine own_st (T' := s₁) (g' := (mkF m 9 #[rv a1, iv p2, iv p3] [(.int p2), (.ref a1)])) (fun _ k => XS.iloadN X0.here hx rfl (hb hby d21_8) rfl k) ?_
    refine own_st (T' := s₁) (g' := (mkF m 10 #[rv a1, iv p2, iv p3] [(.int p3), (.int p2), (.ref a1)])) (fun _ k => XS.iloadN X0.here hx rfl (hb hby d21_9) rfl k) ?_
    refine own_st (T' := s₁) (g' := (mkF m 11 #[rv a1, iv p2, iv p3] [(.long ((p3).toInt64)), (.int p2), (.ref a1)])) (fun _ k => XS.i2l X0.here hx rfl (hb hby d21_10) rfl k) ?_
    refine own_st (T' := s₁) (g' := (mkF m 14 #[rv a1, iv p2, iv p3] [(.long (4294967295 : Int64)), (.long ((p3).toInt64)), (.int p2), (.ref a1)])) (fun _ k => (X0.ldc2Long hx hown (mvT hZ (hw _ (List.mem_of_getElem? (i := 126) rfl))) (g := (mkF m 11 #[rv a1, iv p2, iv p3] [(.long ((p3).toInt64)), (.int p2), (.ref a1)])) rfl (hb hby d21_11)) _ k) ?_
    refine own_st (T' := s₁) (g' := (mkF m 15 #[rv a1, iv p2, iv p3] [(.long (((p3).toInt64) &&& (4294967295 : Int64))), (.int p2), (.ref a1)])) (fun _ k => XS.land X0.here hx rfl (hb hby d21_14) rfl k) ?_
    obtain ⟨v2, T2, L2, X2, hQ2, st2⟩ := own_packS (Jvm.LawKit.callS X0 hx (y := (⟨"com/example/millrace/millrace/wire/ProtocolWriter", "putLongUnsignedVarlong", "([BIJ)I"⟩ : MethodName)) hown (mvT hZ (hw _ (List.mem_of_getElem? (i := 127) rfl))) (mvT hZ (hw _ (List.mem_of_getElem? (i := 128) rfl))) (mvT hZ (hw _ (List.mem_of_getElem? (i := 12) rfl))) (mvT hZ (hw _ (List.mem_of_getElem? (i := 129) rfl))) (by decide) (backOf (W := 0) (rm26 l Z a0 hw [] a1 p2 (((p3).toInt64) &&& (4294967295 : Int64)) n h0 n0 Z0 Y_a1 gn_a1 hat (by rw [own_ml p3 h30 h3]; exact hroom)) hZ (hw _ (List.mem_of_getElem? (i := 129) rfl)) (hw _ (List.mem_of_getElem? (i := 12) rfl)) (by decide) (by decide)) (g := (mkF m 15 #[rv a1, iv p2, iv p3] [(.long (((p3).toInt64) &&& (4294967295 : Int64))), (.int p2), (.ref a1)])) rfl (by rw [hml]; rfl) (argsL := [(.ref a1), (.int p2), (.long (((p3).toInt64) &&& (4294967295 : Int64)))]) (rest := []) (lenOf own_pd21_0 rfl) rfl (by show 2 * 0 + _ ≤ _; exact Nat.le_of_eq rfl) (hb hby d21_15) (fun _ _ => ⟨rfl, e0, (by decide : 0 + 0 ≤ _), (by decide : 0 + 0 ≤ _)⟩))
    obtain ⟨r2, rfl, hr2, N2q, Kq2, Yq2⟩ := hQ2
    obtain ⟨lc2, X2, N2⟩ := own_loc X2 (Fr.app N0 N2q)
    have Zs2 : n0 ≤ T2.heap.size := Nat.le_trans Z0 Kq2.1
    have Ke2 : Keep h0 T2.heap [a1] := (Keep.refl h0 [a1]).trans Kq2 (allS (Or.inl (List.mem_of_getElem? (i := 0) rfl)) all0)
    refine own_st (T' := T2) (g' := (mkF m 18 #[rv a1, iv p2, iv p3] [(.int r2)])) (fun _ k => (st2) _ k) ?_
    exact own_end (Q := Q21 Z a1 p2 p3 n h0 n0) (v := some (.int r2)) X2 (fun h => by rw [Bd.returns] at h; cases h) (fun fs hr => retI X2 hx Bd.returns (hb hby d21_18) hr) (⟨_, rfl, (by rw [hr2, own_ml p3 h30 h3]), N2, Ke2, Yq2⟩) (by decide) (by decide)
theorem own_zi (p3 : Int32) (h1 : -1 ≤ p3.toInt) (h2 : p3.toInt ≤ 8191) : 0 ≤ ((((p3 <<< ((1 : Int32) &&& 31))) ^^^ ((p3 >>> ((31 : Int32) &&& 31)))) : Int32).toInt ∧ ((((p3 <<< ((1 : Int32) &&& 31))) ^^^ ((p3 >>> ((31 : Int32) &&& 31)))) : Int32).toInt < 16384 := by
  have a := c_ishl p3 1 1 (by decide); have b := c_ishr p3 31 31 (by decide); have r := rng32 (p3 <<< ((1 : Int32) &&& 31))
  have e31 : ((2 ^ 31 : Nat) : Int) = 2147483648 := by decide
  rw [e31] at b
  by_cases h : p3.toInt < 0
  · have hp : p3 = -1 := by rw [← Int32.toInt_inj]; have e : (-1 : Int32).toInt = -1 := rfl; omega
    subst hp; decide
  · have e : p3 >>> ((31 : Int32) &&& 31) = 0 := by
      rw [← Int32.toInt_inj, b]
      have : (0 : Int32).toInt = 0 := rfl
      rw [this]; omega
    rw [e, Int32.xor_zero]; omega
theorem d20_0 : decode prog_128_method_19_code 0 = .ok (.aload_n 0, 1) := by decide +kernel
theorem d20_1 : decode prog_128_method_19_code 1 = .ok (.iload_n 1, 1) := by decide +kernel
theorem d20_2 : decode prog_128_method_19_code 2 = .ok (.iload_n 2, 1) := by decide +kernel
theorem d20_3 : decode prog_128_method_19_code 3 = .ok (.iconst 1, 1) := by decide +kernel
theorem d20_4 : decode prog_128_method_19_code 4 = .ok (.ishl, 1) := by decide +kernel
theorem d20_5 : decode prog_128_method_19_code 5 = .ok (.iload_n 2, 1) := by decide +kernel
theorem d20_6 : decode prog_128_method_19_code 6 = .ok (.bipush 31, 2) := by decide +kernel
theorem d20_8 : decode prog_128_method_19_code 8 = .ok (.ishr, 1) := by decide +kernel
theorem d20_9 : decode prog_128_method_19_code 9 = .ok (.ixor, 1) := by decide +kernel
theorem d20_10 : decode prog_128_method_19_code 10 = .ok (.invokestatic 66, 3) := by decide +kernel
theorem d20_13 : decode prog_128_method_19_code 13 = .ok (.ireturn, 1) := by decide +kernel
theorem own_pn20 : plainName "com/example/millrace/millrace/wire/ProtocolWriter" = true := by first | (simp [plainName, overriddenIn]; done) | decide +kernel
theorem own_pd20_0 : parseMethodDescriptor "([BII)I" = some ⟨[(.array .byte), .int, .int], some .int⟩ := by decide +kernel
theorem own_ef20 (m : MethodId) (x0 : Addr) (x1 : Int32) (x2 : Int32) : entryFrame m #[(.ref x0), (.int x1), (.int x2)] 3 = mkF m 0 #[rv x0, iv x1, iv x2] [] := by first | (simp [entryFrame, mkF, argsToLocals, Value.category]; done) | rfl
def Q20 (Z : State) (a1 : Addr) (p2 : Int32) (p3 : Int32) (n : Int32) (h0 : Heap) (n0 : Nat) (v : Option Value) (h : Heap) (L : List Loc) : Prop := ∃ r, v = some (.int r) ∧ r.toInt = p2.toInt + (own_f12_0 p3).toInt ∧ Fr n0 L ∧ Keep h0 h [a1] ∧ own_Y Z h a1 n
set_option maxRecDepth 65536 in
set_option maxHeartbeats 40000000 in
theorem rm20 (l : Launch) (Z : State) (a0 : Array Value) (hw : ∀ d ∈ tables_1, d.before a0 Z = true) (ws : List Jvm.Cond) (a1 : Addr) (p2 : Int32) (p3 : Int32) (n : Int32) (h0 : Heap) (n0 : Nat) (Z0 : n0 ≤ h0.size) (Y_a1 : own_Y Z h0 a1 n) (gn_a1 : n0 ≤ a1) (hat : 0 ≤ p2.toInt) (h31 : -1 ≤ p3.toInt) (h3 : p3.toInt ≤ 8191) (hroom : p2.toInt + (own_f12_0 p3).toInt ≤ n.toInt) :
    MetFree l (⟨"com/example/millrace/millrace/wire/ProtocolWriter", "putVarint", "([BII)I"⟩ : MethodName) (head1 (Jvm.Cond.code (⟨"com/example/millrace/millrace/wire/ProtocolWriter", "putVarint", "([BII)I"⟩ : MethodName) prog_128_method_19_code 3 (some .int) :: ws) ({ frames := 2, cells := 0, slots := 0, locals := 32 } : Room)) (fun a U => a = #[(.ref a1), (.int p2), (.int p3)] ∧ Z.Warmed39 U.vm ∧ U.heap = h0) (fun _ _ _ _ _ => True) (fun _ U o U' => ∃ v L, o = .returned v ∧ Q20 Z a1 p2 p3 n h0 n0 v U'.heap L ∧ FrameEnd U o U' L ({ frames := 2, cells := 0, slots := 0, locals := 32 } : Room).cells ({ frames := 2, cells := 0, slots := 0, locals := 32 } : Room).slots) := by
  refine MetFree.of_bodySF (plainFor_of_name own_pn20) hisR ?_
  intro p e s m args below meth c s₁ Bd hml0 hP hK
  obtain ⟨rfl, hZ, hh⟩ := hP
  have hx := Bd.exec
  have hby := Bd.bytes
  have hml : c.maxLocals = 3 := hml0
  have hown : s.vm.findClass "com/example/millrace/millrace/wire/ProtocolWriter" = some m.cls := findClass_of_methodNamed Bd.named
  have hnm := (name_of_methodNamed Bd.named Bd.method).1
  have hlk := Bd.notSynchronized
  have X0 : Stand p l e ({ frames := 2, cells := 0, slots := 0, locals := 32 } : Room) s m #[(.ref a1), (.int p2), (.int p3)] below meth c s₁ [] 0 0 := Stand.of_body Bd
  have e0 : s₁.heap = h0 := by rw [← hh, Bd.state]; rfl
  have N0 := Fr.nil n0
  show own_Goes p e below (fun o U' => ∃ v L, o = .returned v ∧ Q20 Z a1 p2 p3 n h0 n0 v U'.heap L ∧ FrameEnd s o U' L ({ frames := 2, cells := 0, slots := 0, locals := 32 } : Room).cells ({ frames := 2, cells := 0, slots := 0, locals := 32 } : Room).slots) s₁ (entryFrame m #[(.ref a1), (.int p2), (.int p3)] 3)
  refine own_st (T' := s₁) (g' := mkF m 0 #[rv a1, iv p2, iv p3] []) (fun _ k => castTop (own_ef20 m a1 p2 p3) k) ?_
  refine own_st (T' := s₁) (g' := (mkF m 1 #[rv a1, iv p2, iv p3] [(.ref a1)])) (fun _ k => XS.aloadN X0.here hx rfl (hb hby d20_0) rfl rfl k) ?_
  refine own_st (T' := s₁) (g' := (mkF m 2 #[rv a1, iv p2, iv p3] [(.int p2), (.ref a1)])) (fun _ k => XS.iloadN X0.here hx rfl (hb hby d20_1) rfl k) ?_
  refine own_st (T' := s₁) (g' := (mkF m 3 #[rv a1, iv p2, iv p3] [(.int p3), (.int p2), (.ref a1)])) (fun _ k => XS.iloadN X0.here hx rfl (hb hby d20_2) rfl k) ?_
  refine own_st (T' := s₁) (g' := (mkF m 4 #[rv a1, iv p2, iv p3] [(.int (1 : Int32)), (.int p3), (.int p2), (.ref a1)])) (fun _ k => XS.iconst X0.here hx rfl (hb hby d20_3) k) ?_
  refine own_st (T' := s₁) (g' := (mkF m 5 #[rv a1, iv p2, iv p3] [(.int ((p3 <<< ((1 : Int32) &&& 31)))), (.int p2), (.ref a1)])) (fun _ k => XS.ishl X0.here hx rfl (hb hby d20_4) rfl k) ?_
  refine own_st (T' := s₁) (g' := (mkF m 6 #[rv a1, iv p2, iv p3] [(.int p3), (.int ((p3 <<< ((1 : Int32) &&& 31)))), (.int p2), (.ref a1)])) (fun _ k => XS.iloadN X0.here hx rfl (hb hby d20_5) rfl k) ?_
  refine own_st (T' := s₁) (g' := (mkF m 8 #[rv a1, iv p2, iv p3] [(.int (31 : Int32)), (.int p3), (.int ((p3 <<< ((1 : Int32) &&& 31)))), (.int p2), (.ref a1)])) (fun _ k => XS.bipush X0.here hx rfl (hb hby d20_6) k) ?_
  refine own_st (T' := s₁) (g' := (mkF m 9 #[rv a1, iv p2, iv p3] [(.int ((p3 >>> ((31 : Int32) &&& 31)))), (.int ((p3 <<< ((1 : Int32) &&& 31)))), (.int p2), (.ref a1)])) (fun _ k => XS.ishr X0.here hx rfl (hb hby d20_8) rfl k) ?_
  refine own_st (T' := s₁) (g' := (mkF m 10 #[rv a1, iv p2, iv p3] [(.int (((p3 <<< ((1 : Int32) &&& 31))) ^^^ ((p3 >>> ((31 : Int32) &&& 31))))), (.int p2), (.ref a1)])) (fun _ k => XS.ixor X0.here hx rfl (hb hby d20_9) rfl k) ?_
  obtain ⟨v1, T1, L1, X1, hQ1, st1⟩ := own_packS (Jvm.LawKit.callS X0 hx (y := (⟨"com/example/millrace/millrace/wire/ProtocolWriter", "putUnsignedVarint", "([BII)I"⟩ : MethodName)) hown (mvT hZ (hw _ (List.mem_of_getElem? (i := 107) rfl))) (mvT hZ (hw _ (List.mem_of_getElem? (i := 108) rfl))) (mvT hZ (hw _ (List.mem_of_getElem? (i := 12) rfl))) (mvT hZ (hw _ (List.mem_of_getElem? (i := 109) rfl))) (by decide) (backOf (W := 0) (rm21 l Z a0 hw [] a1 p2 (((p3 <<< ((1 : Int32) &&& 31))) ^^^ ((p3 >>> ((31 : Int32) &&& 31)))) n h0 n0 Z0 Y_a1 gn_a1 hat (own_zi p3 h31 h3).1 (own_zi p3 h31 h3).2 hroom) hZ (hw _ (List.mem_of_getElem? (i := 109) rfl)) (hw _ (List.mem_of_getElem? (i := 12) rfl)) (by decide) (by decide)) (g := (mkF m 10 #[rv a1, iv p2, iv p3] [(.int (((p3 <<< ((1 : Int32) &&& 31))) ^^^ ((p3 >>> ((31 : Int32) &&& 31))))), (.int p2), (.ref a1)])) rfl (by rw [hml]; rfl) (argsL := [(.ref a1), (.int p2), (.int (((p3 <<< ((1 : Int32) &&& 31))) ^^^ ((p3 >>> ((31 : Int32) &&& 31)))))]) (rest := []) (lenOf own_pd20_0 rfl) rfl (by show 2 * 0 + _ ≤ _; exact Nat.le_of_eq rfl) (hb hby d20_10) (fun _ _ => ⟨rfl, e0, (by decide : 0 + 0 ≤ _), (by decide : 0 + 0 ≤ _)⟩))
  obtain ⟨r1, rfl, hr1, N1q, Kq1, Yq1⟩ := hQ1
  obtain ⟨lc1, X1, N1⟩ := own_loc X1 (Fr.app N0 N1q)
  have Zs1 : n0 ≤ T1.heap.size := Nat.le_trans Z0 Kq1.1
  have Ke1 : Keep h0 T1.heap [a1] := (Keep.refl h0 [a1]).trans Kq1 (allS (Or.inl (List.mem_of_getElem? (i := 0) rfl)) all0)
  refine own_st (T' := T1) (g' := (mkF m 13 #[rv a1, iv p2, iv p3] [(.int r1)])) (fun _ k => (st1) _ k) ?_
  exact own_end (Q := Q20 Z a1 p2 p3 n h0 n0) (v := some (.int r1)) X1 (fun h => by rw [Bd.returns] at h; cases h) (fun fs hr => retI X1 hx Bd.returns (hb hby d20_13) hr) (⟨_, rfl, hr1, N1, Ke1, Yq1⟩) (by decide) (by decide)
theorem d22_0 : decode prog_128_method_20_code 0 = .ok (.lload_n 2, 1) := by decide +kernel
theorem d22_1 : decode prog_128_method_20_code 1 = .ok (.iconst 1, 1) := by decide +kernel
theorem d22_2 : decode prog_128_method_20_code 2 = .ok (.lshl, 1) := by decide +kernel
theorem d22_3 : decode prog_128_method_20_code 3 = .ok (.lload_n 2, 1) := by decide +kernel
theorem d22_4 : decode prog_128_method_20_code 4 = .ok (.bipush 63, 2) := by decide +kernel
theorem d22_6 : decode prog_128_method_20_code 6 = .ok (.lshr, 1) := by decide +kernel
theorem d22_7 : decode prog_128_method_20_code 7 = .ok (.lxor, 1) := by decide +kernel
theorem d22_8 : decode prog_128_method_20_code 8 = .ok (.lstore 4, 2) := by decide +kernel
theorem d22_10 : decode prog_128_method_20_code 10 = .ok (.lload 4, 2) := by decide +kernel
theorem d22_12 : decode prog_128_method_20_code 12 = .ok (.ldc2_w 83, 3) := by decide +kernel
theorem d22_15 : decode prog_128_method_20_code 15 = .ok (.land, 1) := by decide +kernel
theorem d22_16 : decode prog_128_method_20_code 16 = .ok (.lconst 0, 1) := by decide +kernel
theorem d22_17 : decode prog_128_method_20_code 17 = .ok (.lcmp, 1) := by decide +kernel
theorem d22_18 : decode prog_128_method_20_code 18 = .ok (.ifCond .eq 11, 3) := by decide +kernel
theorem d22_21 : decode prog_128_method_20_code 21 = .ok (.aload_n 0, 1) := by decide +kernel
theorem d22_22 : decode prog_128_method_20_code 22 = .ok (.iload_n 1, 1) := by decide +kernel
theorem d22_23 : decode prog_128_method_20_code 23 = .ok (.lload 4, 2) := by decide +kernel
theorem d22_25 : decode prog_128_method_20_code 25 = .ok (.invokestatic 80, 3) := by decide +kernel
theorem d22_28 : decode prog_128_method_20_code 28 = .ok (.ireturn, 1) := by decide +kernel
theorem d22_29 : decode prog_128_method_20_code 29 = .ok (.aload_n 0, 1) := by decide +kernel
theorem d22_30 : decode prog_128_method_20_code 30 = .ok (.iload_n 1, 1) := by decide +kernel
theorem d22_31 : decode prog_128_method_20_code 31 = .ok (.lload 4, 2) := by decide +kernel
theorem d22_33 : decode prog_128_method_20_code 33 = .ok (.l2i, 1) := by decide +kernel
theorem d22_34 : decode prog_128_method_20_code 34 = .ok (.i2b, 1) := by decide +kernel
theorem d22_35 : decode prog_128_method_20_code 35 = .ok (.bastore, 1) := by decide +kernel
theorem d22_36 : decode prog_128_method_20_code 36 = .ok (.iload_n 1, 1) := by decide +kernel
theorem d22_37 : decode prog_128_method_20_code 37 = .ok (.iconst 1, 1) := by decide +kernel
theorem d22_38 : decode prog_128_method_20_code 38 = .ok (.iadd, 1) := by decide +kernel
theorem d22_39 : decode prog_128_method_20_code 39 = .ok (.ireturn, 1) := by decide +kernel
theorem own_pn22 : plainName "com/example/millrace/millrace/wire/ProtocolWriter" = true := by first | (simp [plainName, overriddenIn]; done) | decide +kernel
theorem own_pd22_0 : parseMethodDescriptor "([BIJ)I" = some ⟨[(.array .byte), .int, .long], some .int⟩ := by decide +kernel
theorem own_ef22 (m : MethodId) (x0 : Addr) (x1 : Int32) (x2 : Int64) : entryFrame m #[(.ref x0), (.int x1), (.long x2)] 6 = mkF m 0 #[rv x0, iv x1, own_jv x2, .second, .unset, .unset] [] := by first | (simp [entryFrame, mkF, argsToLocals, Value.category]; done) | rfl
def Q22 (Z : State) (a1 : Addr) (p2 : Int32) (p3 : Int64) (n : Int32) (h0 : Heap) (n0 : Nat) (v : Option Value) (h : Heap) (L : List Loc) : Prop := ∃ r, v = some (.int r) ∧ r.toInt = p2.toInt + own_m 10 (own_zz p3) ∧ Fr n0 L ∧ Keep h0 h [a1] ∧ own_Y Z h a1 n
set_option maxRecDepth 65536 in
set_option maxHeartbeats 40000000 in
theorem rm22 (l : Launch) (Z : State) (a0 : Array Value) (hw : ∀ d ∈ tables_1, d.before a0 Z = true) (ws : List Jvm.Cond) (a1 : Addr) (p2 : Int32) (p3 : Int64) (n : Int32) (h0 : Heap) (n0 : Nat) (Z0 : n0 ≤ h0.size) (Y_a1 : own_Y Z h0 a1 n) (gn_a1 : n0 ≤ a1) (hat : 0 ≤ p2.toInt) (hroom : p2.toInt + own_m 10 (own_zz p3) ≤ n.toInt) :
    MetFree l (⟨"com/example/millrace/millrace/wire/ProtocolWriter", "putVarlong", "([BIJ)I"⟩ : MethodName) (head1 (Jvm.Cond.code (⟨"com/example/millrace/millrace/wire/ProtocolWriter", "putVarlong", "([BIJ)I"⟩ : MethodName) prog_128_method_20_code 6 (some .int) :: ws) ({ frames := 1, cells := 0, slots := 0, locals := 18 } : Room)) (fun a U => a = #[(.ref a1), (.int p2), (.long p3)] ∧ Z.Warmed39 U.vm ∧ U.heap = h0) (fun _ _ _ _ _ => True) (fun _ U o U' => ∃ v L, o = .returned v ∧ Q22 Z a1 p2 p3 n h0 n0 v U'.heap L ∧ FrameEnd U o U' L ({ frames := 1, cells := 0, slots := 0, locals := 18 } : Room).cells ({ frames := 1, cells := 0, slots := 0, locals := 18 } : Room).slots) := by
  refine MetFree.of_bodySF (plainFor_of_name own_pn22) hisR ?_
  intro p e s m args below meth c s₁ Bd hml0 hP hK
  obtain ⟨rfl, hZ, hh⟩ := hP
  have hx := Bd.exec
  have hby := Bd.bytes
  have hml : c.maxLocals = 6 := hml0
  have hown : s.vm.findClass "com/example/millrace/millrace/wire/ProtocolWriter" = some m.cls := findClass_of_methodNamed Bd.named
  have hnm := (name_of_methodNamed Bd.named Bd.method).1
  have hlk := Bd.notSynchronized
  have X0 : Stand p l e ({ frames := 1, cells := 0, slots := 0, locals := 18 } : Room) s m #[(.ref a1), (.int p2), (.long p3)] below meth c s₁ [] 0 0 := Stand.of_body Bd
  have e0 : s₁.heap = h0 := by rw [← hh, Bd.state]; rfl
  have N0 := Fr.nil n0
  show own_Goes p e below (fun o U' => ∃ v L, o = .returned v ∧ Q22 Z a1 p2 p3 n h0 n0 v U'.heap L ∧ FrameEnd s o U' L ({ frames := 1, cells := 0, slots := 0, locals := 18 } : Room).cells ({ frames := 1, cells := 0, slots := 0, locals := 18 } : Room).slots) s₁ (entryFrame m #[(.ref a1), (.int p2), (.long p3)] 6)
  refine own_st (T' := s₁) (g' := mkF m 0 #[rv a1, iv p2, own_jv p3, .second, .unset, .unset] []) (fun _ k => castTop (own_ef22 m a1 p2 p3) k) ?_
  refine own_st (T' := s₁) (g' := (mkF m 1 #[rv a1, iv p2, own_jv p3, .second, .unset, .unset] [(.long p3)])) (fun _ k => XS.lloadN X0.here hx rfl (hb hby d22_0) rfl k) ?_
  refine own_st (T' := s₁) (g' := (mkF m 2 #[rv a1, iv p2, own_jv p3, .second, .unset, .unset] [(.int (1 : Int32)), (.long p3)])) (fun _ k => XS.iconst X0.here hx rfl (hb hby d22_1) k) ?_
  refine own_st (T' := s₁) (g' := (mkF m 3 #[rv a1, iv p2, own_jv p3, .second, .unset, .unset] [(.long ((p3 <<< ((1 : Int32) &&& 0x3f).toInt64)))])) (fun _ k => XS.lshl X0.here hx rfl (hb hby d22_2) rfl k) ?_
  refine own_st (T' := s₁) (g' := (mkF m 4 #[rv a1, iv p2, own_jv p3, .second, .unset, .unset] [(.long p3), (.long ((p3 <<< ((1 : Int32) &&& 0x3f).toInt64)))])) (fun _ k => XS.lloadN X0.here hx rfl (hb hby d22_3) rfl k) ?_
  refine own_st (T' := s₁) (g' := (mkF m 6 #[rv a1, iv p2, own_jv p3, .second, .unset, .unset] [(.int (63 : Int32)), (.long p3), (.long ((p3 <<< ((1 : Int32) &&& 0x3f).toInt64)))])) (fun _ k => XS.bipush X0.here hx rfl (hb hby d22_4) k) ?_
  refine own_st (T' := s₁) (g' := (mkF m 7 #[rv a1, iv p2, own_jv p3, .second, .unset, .unset] [(.long ((p3 >>> ((63 : Int32) &&& 0x3f).toInt64))), (.long ((p3 <<< ((1 : Int32) &&& 0x3f).toInt64)))])) (fun _ k => XS.lshr X0.here hx rfl (hb hby d22_6) rfl k) ?_
  refine own_st (T' := s₁) (g' := (mkF m 8 #[rv a1, iv p2, own_jv p3, .second, .unset, .unset] [(.long (((p3 <<< ((1 : Int32) &&& 0x3f).toInt64)) ^^^ ((p3 >>> ((63 : Int32) &&& 0x3f).toInt64))))])) (fun _ k => XS.lxor X0.here hx rfl (hb hby d22_7) rfl k) ?_
  generalize hz8 : (((p3 <<< ((1 : Int32) &&& 0x3f).toInt64)) ^^^ ((p3 >>> ((63 : Int32) &&& 0x3f).toInt64))) = z8
  refine own_st (T' := s₁) (g' := (mkF m 10 #[rv a1, iv p2, own_jv p3, .second, own_jv z8, .second] [])) (fun _ k => XS.lstore X0.here hx rfl (hb hby d22_8) rfl (l' := #[rv a1, iv p2, own_jv p3, .second, own_jv z8, .second]) rfl k) ?_
  have hz8' : own_zz p3 = z8 := hz8
  refine own_st (T' := s₁) (g' := (mkF m 12 #[rv a1, iv p2, own_jv p3, .second, own_jv z8, .second] [(.long z8)])) (fun _ k => XS.lload X0.here hx rfl (hb hby d22_10) rfl k) ?_
  refine own_st (T' := s₁) (g' := (mkF m 15 #[rv a1, iv p2, own_jv p3, .second, own_jv z8, .second] [(.long (-128 : Int64)), (.long z8)])) (fun _ k => (X0.ldc2Long hx hown (mvT hZ (hw _ (List.mem_of_getElem? (i := 72) rfl))) (g := (mkF m 12 #[rv a1, iv p2, own_jv p3, .second, own_jv z8, .second] [(.long z8)])) rfl (hb hby d22_12)) _ k) ?_
  refine own_st (T' := s₁) (g' := (mkF m 16 #[rv a1, iv p2, own_jv p3, .second, own_jv z8, .second] [(.long (z8 &&& (-128 : Int64)))])) (fun _ k => XS.land X0.here hx rfl (hb hby d22_15) rfl k) ?_
  refine own_st (T' := s₁) (g' := (mkF m 17 #[rv a1, iv p2, own_jv p3, .second, own_jv z8, .second] [(.long (0 : Int64)), (.long (z8 &&& (-128 : Int64)))])) (fun _ k => XS.lconst X0.here hx rfl (hb hby d22_16) k) ?_
  refine own_st (T' := s₁) (g' := (mkF m 18 #[rv a1, iv p2, own_jv p3, .second, own_jv z8, .second] [(.int (lcmpW (z8 &&& (-128 : Int64)) (0 : Int64)))])) (fun _ k => XS.lcmp X0.here hx rfl (hb hby d22_17) rfl k) ?_
  by_cases hc18 : (lcmpW (z8 &&& (-128 : Int64)) (0 : Int64)) = (0 : Int32)
  · refine own_st (T' := s₁) (g' := (mkF m 29 #[rv a1, iv p2, own_jv p3, .second, own_jv z8, .second] [])) (fun _ k => XS.ifYes X0.here hx rfl (pc0 := 18) (pc' := 29) rfl (hb hby d22_18) rfl ((if0 _ _).trans (teq hc18).1) (by decide) (by decide) k) ?_
    have hs : own_m 10 (own_zz p3) = 1 := by rw [hz8']; exact if_pos hc18
    refine own_st (T' := s₁) (g' := (mkF m 30 #[rv a1, iv p2, own_jv p3, .second, own_jv z8, .second] [(.ref a1)])) (fun _ k => XS.aloadN X0.here hx rfl (hb hby d22_29) rfl rfl k) ?_
    refine own_st (T' := s₁) (g' := (mkF m 31 #[rv a1, iv p2, own_jv p3, .second, own_jv z8, .second] [(.int p2), (.ref a1)])) (fun _ k => XS.iloadN X0.here hx rfl (hb hby d22_30) rfl k) ?_
    refine own_st (T' := s₁) (g' := (mkF m 33 #[rv a1, iv p2, own_jv p3, .second, own_jv z8, .second] [(.long z8), (.int p2), (.ref a1)])) (fun _ k => XS.lload X0.here hx rfl (hb hby d22_31) rfl k) ?_
    refine own_st (T' := s₁) (g' := (mkF m 34 #[rv a1, iv p2, own_jv p3, .second, own_jv z8, .second] [(.int ((z8).toInt32)), (.int p2), (.ref a1)])) (fun _ k => XS.l2i X0.here hx rfl (hb hby d22_33) rfl k) ?_
    refine own_st (T' := s₁) (g' := (mkF m 35 #[rv a1, iv p2, own_jv p3, .second, own_jv z8, .second] [(.int ((((z8).toInt32)).toInt8.toInt32)), (.int p2), (.ref a1)])) (fun _ k => XS.i2b X0.here hx rfl (hb hby d22_34) rfl k) ?_
    obtain ⟨T1, h1, lc1, X1, e1, N1, ⟨sl1, vv1, W1⟩, Yn1, st1⟩ := own_stB X0 hx hZ e0 Y_a1 (j := p2) (x := ((((z8).toInt32)).toInt8.toInt32)) (own_in p2 n hat (by omega)) N0 gn_a1 (g := (mkF m 35 #[rv a1, iv p2, own_jv p3, .second, own_jv z8, .second] [(.int ((((z8).toInt32)).toInt8.toInt32)), (.int p2), (.ref a1)])) rfl rfl (hb hby d22_35)
    have Zs1 : n0 ≤ h1.size := Nat.le_trans Z0 (Keep.of_wr W1).1
    have Ke1 : Keep h0 h1 [a1] := (Keep.refl h0 [a1]).wr W1 (Or.inl (List.mem_of_getElem? (i := 0) rfl))
    refine own_st (T' := T1) (g' := (mkF m 36 #[rv a1, iv p2, own_jv p3, .second, own_jv z8, .second] [])) (fun _ k => (st1) _ k) ?_
    refine own_st (T' := T1) (g' := (mkF m 37 #[rv a1, iv p2, own_jv p3, .second, own_jv z8, .second] [(.int p2)])) (fun _ k => XS.iloadN X1.here hx rfl (hb hby d22_36) rfl k) ?_
    refine own_st (T' := T1) (g' := (mkF m 38 #[rv a1, iv p2, own_jv p3, .second, own_jv z8, .second] [(.int (1 : Int32)), (.int p2)])) (fun _ k => XS.iconst X1.here hx rfl (hb hby d22_37) k) ?_
    refine own_st (T' := T1) (g' := (mkF m 39 #[rv a1, iv p2, own_jv p3, .second, own_jv z8, .second] [(.int (p2 + (1 : Int32)))])) (fun _ k => XS.iadd X1.here hx rfl (hb hby d22_38) rfl k) ?_
    exact own_end (Q := Q22 Z a1 p2 p3 n h0 n0) (v := some (.int (p2 + (1 : Int32)))) X1 (fun h => by rw [Bd.returns] at h; cases h) (fun fs hr => retI X1 hx Bd.returns (hb hby d22_39) hr) (by rw [e1]; exact ⟨_, rfl, (by rw [own_add p2 1 (by rw [own_i1]; omega) (by rw [own_i1]; have := rng32 n; have := own_m1 10 (own_zz p3); omega), own_i1]; omega), N1, Ke1, Yn1⟩) (by decide) (by decide)
  · refine own_st (T' := s₁) (g' := (mkF m 21 #[rv a1, iv p2, own_jv p3, .second, own_jv z8, .second] [])) (fun _ k => XS.ifNo X0.here hx rfl (hb hby d22_18) rfl ((if0 _ _).trans (feq hc18).1) k) ?_
    refine own_st (T' := s₁) (g' := (mkF m 22 #[rv a1, iv p2, own_jv p3, .second, own_jv z8, .second] [(.ref a1)])) (fun _ k => XS.aloadN X0.here hx rfl (hb hby d22_21) rfl rfl k) ?_
    refine own_st (T' := s₁) (g' := (mkF m 23 #[rv a1, iv p2, own_jv p3, .second, own_jv z8, .second] [(.int p2), (.ref a1)])) (fun _ k => XS.iloadN X0.here hx rfl (hb hby d22_22) rfl k) ?_
    refine own_st (T' := s₁) (g' := (mkF m 25 #[rv a1, iv p2, own_jv p3, .second, own_jv z8, .second] [(.long z8), (.int p2), (.ref a1)])) (fun _ k => XS.lload X0.here hx rfl (hb hby d22_23) rfl k) ?_
    obtain ⟨v2, T2, L2, X2, hQ2, st2⟩ := own_packS (Jvm.LawKit.callS X0 hx (y := (⟨"com/example/millrace/millrace/wire/ProtocolWriter", "putLongUnsignedVarlong", "([BIJ)I"⟩ : MethodName)) hown (mvT hZ (hw _ (List.mem_of_getElem? (i := 127) rfl))) (mvT hZ (hw _ (List.mem_of_getElem? (i := 128) rfl))) (mvT hZ (hw _ (List.mem_of_getElem? (i := 12) rfl))) (mvT hZ (hw _ (List.mem_of_getElem? (i := 129) rfl))) (by decide) (backOf (W := 0) (rm26 l Z a0 hw [] a1 p2 z8 n h0 n0 Z0 Y_a1 gn_a1 hat (by rw [← hz8']; exact hroom)) hZ (hw _ (List.mem_of_getElem? (i := 129) rfl)) (hw _ (List.mem_of_getElem? (i := 12) rfl)) (by decide) (by decide)) (g := (mkF m 25 #[rv a1, iv p2, own_jv p3, .second, own_jv z8, .second] [(.long z8), (.int p2), (.ref a1)])) rfl (by rw [hml]; rfl) (argsL := [(.ref a1), (.int p2), (.long z8)]) (rest := []) (lenOf own_pd22_0 rfl) rfl (by show 2 * 0 + _ ≤ _; exact Nat.le_of_eq rfl) (hb hby d22_25) (fun _ _ => ⟨rfl, e0, (by decide : 0 + 0 ≤ _), (by decide : 0 + 0 ≤ _)⟩))
    obtain ⟨r2, rfl, hr2, N2q, Kq2, Yq2⟩ := hQ2
    obtain ⟨lc2, X2, N2⟩ := own_loc X2 (Fr.app N0 N2q)
    have Zs2 : n0 ≤ T2.heap.size := Nat.le_trans Z0 Kq2.1
    have Ke2 : Keep h0 T2.heap [a1] := (Keep.refl h0 [a1]).trans Kq2 (allS (Or.inl (List.mem_of_getElem? (i := 0) rfl)) all0)
    refine own_st (T' := T2) (g' := (mkF m 28 #[rv a1, iv p2, own_jv p3, .second, own_jv z8, .second] [(.int r2)])) (fun _ k => (st2) _ k) ?_
    exact own_end (Q := Q22 Z a1 p2 p3 n h0 n0) (v := some (.int r2)) X2 (fun h => by rw [Bd.returns] at h; cases h) (fun fs hr => retI X2 hx Bd.returns (hb hby d22_28) hr) (⟨_, rfl, (by rw [hz8']; exact hr2), N2, Ke2, Yq2⟩) (by decide) (by decide)
theorem d4_0 : decode prog_128_method_1_code 0 = .ok (.aload_n 0, 1) := by decide +kernel
theorem d4_1 : decode prog_128_method_1_code 1 = .ok (.invokespecial 1, 3) := by decide +kernel
theorem d4_4 : decode prog_128_method_1_code 4 = .ok (.aload_n 0, 1) := by decide +kernel
theorem d4_5 : decode prog_128_method_1_code 5 = .ok (.bipush 16, 2) := by decide +kernel
theorem d4_7 : decode prog_128_method_1_code 7 = .ok (.iload_n 1, 1) := by decide +kernel
theorem d4_8 : decode prog_128_method_1_code 8 = .ok (.invokestatic 7, 3) := by decide +kernel
theorem d4_11 : decode prog_128_method_1_code 11 = .ok (.newarray .byte, 2) := by decide +kernel
theorem d4_13 : decode prog_128_method_1_code 13 = .ok (.putfield 13, 3) := by decide +kernel
theorem d4_16 : decode prog_128_method_1_code 16 = .ok (.return_, 1) := by decide +kernel
theorem own_pn4 : plainName "com/example/millrace/millrace/wire/ProtocolWriter" = true := by first | (simp [plainName, overriddenIn]; done) | decide +kernel
theorem own_pd4_0 : parseMethodDescriptor "(II)I" = some ⟨[.int, .int], some .int⟩ := by decide +kernel
theorem own_ef4 (m : MethodId) (x0 : Addr) (x1 : Int32) : entryFrame m #[(.ref x0), (.int x1)] 2 = mkF m 0 #[rv x0, iv x1] [] := by first | (simp [entryFrame, mkF, argsToLocals, Value.category]; done) | rfl
def Q4 (Z : State) (a1 : Addr)  (h0 : Heap) (n0 : Nat) (v : Option Value) (h : Heap) (L : List Loc) : Prop := v = none ∧ Fr n0 L ∧ Keep h0 h [a1] ∧ Exa Z h a1 "com/example/millrace/millrace/wire/ProtocolWriter" ∧ ∃ t, h0.size ≤ t ∧ Fld Z h a1 "com/example/millrace/millrace/wire/ProtocolWriter" "bytes" "[B" (.ref t) ∧ Fld Z h a1 "com/example/millrace/millrace/wire/ProtocolWriter" "position" "I" (.int (0 : Int32)) ∧ own_Y Z h t (61 : Int32)
set_option maxRecDepth 65536 in
set_option maxHeartbeats 40000000 in
theorem rm4 (l : Launch) (Z : State) (a0 : Array Value) (hw : ∀ d ∈ tables_1, d.before a0 Z = true) (ws : List Jvm.Cond) (a1 : Addr)  (h0 : Heap) (n0 : Nat) (Z0 : n0 ≤ h0.size) (E_a1 : Exa Z h0 a1 "com/example/millrace/millrace/wire/ProtocolWriter") (F_b : Fld Z h0 a1 "com/example/millrace/millrace/wire/ProtocolWriter" "bytes" "[B" .null) (F_p : Fld Z h0 a1 "com/example/millrace/millrace/wire/ProtocolWriter" "position" "I" (.int (0 : Int32))) (gn_a1 : n0 ≤ a1)  :
    MetFree l (⟨"com/example/millrace/millrace/wire/ProtocolWriter", "<init>", "(I)V"⟩ : MethodName) (head1 (Jvm.Cond.code (⟨"com/example/millrace/millrace/wire/ProtocolWriter", "<init>", "(I)V"⟩ : MethodName) prog_128_method_1_code 2 none :: ws) ({ frames := 1, cells := 1, slots := 61, locals := 14 } : Room)) (fun a U => a = #[(.ref a1), (.int (61 : Int32))] ∧ Z.Warmed39 U.vm ∧ U.heap = h0) (fun _ _ _ _ _ => True) (fun _ U o U' => ∃ v L, o = .returned v ∧ Q4 Z a1  h0 n0 v U'.heap L ∧ FrameEnd U o U' L ({ frames := 1, cells := 1, slots := 61, locals := 14 } : Room).cells ({ frames := 1, cells := 1, slots := 61, locals := 14 } : Room).slots) := by
  refine MetFree.of_bodySF (plainFor_of_name own_pn4) hisR ?_
  intro p e s m args below meth c s₁ Bd hml0 hP hK
  obtain ⟨rfl, hZ, hh⟩ := hP
  have hx := Bd.exec
  have hby := Bd.bytes
  have hml : c.maxLocals = 2 := hml0
  have hown : s.vm.findClass "com/example/millrace/millrace/wire/ProtocolWriter" = some m.cls := findClass_of_methodNamed Bd.named
  have hnm := (name_of_methodNamed Bd.named Bd.method).1
  have hlk := Bd.notSynchronized
  have X0 : Stand p l e ({ frames := 1, cells := 1, slots := 61, locals := 14 } : Room) s m #[(.ref a1), (.int (61 : Int32))] below meth c s₁ [] 0 0 := Stand.of_body Bd
  have e0 : s₁.heap = h0 := by rw [← hh, Bd.state]; rfl
  have N0 := Fr.nil n0
  show own_Goes p e below (fun o U' => ∃ v L, o = .returned v ∧ Q4 Z a1  h0 n0 v U'.heap L ∧ FrameEnd s o U' L ({ frames := 1, cells := 1, slots := 61, locals := 14 } : Room).cells ({ frames := 1, cells := 1, slots := 61, locals := 14 } : Room).slots) s₁ (entryFrame m #[(.ref a1), (.int (61 : Int32))] 2)
  refine own_st (T' := s₁) (g' := mkF m 0 #[rv a1, iv (61 : Int32)] []) (fun _ k => castTop (own_ef4 m a1 (61 : Int32)) k) ?_
  refine own_st (T' := s₁) (g' := (mkF m 1 #[rv a1, iv (61 : Int32)] [(.ref a1)])) (fun _ k => XS.aloadN X0.here hx rfl (hb hby d4_0) rfl rfl k) ?_
  obtain ⟨T1, X1, e1, st1⟩ := initO X0 hx hZ hown (hw _ (List.mem_of_getElem? (i := 20) rfl)) (hw _ (List.mem_of_getElem? (i := 8) rfl)) (hw _ (List.mem_of_getElem? (i := 9) rfl)) e0 (g := (mkF m 1 #[rv a1, iv (61 : Int32)] [(.ref a1)])) rfl (by rw [hml]; rfl) rfl (hb hby d4_1) (by decide) (W := 0) (by show 2 * 0 + _ ≤ _; exact Nat.le_of_eq rfl) (by decide)
  refine own_st (T' := T1) (g' := (mkF m 4 #[rv a1, iv (61 : Int32)] [])) (fun _ k => (st1) _ k) ?_
  refine own_st (T' := T1) (g' := (mkF m 5 #[rv a1, iv (61 : Int32)] [(.ref a1)])) (fun _ k => XS.aloadN X1.here hx rfl (hb hby d4_4) rfl rfl k) ?_
  refine own_st (T' := T1) (g' := (mkF m 7 #[rv a1, iv (61 : Int32)] [(.int (16 : Int32)), (.ref a1)])) (fun _ k => XS.bipush X1.here hx rfl (hb hby d4_5) k) ?_
  refine own_st (T' := T1) (g' := (mkF m 8 #[rv a1, iv (61 : Int32)] [(.int (61 : Int32)), (.int (16 : Int32)), (.ref a1)])) (fun _ k => XS.iloadN X1.here hx rfl (hb hby d4_7) rfl k) ?_
  obtain ⟨v2, T2, L2, X2, hQ2, st2⟩ := own_packS (Jvm.LawKit.callS X1 hx (y := (⟨"java/lang/Math", "max", "(II)I"⟩ : MethodName)) hown (mvT hZ (hw _ (List.mem_of_getElem? (i := 21) rfl))) (mvT hZ (hw _ (List.mem_of_getElem? (i := 14) rfl))) (mvT hZ (hw _ (List.mem_of_getElem? (i := 15) rfl))) (mvT hZ (hw _ (List.mem_of_getElem? (i := 16) rfl))) (by decide) (backOf (W := 1) (rm3 l Z a0 hw [] (16 : Int32) (61 : Int32) h0 n0 Z0 ) hZ (hw _ (List.mem_of_getElem? (i := 16) rfl)) (hw _ (List.mem_of_getElem? (i := 15) rfl)) (by decide) (by decide)) (g := (mkF m 8 #[rv a1, iv (61 : Int32)] [(.int (61 : Int32)), (.int (16 : Int32)), (.ref a1)])) rfl (by rw [hml]; rfl) (argsL := [(.int (16 : Int32)), (.int (61 : Int32))]) (rest := [(.ref a1)]) (lenOf own_pd4_0 rfl) rfl (by show 2 * 0 + _ ≤ _; exact Nat.le_of_eq rfl) (hb hby d4_8) (fun _ _ => ⟨rfl, e1, (by decide : 0 + 0 ≤ _), (by decide : 0 + 0 ≤ _)⟩))
  obtain ⟨hv2, N2q, e2⟩ := hQ2
  rw [show own_f3_0 (16 : Int32) (61 : Int32) = (61 : Int32) from by decide] at hv2
  subst hv2
  obtain ⟨lc2, X2, N2⟩ := own_loc X2 (Fr.app N0 N2q)
  refine own_st (T' := T2) (g' := (mkF m 11 #[rv a1, iv (61 : Int32)] [(.int (61 : Int32)), (.ref a1)])) (fun _ k => (st2) _ k) ?_
  obtain ⟨T3, h3, k3, X3, e3, E3, A3, st3⟩ := newP X2 hx hZ (hw _ (List.mem_of_getElem? (i := 0) rfl)) e2 (g := (mkF m 11 #[rv a1, iv (61 : Int32)] [(.int (61 : Int32)), (.ref a1)])) rfl (hb hby d4_11) rfl (by decide) (cap := 61) (by decide) (by decide) (by decide) (by decide)
  obtain ⟨b3, g3⟩ : ∃ z, z = h0.size := ⟨_, rfl⟩
  rw [← g3] at A3 st3
  have ne_a1_b3 : a1 ≠ b3 := Nat.ne_of_lt (Nat.lt_of_lt_of_le E_a1.lt (Nat.le_of_eq g3.symm))
  have gn_b3 : n0 ≤ b3 := Nat.le_trans Z0 (Nat.le_of_eq g3.symm)
  have sz_b3 : h0.size ≤ b3 := Nat.le_trans (Keep.refl h0 [a1]).1 (Nat.le_of_eq g3.symm)
  have Zs3 : n0 ≤ h3.size := Nat.le_trans Z0 E3.1
  have Fa4 : Exa Z h3 a1 "com/example/millrace/millrace/wire/ProtocolWriter" := E_a1.ext E3
  have Fa5 : Fld Z h3 a1 "com/example/millrace/millrace/wire/ProtocolWriter" "bytes" "[B" .null := F_b.ext E3
  have Fa6 : Fld Z h3 a1 "com/example/millrace/millrace/wire/ProtocolWriter" "position" "I" (.int (0 : Int32)) := F_p.ext E3
  have Ke3 : Keep h0 h3 [a1] := (Keep.refl h0 [a1]).ext E3
  have V3 : own_Y Z h3 b3 (61 : Int32) := own_Y.new A3 (by decide)
  refine own_st (T' := T3) (g' := (mkF m 13 #[rv a1, iv (61 : Int32)] [(.ref b3), (.ref a1)])) (fun _ k => (st3) _ k) ?_
  obtain ⟨T7, h7, X7, e7, W7, st7⟩ := putF X3 hx hZ hown (host := "") (Or.inl (hw _ (List.mem_of_getElem? (i := 22) rfl))) Via.refl e3 Fa5 Fa4 (Or.inl (hw _ (List.mem_of_getElem? (i := 23) rfl))) (hw _ (List.mem_of_getElem? (i := 11) rfl)) (ty := (.array .byte)) (by decide) rfl rfl (g := (mkF m 13 #[rv a1, iv (61 : Int32)] [(.ref b3), (.ref a1)])) rfl rfl (hb hby d4_13)
  have Fw7 := Fa5.same W7
  have Zs7 : n0 ≤ h7.size := Nat.le_trans Zs3 (Keep.of_wr W7).1
  obtain ⟨lc7, X7, N7⟩ := own_loc X7 (Fr.snoc X7 N2 gn_a1)
  have Fa8 : Exa Z h7 a1 "com/example/millrace/millrace/wire/ProtocolWriter" := Fa4.wr W7
  have Fa9 : Fld Z h7 a1 "com/example/millrace/millrace/wire/ProtocolWriter" "position" "I" (.int (0 : Int32)) := Fa6.other W7 (Or.inr (slot_ne (Or.inl (hw _ (List.mem_of_getElem? (i := 43) rfl))) (Or.inl (hw _ (List.mem_of_getElem? (i := 23) rfl))) (by decide) (t := .int) (t' := (.array .byte)) (by decide) (by decide)))
  have Fa10 : own_Y Z h7 b3 (61 : Int32) := V3.other W7 (Ne.symm ne_a1_b3)
  have Ke7 : Keep h0 h7 [a1] := Ke3.wr W7 (Or.inl (List.mem_of_getElem? (i := 0) rfl))
  refine own_st (T' := T7) (g' := (mkF m 16 #[rv a1, iv (61 : Int32)] [])) (fun _ k => (st7) _ k) ?_
  exact own_end (Q := Q4 Z a1  h0 n0) (v := none) X7 (fun _ => rfl) (fun fs hr => X7.returnOut hx Bd.returns (hb hby d4_16) hr) (by rw [e7]; exact ⟨rfl, N7, Ke7, Fa8, ⟨b3, sz_b3, Fw7, Fa9, Fa10⟩⟩) (by decide) (by decide)
theorem own_minI (a b : Int32) (h : ¬ b < a) : own_f19_0 a b = a := (if_neg h).trans rfl
theorem own_i0 : (0 : Int32).toInt = 0 := rfl
theorem d18_0 : decode jdk_65_method_121_code 0 = .ok (.iload_n 1, 1) := by decide +kernel
theorem d18_1 : decode jdk_65_method_121_code 1 = .ok (.aload_n 0, 1) := by decide +kernel
theorem d18_2 : decode jdk_65_method_121_code 2 = .ok (.arraylength, 1) := by decide +kernel
theorem d18_3 : decode jdk_65_method_121_code 3 = .ok (.if_icmp .ne 11, 3) := by decide +kernel
theorem d18_14 : decode jdk_65_method_121_code 14 = .ok (.iload_n 1, 1) := by decide +kernel
theorem d18_15 : decode jdk_65_method_121_code 15 = .ok (.newarray .byte, 2) := by decide +kernel
theorem d18_17 : decode jdk_65_method_121_code 17 = .ok (.astore_n 2, 1) := by decide +kernel
theorem d18_18 : decode jdk_65_method_121_code 18 = .ok (.aload_n 0, 1) := by decide +kernel
theorem d18_19 : decode jdk_65_method_121_code 19 = .ok (.iconst 0, 1) := by decide +kernel
theorem d18_20 : decode jdk_65_method_121_code 20 = .ok (.aload_n 2, 1) := by decide +kernel
theorem d18_21 : decode jdk_65_method_121_code 21 = .ok (.iconst 0, 1) := by decide +kernel
theorem d18_22 : decode jdk_65_method_121_code 22 = .ok (.aload_n 0, 1) := by decide +kernel
theorem d18_23 : decode jdk_65_method_121_code 23 = .ok (.arraylength, 1) := by decide +kernel
theorem d18_24 : decode jdk_65_method_121_code 24 = .ok (.iload_n 1, 1) := by decide +kernel
theorem d18_25 : decode jdk_65_method_121_code 25 = .ok (.invokestatic 304, 3) := by decide +kernel
theorem d18_28 : decode jdk_65_method_121_code 28 = .ok (.invokestatic 150, 3) := by decide +kernel
theorem d18_31 : decode jdk_65_method_121_code 31 = .ok (.aload_n 2, 1) := by decide +kernel
theorem d18_32 : decode jdk_65_method_121_code 32 = .ok (.areturn, 1) := by decide +kernel
theorem own_pn18 : plainName "java/util/Arrays" = true := by first | (simp [plainName, overriddenIn]; done) | decide +kernel
theorem own_pd18_0 : parseMethodDescriptor "(II)I" = some ⟨[.int, .int], some .int⟩ := by decide +kernel
theorem own_ef18 (m : MethodId) (x0 : Addr) (x1 : Int32) : entryFrame m #[(.ref x0), (.int x1)] 3 = mkF m 0 #[rv x0, iv x1, .unset] [] := by first | (simp [entryFrame, mkF, argsToLocals, Value.category]; done) | rfl
def Q18 (Z : State) (a1 : Addr) (p2 : Int32) (n : Int32) (h0 : Heap) (n0 : Nat) (v : Option Value) (h : Heap) (L : List Loc) : Prop := ∃ t, v = some (.ref t) ∧ Fr n0 L ∧ Ext h0 h ∧ h0.size ≤ t ∧ own_Y Z h t p2
set_option maxRecDepth 65536 in
set_option maxHeartbeats 40000000 in
theorem rm18 (l : Launch) (Z : State) (a0 : Array Value) (hw : ∀ d ∈ tables_1, d.before a0 Z = true) (ws : List Jvm.Cond) (a1 : Addr) (p2 : Int32) (n : Int32) (h0 : Heap) (n0 : Nat) (Z0 : n0 ≤ h0.size) (Y_a1 : own_Y Z h0 a1 n)  (hne : ¬ p2 = n) (hp0 : 0 ≤ p2.toInt) (hcap : p2.toNatClampNeg ≤ 2190) (hle : ¬ p2 < n) (hl0 : 0 ≤ n.toInt) (hln : n.toInt ≤ p2.toInt) :
    MetFree l (⟨"java/util/Arrays", "copyOf", "([BI)[B"⟩ : MethodName) (head1 (Jvm.Cond.code (⟨"java/util/Arrays", "copyOf", "([BI)[B"⟩ : MethodName) jdk_65_method_121_code 3 (some (.array .byte)) :: ws) ({ frames := 1, cells := 1, slots := 2190, locals := 40 } : Room)) (fun a U => a = #[(.ref a1), (.int p2)] ∧ Z.Warmed39 U.vm ∧ U.heap = h0) (fun _ _ _ _ _ => True) (fun _ U o U' => ∃ v L, o = .returned v ∧ Q18 Z a1 p2 n h0 n0 v U'.heap L ∧ FrameEnd U o U' L ({ frames := 1, cells := 1, slots := 2190, locals := 40 } : Room).cells ({ frames := 1, cells := 1, slots := 2190, locals := 40 } : Room).slots) := by
  refine MetFree.of_bodySF (plainFor_of_name own_pn18) hisR ?_
  intro p e s m args below meth c s₁ Bd hml0 hP hK
  obtain ⟨rfl, hZ, hh⟩ := hP
  have hx := Bd.exec
  have hby := Bd.bytes
  have hml : c.maxLocals = 3 := hml0
  have hown : s.vm.findClass "java/util/Arrays" = some m.cls := findClass_of_methodNamed Bd.named
  have hnm := (name_of_methodNamed Bd.named Bd.method).1
  have hlk := Bd.notSynchronized
  have X0 : Stand p l e ({ frames := 1, cells := 1, slots := 2190, locals := 40 } : Room) s m #[(.ref a1), (.int p2)] below meth c s₁ [] 0 0 := Stand.of_body Bd
  have e0 : s₁.heap = h0 := by rw [← hh, Bd.state]; rfl
  have N0 := Fr.nil n0
  show own_Goes p e below (fun o U' => ∃ v L, o = .returned v ∧ Q18 Z a1 p2 n h0 n0 v U'.heap L ∧ FrameEnd s o U' L ({ frames := 1, cells := 1, slots := 2190, locals := 40 } : Room).cells ({ frames := 1, cells := 1, slots := 2190, locals := 40 } : Room).slots) s₁ (entryFrame m #[(.ref a1), (.int p2)] 3)
  refine own_st (T' := s₁) (g' := mkF m 0 #[rv a1, iv p2, .unset] []) (fun _ k => castTop (own_ef18 m a1 p2) k) ?_
  refine own_st (T' := s₁) (g' := (mkF m 1 #[rv a1, iv p2, .unset] [(.int p2)])) (fun _ k => XS.iloadN X0.here hx rfl (hb hby d18_0) rfl k) ?_
  refine own_st (T' := s₁) (g' := (mkF m 2 #[rv a1, iv p2, .unset] [(.ref a1), (.int p2)])) (fun _ k => XS.aloadN X0.here hx rfl (hb hby d18_1) rfl rfl k) ?_
  refine own_st (T' := s₁) (g' := (mkF m 3 #[rv a1, iv p2, .unset] [(.int n), (.int p2)])) (fun _ k => (own_alen X0 hx hZ e0 Y_a1 (g := (mkF m 2 #[rv a1, iv p2, .unset] [(.ref a1), (.int p2)])) rfl rfl (hb hby d18_2)) _ k) ?_
  refine own_st (T' := s₁) (g' := (mkF m 14 #[rv a1, iv p2, .unset] [])) (fun _ k => XS.icmpYes X0.here hx rfl (pc0 := 3) (pc' := 14) rfl (hb hby d18_3) rfl (feq hne).2 (by decide) (by decide) k) ?_
  refine own_st (T' := s₁) (g' := (mkF m 15 #[rv a1, iv p2, .unset] [(.int p2)])) (fun _ k => XS.iloadN X0.here hx rfl (hb hby d18_14) rfl k) ?_
  obtain ⟨T1, h1, k1, X1, e1, E1, A1, st1⟩ := newP X0 hx hZ (hw _ (List.mem_of_getElem? (i := 0) rfl)) e0 (g := (mkF m 15 #[rv a1, iv p2, .unset] [(.int p2)])) rfl (hb hby d18_15) rfl (own_pos hp0) (cap := 2190) hcap (by decide) (by decide) (by decide)
  obtain ⟨b1, g1⟩ : ∃ z, z = h0.size := ⟨_, rfl⟩
  rw [← g1] at A1 st1
  have ne_a1_b1 : a1 ≠ b1 := Nat.ne_of_lt (Nat.lt_of_lt_of_le Y_a1.lt (Nat.le_of_eq g1.symm))
  have gn_b1 : n0 ≤ b1 := Nat.le_trans Z0 (Nat.le_of_eq g1.symm)
  have sz_b1 : h0.size ≤ b1 := Nat.le_trans (Keep.refl h0 []).1 (Nat.le_of_eq g1.symm)
  have Zs1 : n0 ≤ h1.size := Nat.le_trans Z0 E1.1
  have Fa2 : own_Y Z h1 a1 n := Y_a1.ext E1
  have Ke1 : Keep h0 h1 [] := (Keep.refl h0 []).ext E1
  have Ep1 : Ext h0 h1 := own_ext_trans (own_ext_refl h0) E1
  have V1 : own_Y Z h1 b1 p2 := own_Y.new A1 (own_pos hp0)
  refine own_st (T' := T1) (g' := (mkF m 17 #[rv a1, iv p2, .unset] [(.ref b1)])) (fun _ k => (st1) _ k) ?_
  refine own_st (T' := T1) (g' := (mkF m 18 #[rv a1, iv p2, rv b1] [])) (fun _ k => XS.astoreN X1.here hx rfl (hb hby d18_17) rfl rfl (l' := #[rv a1, iv p2, rv b1]) rfl k) ?_
  refine own_st (T' := T1) (g' := (mkF m 19 #[rv a1, iv p2, rv b1] [(.ref a1)])) (fun _ k => XS.aloadN X1.here hx rfl (hb hby d18_18) rfl rfl k) ?_
  refine own_st (T' := T1) (g' := (mkF m 20 #[rv a1, iv p2, rv b1] [(.int (0 : Int32)), (.ref a1)])) (fun _ k => XS.iconst X1.here hx rfl (hb hby d18_19) k) ?_
  refine own_st (T' := T1) (g' := (mkF m 21 #[rv a1, iv p2, rv b1] [(.ref b1), (.int (0 : Int32)), (.ref a1)])) (fun _ k => XS.aloadN X1.here hx rfl (hb hby d18_20) rfl rfl k) ?_
  refine own_st (T' := T1) (g' := (mkF m 22 #[rv a1, iv p2, rv b1] [(.int (0 : Int32)), (.ref b1), (.int (0 : Int32)), (.ref a1)])) (fun _ k => XS.iconst X1.here hx rfl (hb hby d18_21) k) ?_
  refine own_st (T' := T1) (g' := (mkF m 23 #[rv a1, iv p2, rv b1] [(.ref a1), (.int (0 : Int32)), (.ref b1), (.int (0 : Int32)), (.ref a1)])) (fun _ k => XS.aloadN X1.here hx rfl (hb hby d18_22) rfl rfl k) ?_
  refine own_st (T' := T1) (g' := (mkF m 24 #[rv a1, iv p2, rv b1] [(.int n), (.int (0 : Int32)), (.ref b1), (.int (0 : Int32)), (.ref a1)])) (fun _ k => (own_alen X1 hx hZ e1 Fa2 (g := (mkF m 23 #[rv a1, iv p2, rv b1] [(.ref a1), (.int (0 : Int32)), (.ref b1), (.int (0 : Int32)), (.ref a1)])) rfl rfl (hb hby d18_23)) _ k) ?_
  refine own_st (T' := T1) (g' := (mkF m 25 #[rv a1, iv p2, rv b1] [(.int p2), (.int n), (.int (0 : Int32)), (.ref b1), (.int (0 : Int32)), (.ref a1)])) (fun _ k => XS.iloadN X1.here hx rfl (hb hby d18_24) rfl k) ?_
  obtain ⟨v3, T3, L3, X3, hQ3, st3⟩ := own_packS (Jvm.LawKit.callS X1 hx (y := (⟨"java/lang/Math", "min", "(II)I"⟩ : MethodName)) hown (mvT hZ (hw _ (List.mem_of_getElem? (i := 100) rfl))) (mvT hZ (hw _ (List.mem_of_getElem? (i := 101) rfl))) (mvT hZ (hw _ (List.mem_of_getElem? (i := 15) rfl))) (mvT hZ (hw _ (List.mem_of_getElem? (i := 102) rfl))) (by decide) (backOf (W := 4) (rm19 l Z a0 hw [] n p2 h1 n0 Zs1 ) hZ (hw _ (List.mem_of_getElem? (i := 102) rfl)) (hw _ (List.mem_of_getElem? (i := 15) rfl)) (by decide) (by decide)) (g := (mkF m 25 #[rv a1, iv p2, rv b1] [(.int p2), (.int n), (.int (0 : Int32)), (.ref b1), (.int (0 : Int32)), (.ref a1)])) rfl (by rw [hml]; rfl) (argsL := [(.int n), (.int p2)]) (rest := [(.int (0 : Int32)), (.ref b1), (.int (0 : Int32)), (.ref a1)]) (lenOf own_pd18_0 rfl) rfl (by show 2 * 0 + _ ≤ _; exact Nat.le_of_eq rfl) (hb hby d18_25) (fun _ _ => ⟨rfl, e1, (by decide : 1 + 0 ≤ _), (by decide : 2190 + 0 ≤ _)⟩))
  obtain ⟨hv3, N3q, e3⟩ := hQ3
  rw [own_minI n p2 hle] at hv3
  subst hv3
  obtain ⟨lc3, X3, N3⟩ := own_loc X3 (Fr.app N0 N3q)
  refine own_st (T' := T3) (g' := (mkF m 28 #[rv a1, iv p2, rv b1] [(.int n), (.int (0 : Int32)), (.ref b1), (.int (0 : Int32)), (.ref a1)])) (fun _ k => (st3) _ k) ?_
  obtain ⟨T4, h4, lc4, X4, e4, N4, Kq4, Yq4, st4⟩ := own_cp X3 hx hZ hown (hw _ (List.mem_of_getElem? (i := 103) rfl)) (hw _ (List.mem_of_getElem? (i := 47) rfl)) (hw _ (List.mem_of_getElem? (i := 45) rfl)) (hw _ (List.mem_of_getElem? (i := 46) rfl)) e3 Fa2 V1 (by decide) (by decide) hl0 (by rw [own_i0]; omega) (by rw [own_i0]; omega) N3 gn_b1 (g := (mkF m 28 #[rv a1, iv p2, rv b1] [(.int n), (.int (0 : Int32)), (.ref b1), (.int (0 : Int32)), (.ref a1)])) rfl (by rw [hml]; rfl) (rest := []) rfl (hb hby d18_28) (by decide) (W := 0) (by show 2 * 0 + _ ≤ _; exact Nat.le_of_eq rfl) (by decide)
  have Zs4 : n0 ≤ h4.size := Nat.le_trans Zs1 Kq4.1
  have Fa5 : own_Y Z h4 a1 n := Fa2.keep Kq4 (ninS ne_a1_b1 nin0)
  have Ke4 : Keep h0 h4 [] := Ke1.trans Kq4 (allS (Or.inr sz_b1) all0)
  refine own_st (T' := T4) (g' := (mkF m 31 #[rv a1, iv p2, rv b1] [])) (fun _ k => (st4) _ k) ?_
  refine own_st (T' := T4) (g' := (mkF m 32 #[rv a1, iv p2, rv b1] [(.ref b1)])) (fun _ k => XS.aloadN X4.here hx rfl (hb hby d18_31) rfl rfl k) ?_
  exact own_end (Q := Q18 Z a1 p2 n h0 n0) (v := some (.ref b1)) X4 (fun h => by rw [Bd.returns] at h; cases h) (fun fs hr => X4.areturnOut hx rfl Bd.returns rfl (hb hby d18_32) hr) (by rw [e4]; exact ⟨b1, rfl, N4, own_ext_keep Ep1 Kq4 sz_b1, sz_b1, Yq4⟩) (by decide) (by decide)
theorem own_addL (a b : Int64) (h1 : -9223372036854775808 ≤ a.toInt + b.toInt) (h2 : a.toInt + b.toInt < 9223372036854775808) : (a + b).toInt = a.toInt + b.toInt := by
  have c := c_ladd a b; have r := rng64 (a + b); omega
theorem own_minJ (a b : Int64) : (own_f16_0 a b).toInt = if b.toInt < a.toInt then b.toInt else a.toInt := by
  by_cases h : (0 : Int32) < lcmpW a b
  · have q := (lw_gt a b).mp h
    rw [Int64.lt_iff_toInt_lt] at q
    rw [if_pos q, show own_f16_0 a b = b from (if_pos h).trans rfl]
  · have q := mt (lw_gt a b).mpr h
    rw [Int64.lt_iff_toInt_lt] at q
    rw [if_neg q, show own_f16_0 a b = a from (if_neg h).trans rfl]
theorem own_maxJ (a b : Int64) : (own_f17_0 a b).toInt = if a.toInt < b.toInt then b.toInt else a.toInt := by
  by_cases h : lcmpW a b < (0 : Int32)
  · have q := (lw_lt a b).mp h
    rw [Int64.lt_iff_toInt_lt] at q
    rw [if_pos q, show own_f17_0 a b = b from (if_pos h).trans rfl]
  · have q := mt (lw_lt a b).mpr h
    rw [Int64.lt_iff_toInt_lt] at q
    rw [if_neg q, show own_f17_0 a b = a from (if_neg h).trans rfl]
theorem own_grown (P p2 n : Int32) (hP0 : 0 ≤ P.toInt) (hP : P.toInt ≤ 90) (hm0 : 0 ≤ p2.toInt) (hm : p2.toInt ≤ 2100) (hn0 : 0 < n.toInt) (hn : n.toInt ≤ 300) (hgt : n.toInt < P.toInt + p2.toInt) :
    ¬ (0 : Int32) < lcmpW (((P).toInt64 + (p2).toInt64) : Int64) (2147483639 : Int64) ∧ (((own_f17_0 ((P).toInt64 + (p2).toInt64) (own_f16_0 ((n).toInt64 * (2 : Int64)) (2147483639 : Int64))).toInt32 : Int32).toInt = P.toInt + p2.toInt ∨ ((own_f17_0 ((P).toInt64 + (p2).toInt64) (own_f16_0 ((n).toInt64 * (2 : Int64)) (2147483639 : Int64))).toInt32 : Int32).toInt = 2 * n.toInt) ∧ P.toInt + p2.toInt ≤ ((own_f17_0 ((P).toInt64 + (p2).toInt64) (own_f16_0 ((n).toInt64 * (2 : Int64)) (2147483639 : Int64))).toInt32 : Int32).toInt ∧ n.toInt < ((own_f17_0 ((P).toInt64 + (p2).toInt64) (own_f16_0 ((n).toInt64 * (2 : Int64)) (2147483639 : Int64))).toInt32 : Int32).toInt ∧ ((own_f17_0 ((P).toInt64 + (p2).toInt64) (own_f16_0 ((n).toInt64 * (2 : Int64)) (2147483639 : Int64))).toInt32 : Int32).toInt ≤ 2190 := by
  have a1 := c_i2l P; have a2 := c_i2l p2; have a3 := c_i2l n
  have s1 := own_addL P.toInt64 p2.toInt64 (by omega) (by omega)
  have m1 : (n.toInt64 * (2 : Int64)).toInt = 2 * n.toInt := by
    have c := c_lmul n.toInt64 2; have r := rng64 (n.toInt64 * 2); have e2 : (2 : Int64).toInt = 2 := rfl
    rw [e2] at c; omega
  have e3 : (2147483639 : Int64).toInt = 2147483639 := rfl
  have f1 := own_minJ (n.toInt64 * (2 : Int64)) 2147483639
  rw [m1, e3, if_neg (by omega)] at f1
  have f2 := own_maxJ (P.toInt64 + p2.toInt64) (own_f16_0 (n.toInt64 * (2 : Int64)) 2147483639)
  rw [f1, s1, a1, a2] at f2
  have f3 := c_l2i (own_f17_0 (P.toInt64 + p2.toInt64) (own_f16_0 (n.toInt64 * (2 : Int64)) 2147483639))
  have r3 := rng32 ((own_f17_0 ((P).toInt64 + (p2).toInt64) (own_f16_0 ((n).toInt64 * (2 : Int64)) (2147483639 : Int64))).toInt32)
  refine ⟨fun q => ?_, ?_⟩
  · have := (lw_gt _ _).mp q
    rw [Int64.lt_iff_toInt_lt, s1, e3] at this; omega
  · by_cases c : P.toInt + p2.toInt < 2 * n.toInt
    · rw [if_pos c] at f2; omega
    · rw [if_neg c] at f2; omega
theorem own_gp1 (n z : Int32) (h : n.toInt < z.toInt) : ¬ z = n := fun e => by rw [e] at h; omega
theorem own_gp2 (z : Int32) (h : z.toInt ≤ 2190) (h0 : 0 ≤ z.toInt) : z.toNatClampNeg ≤ 2190 := by have := own_ncl h0; omega
theorem own_gp3 (n z : Int32) (h : n.toInt < z.toInt) : ¬ z < n := by rw [Int32.lt_iff_toInt_lt]; omega
theorem d15_0 : decode prog_128_method_35_code 0 = .ok (.aload_n 0, 1) := by decide +kernel
theorem d15_1 : decode prog_128_method_35_code 1 = .ok (.getfield 19, 3) := by decide +kernel
theorem d15_4 : decode prog_128_method_35_code 4 = .ok (.i2l, 1) := by decide +kernel
theorem d15_5 : decode prog_128_method_35_code 5 = .ok (.iload_n 1, 1) := by decide +kernel
theorem d15_6 : decode prog_128_method_35_code 6 = .ok (.i2l, 1) := by decide +kernel
theorem d15_7 : decode prog_128_method_35_code 7 = .ok (.ladd, 1) := by decide +kernel
theorem d15_8 : decode prog_128_method_35_code 8 = .ok (.lstore_n 2, 1) := by decide +kernel
theorem d15_9 : decode prog_128_method_35_code 9 = .ok (.lload_n 2, 1) := by decide +kernel
theorem d15_10 : decode prog_128_method_35_code 10 = .ok (.ldc2_w 187, 3) := by decide +kernel
theorem d15_13 : decode prog_128_method_35_code 13 = .ok (.lcmp, 1) := by decide +kernel
theorem d15_14 : decode prog_128_method_35_code 14 = .ok (.ifCond .le 13, 3) := by decide +kernel
theorem d15_27 : decode prog_128_method_35_code 27 = .ok (.lload_n 2, 1) := by decide +kernel
theorem d15_28 : decode prog_128_method_35_code 28 = .ok (.aload_n 0, 1) := by decide +kernel
theorem d15_29 : decode prog_128_method_35_code 29 = .ok (.getfield 13, 3) := by decide +kernel
theorem d15_32 : decode prog_128_method_35_code 32 = .ok (.arraylength, 1) := by decide +kernel
theorem d15_33 : decode prog_128_method_35_code 33 = .ok (.i2l, 1) := by decide +kernel
theorem d15_34 : decode prog_128_method_35_code 34 = .ok (.ldc2_w 194, 3) := by decide +kernel
theorem d15_37 : decode prog_128_method_35_code 37 = .ok (.lmul, 1) := by decide +kernel
theorem d15_38 : decode prog_128_method_35_code 38 = .ok (.ldc2_w 187, 3) := by decide +kernel
theorem d15_41 : decode prog_128_method_35_code 41 = .ok (.invokestatic 196, 3) := by decide +kernel
theorem d15_44 : decode prog_128_method_35_code 44 = .ok (.invokestatic 200, 3) := by decide +kernel
theorem d15_47 : decode prog_128_method_35_code 47 = .ok (.lstore 4, 2) := by decide +kernel
theorem d15_49 : decode prog_128_method_35_code 49 = .ok (.aload_n 0, 1) := by decide +kernel
theorem d15_50 : decode prog_128_method_35_code 50 = .ok (.aload_n 0, 1) := by decide +kernel
theorem d15_51 : decode prog_128_method_35_code 51 = .ok (.getfield 13, 3) := by decide +kernel
theorem d15_54 : decode prog_128_method_35_code 54 = .ok (.lload 4, 2) := by decide +kernel
theorem d15_56 : decode prog_128_method_35_code 56 = .ok (.l2i, 1) := by decide +kernel
theorem d15_57 : decode prog_128_method_35_code 57 = .ok (.invokestatic 23, 3) := by decide +kernel
theorem d15_60 : decode prog_128_method_35_code 60 = .ok (.putfield 13, 3) := by decide +kernel
theorem d15_63 : decode prog_128_method_35_code 63 = .ok (.return_, 1) := by decide +kernel
theorem own_pn15 : plainName "com/example/millrace/millrace/wire/ProtocolWriter" = true := by first | (simp [plainName, overriddenIn]; done) | decide +kernel
theorem own_pd15_0 : parseMethodDescriptor "(JJ)J" = some ⟨[.long, .long], some .long⟩ := by decide +kernel
theorem own_pd15_1 : parseMethodDescriptor "([BI)[B" = some ⟨[(.array .byte), .int], some (.array .byte)⟩ := by decide +kernel
theorem own_ef15 (m : MethodId) (x0 : Addr) (x1 : Int32) : entryFrame m #[(.ref x0), (.int x1)] 6 = mkF m 0 #[rv x0, iv x1, .unset, .unset, .unset, .unset] [] := by first | (simp [entryFrame, mkF, argsToLocals, Value.category]; done) | rfl
def Q15 (Z : State) (a1 : Addr) (p2 : Int32) (t : Addr) (P n : Int32) (h0 : Heap) (n0 : Nat) (v : Option Value) (h : Heap) (L : List Loc) : Prop := v = none ∧ Fr n0 L ∧ Keep h0 h [a1] ∧ Exa Z h a1 "com/example/millrace/millrace/wire/ProtocolWriter" ∧ ∃ (t' : Addr) (n' : Int32), (t' = t ∨ h0.size ≤ t') ∧ n0 ≤ t' ∧ Fld Z h a1 "com/example/millrace/millrace/wire/ProtocolWriter" "bytes" "[B" (.ref t') ∧ Fld Z h a1 "com/example/millrace/millrace/wire/ProtocolWriter" "position" "I" (.int P) ∧ own_Y Z h t' n' ∧ P.toInt + p2.toInt ≤ n'.toInt ∧ (n'.toInt ≤ P.toInt + p2.toInt ∨ n'.toInt ≤ 2 * n.toInt)
set_option maxRecDepth 65536 in
set_option maxHeartbeats 40000000 in
theorem rm15 (l : Launch) (Z : State) (a0 : Array Value) (hw : ∀ d ∈ tables_1, d.before a0 Z = true) (ws : List Jvm.Cond) (a1 : Addr) (p2 : Int32) (t : Addr) (P n : Int32) (h0 : Heap) (n0 : Nat) (Z0 : n0 ≤ h0.size) (E_a1 : Exa Z h0 a1 "com/example/millrace/millrace/wire/ProtocolWriter") (F_b : Fld Z h0 a1 "com/example/millrace/millrace/wire/ProtocolWriter" "bytes" "[B" (.ref t)) (F_p : Fld Z h0 a1 "com/example/millrace/millrace/wire/ProtocolWriter" "position" "I" (.int P)) (Y_t : own_Y Z h0 t n) (gn_a1 : n0 ≤ a1) (hne : a1 ≠ t) (hP0 : 0 ≤ P.toInt) (hP : P.toInt ≤ 90) (hm0 : 0 ≤ p2.toInt) (hm : p2.toInt ≤ 2100) (hn0 : 0 < n.toInt) (hn : n.toInt ≤ 300) (hgt : n.toInt < P.toInt + p2.toInt) :
    MetFree l (⟨"com/example/millrace/millrace/wire/ProtocolWriter", "grow", "(I)V"⟩ : MethodName) (head1 (Jvm.Cond.code (⟨"com/example/millrace/millrace/wire/ProtocolWriter", "grow", "(I)V"⟩ : MethodName) prog_128_method_35_code 6 none :: ws) ({ frames := 2, cells := 1, slots := 2190, locals := 60 } : Room)) (fun a U => a = #[(.ref a1), (.int p2)] ∧ Z.Warmed39 U.vm ∧ U.heap = h0) (fun _ _ _ _ _ => True) (fun _ U o U' => ∃ v L, o = .returned v ∧ Q15 Z a1 p2 t P n h0 n0 v U'.heap L ∧ FrameEnd U o U' L ({ frames := 2, cells := 1, slots := 2190, locals := 60 } : Room).cells ({ frames := 2, cells := 1, slots := 2190, locals := 60 } : Room).slots) := by
  refine MetFree.of_bodySF (plainFor_of_name own_pn15) hisR ?_
  intro p e s m args below meth c s₁ Bd hml0 hP hK
  obtain ⟨rfl, hZ, hh⟩ := hP
  have hx := Bd.exec
  have hby := Bd.bytes
  have hml : c.maxLocals = 6 := hml0
  have hown : s.vm.findClass "com/example/millrace/millrace/wire/ProtocolWriter" = some m.cls := findClass_of_methodNamed Bd.named
  have hnm := (name_of_methodNamed Bd.named Bd.method).1
  have hlk := Bd.notSynchronized
  have X0 : Stand p l e ({ frames := 2, cells := 1, slots := 2190, locals := 60 } : Room) s m #[(.ref a1), (.int p2)] below meth c s₁ [] 0 0 := Stand.of_body Bd
  have e0 : s₁.heap = h0 := by rw [← hh, Bd.state]; rfl
  have N0 := Fr.nil n0
  show own_Goes p e below (fun o U' => ∃ v L, o = .returned v ∧ Q15 Z a1 p2 t P n h0 n0 v U'.heap L ∧ FrameEnd s o U' L ({ frames := 2, cells := 1, slots := 2190, locals := 60 } : Room).cells ({ frames := 2, cells := 1, slots := 2190, locals := 60 } : Room).slots) s₁ (entryFrame m #[(.ref a1), (.int p2)] 6)
  refine own_st (T' := s₁) (g' := mkF m 0 #[rv a1, iv p2, .unset, .unset, .unset, .unset] []) (fun _ k => castTop (own_ef15 m a1 p2) k) ?_
  have ne_a1_t := hne
  refine own_st (T' := s₁) (g' := (mkF m 1 #[rv a1, iv p2, .unset, .unset, .unset, .unset] [(.ref a1)])) (fun _ k => XS.aloadN X0.here hx rfl (hb hby d15_0) rfl rfl k) ?_
  obtain ⟨T1, X1, e1, st1⟩ := getF X0 hx hZ hown (host := "") (Or.inl (hw _ (List.mem_of_getElem? (i := 42) rfl))) Via.refl e0 F_p (g := (mkF m 1 #[rv a1, iv p2, .unset, .unset, .unset, .unset] [(.ref a1)])) rfl rfl (hb hby d15_1)
  refine own_st (T' := T1) (g' := (mkF m 4 #[rv a1, iv p2, .unset, .unset, .unset, .unset] [(.int P)])) (fun _ k => (st1) _ k) ?_
  refine own_st (T' := T1) (g' := (mkF m 5 #[rv a1, iv p2, .unset, .unset, .unset, .unset] [(.long ((P).toInt64))])) (fun _ k => XS.i2l X1.here hx rfl (hb hby d15_4) rfl k) ?_
  refine own_st (T' := T1) (g' := (mkF m 6 #[rv a1, iv p2, .unset, .unset, .unset, .unset] [(.int p2), (.long ((P).toInt64))])) (fun _ k => XS.iloadN X1.here hx rfl (hb hby d15_5) rfl k) ?_
  refine own_st (T' := T1) (g' := (mkF m 7 #[rv a1, iv p2, .unset, .unset, .unset, .unset] [(.long ((p2).toInt64)), (.long ((P).toInt64))])) (fun _ k => XS.i2l X1.here hx rfl (hb hby d15_6) rfl k) ?_
  refine own_st (T' := T1) (g' := (mkF m 8 #[rv a1, iv p2, .unset, .unset, .unset, .unset] [(.long (((P).toInt64) + ((p2).toInt64)))])) (fun _ k => XS.ladd X1.here hx rfl (hb hby d15_7) rfl k) ?_
  refine own_st (T' := T1) (g' := (mkF m 9 #[rv a1, iv p2, own_jv (((P).toInt64) + ((p2).toInt64)), .second, .unset, .unset] [])) (fun _ k => XS.lstoreN X1.here hx rfl (hb hby d15_8) rfl (l' := #[rv a1, iv p2, own_jv (((P).toInt64) + ((p2).toInt64)), .second, .unset, .unset]) rfl k) ?_
  refine own_st (T' := T1) (g' := (mkF m 10 #[rv a1, iv p2, own_jv (((P).toInt64) + ((p2).toInt64)), .second, .unset, .unset] [(.long (((P).toInt64) + ((p2).toInt64)))])) (fun _ k => XS.lloadN X1.here hx rfl (hb hby d15_9) rfl k) ?_
  refine own_st (T' := T1) (g' := (mkF m 13 #[rv a1, iv p2, own_jv (((P).toInt64) + ((p2).toInt64)), .second, .unset, .unset] [(.long (2147483639 : Int64)), (.long (((P).toInt64) + ((p2).toInt64)))])) (fun _ k => (X1.ldc2Long hx hown (mvT hZ (hw _ (List.mem_of_getElem? (i := 88) rfl))) (g := (mkF m 10 #[rv a1, iv p2, own_jv (((P).toInt64) + ((p2).toInt64)), .second, .unset, .unset] [(.long (((P).toInt64) + ((p2).toInt64)))])) rfl (hb hby d15_10)) _ k) ?_
  refine own_st (T' := T1) (g' := (mkF m 14 #[rv a1, iv p2, own_jv (((P).toInt64) + ((p2).toInt64)), .second, .unset, .unset] [(.int (lcmpW (((P).toInt64) + ((p2).toInt64)) (2147483639 : Int64)))])) (fun _ k => XS.lcmp X1.here hx rfl (hb hby d15_13) rfl k) ?_
  refine own_st (T' := T1) (g' := (mkF m 27 #[rv a1, iv p2, own_jv (((P).toInt64) + ((p2).toInt64)), .second, .unset, .unset] [])) (fun _ k => XS.ifYes X1.here hx rfl (pc0 := 14) (pc' := 27) rfl (hb hby d15_14) rfl ((if0 _ _).trans (flt (own_grown P p2 n hP0 hP hm0 hm hn0 hn hgt).1).2.2.2) (by decide) (by decide) k) ?_
  refine own_st (T' := T1) (g' := (mkF m 28 #[rv a1, iv p2, own_jv (((P).toInt64) + ((p2).toInt64)), .second, .unset, .unset] [(.long (((P).toInt64) + ((p2).toInt64)))])) (fun _ k => XS.lloadN X1.here hx rfl (hb hby d15_27) rfl k) ?_
  refine own_st (T' := T1) (g' := (mkF m 29 #[rv a1, iv p2, own_jv (((P).toInt64) + ((p2).toInt64)), .second, .unset, .unset] [(.ref a1), (.long (((P).toInt64) + ((p2).toInt64)))])) (fun _ k => XS.aloadN X1.here hx rfl (hb hby d15_28) rfl rfl k) ?_
  obtain ⟨T2, X2, e2, st2⟩ := getF X1 hx hZ hown (host := "") (Or.inl (hw _ (List.mem_of_getElem? (i := 22) rfl))) Via.refl e1 F_b (g := (mkF m 29 #[rv a1, iv p2, own_jv (((P).toInt64) + ((p2).toInt64)), .second, .unset, .unset] [(.ref a1), (.long (((P).toInt64) + ((p2).toInt64)))])) rfl rfl (hb hby d15_29)
  refine own_st (T' := T2) (g' := (mkF m 32 #[rv a1, iv p2, own_jv (((P).toInt64) + ((p2).toInt64)), .second, .unset, .unset] [(.ref t), (.long (((P).toInt64) + ((p2).toInt64)))])) (fun _ k => (st2) _ k) ?_
  refine own_st (T' := T2) (g' := (mkF m 33 #[rv a1, iv p2, own_jv (((P).toInt64) + ((p2).toInt64)), .second, .unset, .unset] [(.int n), (.long (((P).toInt64) + ((p2).toInt64)))])) (fun _ k => (own_alen X2 hx hZ e2 Y_t (g := (mkF m 32 #[rv a1, iv p2, own_jv (((P).toInt64) + ((p2).toInt64)), .second, .unset, .unset] [(.ref t), (.long (((P).toInt64) + ((p2).toInt64)))])) rfl rfl (hb hby d15_32)) _ k) ?_
  refine own_st (T' := T2) (g' := (mkF m 34 #[rv a1, iv p2, own_jv (((P).toInt64) + ((p2).toInt64)), .second, .unset, .unset] [(.long ((n).toInt64)), (.long (((P).toInt64) + ((p2).toInt64)))])) (fun _ k => XS.i2l X2.here hx rfl (hb hby d15_33) rfl k) ?_
  refine own_st (T' := T2) (g' := (mkF m 37 #[rv a1, iv p2, own_jv (((P).toInt64) + ((p2).toInt64)), .second, .unset, .unset] [(.long (2 : Int64)), (.long ((n).toInt64)), (.long (((P).toInt64) + ((p2).toInt64)))])) (fun _ k => (X2.ldc2Long hx hown (mvT hZ (hw _ (List.mem_of_getElem? (i := 89) rfl))) (g := (mkF m 34 #[rv a1, iv p2, own_jv (((P).toInt64) + ((p2).toInt64)), .second, .unset, .unset] [(.long ((n).toInt64)), (.long (((P).toInt64) + ((p2).toInt64)))])) rfl (hb hby d15_34)) _ k) ?_
  refine own_st (T' := T2) (g' := (mkF m 38 #[rv a1, iv p2, own_jv (((P).toInt64) + ((p2).toInt64)), .second, .unset, .unset] [(.long (((n).toInt64) * (2 : Int64))), (.long (((P).toInt64) + ((p2).toInt64)))])) (fun _ k => XS.lmul X2.here hx rfl (hb hby d15_37) rfl k) ?_
  refine own_st (T' := T2) (g' := (mkF m 41 #[rv a1, iv p2, own_jv (((P).toInt64) + ((p2).toInt64)), .second, .unset, .unset] [(.long (2147483639 : Int64)), (.long (((n).toInt64) * (2 : Int64))), (.long (((P).toInt64) + ((p2).toInt64)))])) (fun _ k => (X2.ldc2Long hx hown (mvT hZ (hw _ (List.mem_of_getElem? (i := 88) rfl))) (g := (mkF m 38 #[rv a1, iv p2, own_jv (((P).toInt64) + ((p2).toInt64)), .second, .unset, .unset] [(.long (((n).toInt64) * (2 : Int64))), (.long (((P).toInt64) + ((p2).toInt64)))])) rfl (hb hby d15_38)) _ k) ?_
  obtain ⟨v3, T3, L3, X3, hQ3, st3⟩ := own_packS (Jvm.LawKit.callS X2 hx (y := (⟨"java/lang/Math", "min", "(JJ)J"⟩ : MethodName)) hown (mvT hZ (hw _ (List.mem_of_getElem? (i := 90) rfl))) (mvT hZ (hw _ (List.mem_of_getElem? (i := 91) rfl))) (mvT hZ (hw _ (List.mem_of_getElem? (i := 15) rfl))) (mvT hZ (hw _ (List.mem_of_getElem? (i := 92) rfl))) (by decide) (backOf (W := 2) (rm16 l Z a0 hw [] (((n).toInt64) * (2 : Int64)) (2147483639 : Int64) h0 n0 Z0 ) hZ (hw _ (List.mem_of_getElem? (i := 92) rfl)) (hw _ (List.mem_of_getElem? (i := 15) rfl)) (by decide) (by decide)) (g := (mkF m 41 #[rv a1, iv p2, own_jv (((P).toInt64) + ((p2).toInt64)), .second, .unset, .unset] [(.long (2147483639 : Int64)), (.long (((n).toInt64) * (2 : Int64))), (.long (((P).toInt64) + ((p2).toInt64)))])) rfl (by rw [hml]; rfl) (argsL := [(.long (((n).toInt64) * (2 : Int64))), (.long (2147483639 : Int64))]) (rest := [(.long (((P).toInt64) + ((p2).toInt64)))]) (lenOf own_pd15_0 rfl) rfl (by show 2 * 0 + _ ≤ _; exact Nat.le_of_eq rfl) (hb hby d15_41) (fun _ _ => ⟨rfl, e2, (by decide : 0 + 0 ≤ _), (by decide : 0 + 0 ≤ _)⟩))
  obtain ⟨rfl, N3q, e3⟩ := hQ3
  obtain ⟨lc3, X3, N3⟩ := own_loc X3 (Fr.app N0 N3q)
  refine own_st (T' := T3) (g' := (mkF m 44 #[rv a1, iv p2, own_jv (((P).toInt64) + ((p2).toInt64)), .second, .unset, .unset] [(.long (own_f16_0 (((n).toInt64) * (2 : Int64)) (2147483639 : Int64))), (.long (((P).toInt64) + ((p2).toInt64)))])) (fun _ k => (st3) _ k) ?_
  obtain ⟨v4, T4, L4, X4, hQ4, st4⟩ := own_packS (Jvm.LawKit.callS X3 hx (y := (⟨"java/lang/Math", "max", "(JJ)J"⟩ : MethodName)) hown (mvT hZ (hw _ (List.mem_of_getElem? (i := 93) rfl))) (mvT hZ (hw _ (List.mem_of_getElem? (i := 94) rfl))) (mvT hZ (hw _ (List.mem_of_getElem? (i := 15) rfl))) (mvT hZ (hw _ (List.mem_of_getElem? (i := 95) rfl))) (by decide) (backOf (W := 0) (rm17 l Z a0 hw [] (((P).toInt64) + ((p2).toInt64)) (own_f16_0 (((n).toInt64) * (2 : Int64)) (2147483639 : Int64)) h0 n0 Z0 ) hZ (hw _ (List.mem_of_getElem? (i := 95) rfl)) (hw _ (List.mem_of_getElem? (i := 15) rfl)) (by decide) (by decide)) (g := (mkF m 44 #[rv a1, iv p2, own_jv (((P).toInt64) + ((p2).toInt64)), .second, .unset, .unset] [(.long (own_f16_0 (((n).toInt64) * (2 : Int64)) (2147483639 : Int64))), (.long (((P).toInt64) + ((p2).toInt64)))])) rfl (by rw [hml]; rfl) (argsL := [(.long (((P).toInt64) + ((p2).toInt64))), (.long (own_f16_0 (((n).toInt64) * (2 : Int64)) (2147483639 : Int64)))]) (rest := []) (lenOf own_pd15_0 rfl) rfl (by show 2 * 0 + _ ≤ _; exact Nat.le_of_eq rfl) (hb hby d15_44) (fun _ _ => ⟨rfl, e3, (by decide : 0 + 0 ≤ _), (by decide : 0 + 0 ≤ _)⟩))
  obtain ⟨rfl, N4q, e4⟩ := hQ4
  obtain ⟨lc4, X4, N4⟩ := own_loc X4 (Fr.app N3 N4q)
  refine own_st (T' := T4) (g' := (mkF m 47 #[rv a1, iv p2, own_jv (((P).toInt64) + ((p2).toInt64)), .second, .unset, .unset] [(.long (own_f17_0 (((P).toInt64) + ((p2).toInt64)) (own_f16_0 (((n).toInt64) * (2 : Int64)) (2147483639 : Int64))))])) (fun _ k => (st4) _ k) ?_
  refine own_st (T' := T4) (g' := (mkF m 49 #[rv a1, iv p2, own_jv (((P).toInt64) + ((p2).toInt64)), .second, own_jv (own_f17_0 (((P).toInt64) + ((p2).toInt64)) (own_f16_0 (((n).toInt64) * (2 : Int64)) (2147483639 : Int64))), .second] [])) (fun _ k => XS.lstore X4.here hx rfl (hb hby d15_47) rfl (l' := #[rv a1, iv p2, own_jv (((P).toInt64) + ((p2).toInt64)), .second, own_jv (own_f17_0 (((P).toInt64) + ((p2).toInt64)) (own_f16_0 (((n).toInt64) * (2 : Int64)) (2147483639 : Int64))), .second]) rfl k) ?_
  have hg := (own_grown P p2 n hP0 hP hm0 hm hn0 hn hgt).2
  generalize hz47 : (own_f17_0 ((P).toInt64 + (p2).toInt64) (own_f16_0 ((n).toInt64 * (2 : Int64)) (2147483639 : Int64))).toInt32 = z47 at hg
  refine own_st (T' := T4) (g' := (mkF m 50 #[rv a1, iv p2, own_jv (((P).toInt64) + ((p2).toInt64)), .second, own_jv (own_f17_0 (((P).toInt64) + ((p2).toInt64)) (own_f16_0 (((n).toInt64) * (2 : Int64)) (2147483639 : Int64))), .second] [(.ref a1)])) (fun _ k => XS.aloadN X4.here hx rfl (hb hby d15_49) rfl rfl k) ?_
  refine own_st (T' := T4) (g' := (mkF m 51 #[rv a1, iv p2, own_jv (((P).toInt64) + ((p2).toInt64)), .second, own_jv (own_f17_0 (((P).toInt64) + ((p2).toInt64)) (own_f16_0 (((n).toInt64) * (2 : Int64)) (2147483639 : Int64))), .second] [(.ref a1), (.ref a1)])) (fun _ k => XS.aloadN X4.here hx rfl (hb hby d15_50) rfl rfl k) ?_
  obtain ⟨T5, X5, e5, st5⟩ := getF X4 hx hZ hown (host := "") (Or.inl (hw _ (List.mem_of_getElem? (i := 22) rfl))) Via.refl e4 F_b (g := (mkF m 51 #[rv a1, iv p2, own_jv (((P).toInt64) + ((p2).toInt64)), .second, own_jv (own_f17_0 (((P).toInt64) + ((p2).toInt64)) (own_f16_0 (((n).toInt64) * (2 : Int64)) (2147483639 : Int64))), .second] [(.ref a1), (.ref a1)])) rfl rfl (hb hby d15_51)
  refine own_st (T' := T5) (g' := (mkF m 54 #[rv a1, iv p2, own_jv (((P).toInt64) + ((p2).toInt64)), .second, own_jv (own_f17_0 (((P).toInt64) + ((p2).toInt64)) (own_f16_0 (((n).toInt64) * (2 : Int64)) (2147483639 : Int64))), .second] [(.ref t), (.ref a1)])) (fun _ k => (st5) _ k) ?_
  refine own_st (T' := T5) (g' := (mkF m 56 #[rv a1, iv p2, own_jv (((P).toInt64) + ((p2).toInt64)), .second, own_jv (own_f17_0 (((P).toInt64) + ((p2).toInt64)) (own_f16_0 (((n).toInt64) * (2 : Int64)) (2147483639 : Int64))), .second] [(.long (own_f17_0 (((P).toInt64) + ((p2).toInt64)) (own_f16_0 (((n).toInt64) * (2 : Int64)) (2147483639 : Int64)))), (.ref t), (.ref a1)])) (fun _ k => XS.lload X5.here hx rfl (hb hby d15_54) rfl k) ?_
  refine own_st (T' := T5) (g' := (mkF m 57 #[rv a1, iv p2, own_jv (((P).toInt64) + ((p2).toInt64)), .second, own_jv (own_f17_0 (((P).toInt64) + ((p2).toInt64)) (own_f16_0 (((n).toInt64) * (2 : Int64)) (2147483639 : Int64))), .second] [(.int (((own_f17_0 (((P).toInt64) + ((p2).toInt64)) (own_f16_0 (((n).toInt64) * (2 : Int64)) (2147483639 : Int64)))).toInt32)), (.ref t), (.ref a1)])) (fun _ k => XS.l2i X5.here hx rfl (hb hby d15_56) rfl k) ?_
  have hz57 : (((own_f17_0 (((P).toInt64) + ((p2).toInt64)) (own_f16_0 (((n).toInt64) * (2 : Int64)) (2147483639 : Int64)))).toInt32) = z47 := hz47
  rw [hz57]
  obtain ⟨v6, T6, L6, X6, hQ6, st6⟩ := own_packS (Jvm.LawKit.callS X5 hx (y := (⟨"java/util/Arrays", "copyOf", "([BI)[B"⟩ : MethodName)) hown (mvT hZ (hw _ (List.mem_of_getElem? (i := 96) rfl))) (mvT hZ (hw _ (List.mem_of_getElem? (i := 97) rfl))) (mvT hZ (hw _ (List.mem_of_getElem? (i := 98) rfl))) (mvT hZ (hw _ (List.mem_of_getElem? (i := 99) rfl))) (by decide) (backOf (W := 1) (rm18 l Z a0 hw [] t z47 n h0 n0 Z0 Y_t (own_gp1 _ _ hg.2.2.1) (by omega) (own_gp2 _ hg.2.2.2 (by omega)) (own_gp3 _ _ hg.2.2.1) (by omega) (by omega)) hZ (hw _ (List.mem_of_getElem? (i := 99) rfl)) (hw _ (List.mem_of_getElem? (i := 98) rfl)) (by decide) (by decide)) (g := (mkF m 57 #[rv a1, iv p2, own_jv (((P).toInt64) + ((p2).toInt64)), .second, own_jv (own_f17_0 (((P).toInt64) + ((p2).toInt64)) (own_f16_0 (((n).toInt64) * (2 : Int64)) (2147483639 : Int64))), .second] [(.int z47), (.ref t), (.ref a1)])) rfl (by rw [hml]; rfl) (argsL := [(.ref t), (.int z47)]) (rest := [(.ref a1)]) (lenOf own_pd15_1 rfl) rfl (by show 2 * 0 + _ ≤ _; exact Nat.le_of_eq rfl) (hb hby d15_57) (fun _ _ => ⟨rfl, e5, (by decide : 0 + 1 ≤ _), (by decide : 0 + 2190 ≤ _)⟩))
  obtain ⟨t6, rfl, N6q, Eq6, hsz6, Yq6⟩ := hQ6
  obtain ⟨lc6, X6, N6⟩ := own_loc X6 (Fr.app N4 N6q)
  have ne_a1_t6 : a1 ≠ t6 := Nat.ne_of_lt (Nat.lt_of_lt_of_le E_a1.lt hsz6)
  have ne_t_t6 : t ≠ t6 := Nat.ne_of_lt (Nat.lt_of_lt_of_le Y_t.lt hsz6)
  have gn_t6 : n0 ≤ t6 := Nat.le_trans Z0 hsz6
  have sz_t6 : h0.size ≤ t6 := Nat.le_trans (Keep.refl h0 [a1]).1 hsz6
  have Zs6 : n0 ≤ T6.heap.size := Nat.le_trans Z0 Eq6.1
  have Fa7 : Exa Z T6.heap a1 "com/example/millrace/millrace/wire/ProtocolWriter" := E_a1.ext Eq6
  have Fa8 : Fld Z T6.heap a1 "com/example/millrace/millrace/wire/ProtocolWriter" "bytes" "[B" (.ref t) := F_b.ext Eq6
  have Fa9 : Fld Z T6.heap a1 "com/example/millrace/millrace/wire/ProtocolWriter" "position" "I" (.int P) := F_p.ext Eq6
  have Fa10 : own_Y Z T6.heap t n := Y_t.ext Eq6
  have Ke6 : Keep h0 T6.heap [a1] := (Keep.refl h0 [a1]).ext Eq6
  refine own_st (T' := T6) (g' := (mkF m 60 #[rv a1, iv p2, own_jv (((P).toInt64) + ((p2).toInt64)), .second, own_jv (own_f17_0 (((P).toInt64) + ((p2).toInt64)) (own_f16_0 (((n).toInt64) * (2 : Int64)) (2147483639 : Int64))), .second] [(.ref t6), (.ref a1)])) (fun _ k => (st6) _ k) ?_
  obtain ⟨T11, h11, X11, e11, W11, st11⟩ := putF X6 hx hZ hown (host := "") (Or.inl (hw _ (List.mem_of_getElem? (i := 22) rfl))) Via.refl rfl Fa8 Fa7 (Or.inl (hw _ (List.mem_of_getElem? (i := 23) rfl))) (hw _ (List.mem_of_getElem? (i := 11) rfl)) (ty := (.array .byte)) (by decide) rfl rfl (g := (mkF m 60 #[rv a1, iv p2, own_jv (((P).toInt64) + ((p2).toInt64)), .second, own_jv (own_f17_0 (((P).toInt64) + ((p2).toInt64)) (own_f16_0 (((n).toInt64) * (2 : Int64)) (2147483639 : Int64))), .second] [(.ref t6), (.ref a1)])) rfl rfl (hb hby d15_60)
  have Fw11 := Fa8.same W11
  have Zs11 : n0 ≤ h11.size := Nat.le_trans Zs6 (Keep.of_wr W11).1
  obtain ⟨lc11, X11, N11⟩ := own_loc X11 (Fr.snoc X11 N6 gn_a1)
  have Fa12 : Exa Z h11 a1 "com/example/millrace/millrace/wire/ProtocolWriter" := Fa7.wr W11
  have Fa13 : Fld Z h11 a1 "com/example/millrace/millrace/wire/ProtocolWriter" "position" "I" (.int P) := Fa9.other W11 (Or.inr (slot_ne (Or.inl (hw _ (List.mem_of_getElem? (i := 43) rfl))) (Or.inl (hw _ (List.mem_of_getElem? (i := 23) rfl))) (by decide) (t := .int) (t' := (.array .byte)) (by decide) (by decide)))
  have Fa14 : own_Y Z h11 t n := Fa10.other W11 (Ne.symm ne_a1_t)
  have Fa15 : own_Y Z h11 t6 z47 := Yq6.other W11 (Ne.symm ne_a1_t6)
  have Ke11 : Keep h0 h11 [a1] := Ke6.wr W11 (Or.inl (List.mem_of_getElem? (i := 0) rfl))
  refine own_st (T' := T11) (g' := (mkF m 63 #[rv a1, iv p2, own_jv (((P).toInt64) + ((p2).toInt64)), .second, own_jv (own_f17_0 (((P).toInt64) + ((p2).toInt64)) (own_f16_0 (((n).toInt64) * (2 : Int64)) (2147483639 : Int64))), .second] [])) (fun _ k => (st11) _ k) ?_
  exact own_end (Q := Q15 Z a1 p2 t P n h0 n0) (v := none) X11 (fun _ => rfl) (fun fs hr => X11.returnOut hx Bd.returns (hb hby d15_63) hr) (by rw [e11]; exact ⟨rfl, N11, Ke11, Fa12, ⟨t6, _, Or.inr sz_t6, gn_t6, Fw11, Fa13, Fa15, hg.2.1, by omega⟩⟩) (by decide) (by decide)
theorem own_sep {x t t' N : Nat} (h : t' = t ∨ N ≤ t') (hx : x ≠ t) (hl : x < N) : x ≠ t' := by
  rcases h with rfl | h
  · exact hx
  · exact Nat.ne_of_lt (Nat.lt_of_lt_of_le hl h)
theorem own_e1 (P p2 n : Int32) (hP0 : 0 ≤ P.toInt) (hn0 : 0 < n.toInt) (h : (n - P) < p2) : n.toInt < P.toInt + p2.toInt := by
  rw [Int32.lt_iff_toInt_lt, own_subI n P (by have := rng32 P; omega) (by have := rng32 n; omega)] at h; omega
theorem own_e2 (P p2 n : Int32) (hP0 : 0 ≤ P.toInt) (hn0 : 0 < n.toInt) (h : ¬ (n - P) < p2) : P.toInt + p2.toInt ≤ n.toInt := by
  rw [Int32.lt_iff_toInt_lt, own_subI n P (by have := rng32 P; omega) (by have := rng32 n; omega)] at h; omega
theorem d7_0 : decode prog_128_method_34_code 0 = .ok (.iload_n 1, 1) := by decide +kernel
theorem d7_1 : decode prog_128_method_34_code 1 = .ok (.aload_n 0, 1) := by decide +kernel
theorem d7_2 : decode prog_128_method_34_code 2 = .ok (.getfield 13, 3) := by decide +kernel
theorem d7_5 : decode prog_128_method_34_code 5 = .ok (.arraylength, 1) := by decide +kernel
theorem d7_6 : decode prog_128_method_34_code 6 = .ok (.aload_n 0, 1) := by decide +kernel
theorem d7_7 : decode prog_128_method_34_code 7 = .ok (.getfield 19, 3) := by decide +kernel
theorem d7_10 : decode prog_128_method_34_code 10 = .ok (.isub, 1) := by decide +kernel
theorem d7_11 : decode prog_128_method_34_code 11 = .ok (.if_icmp .le 8, 3) := by decide +kernel
theorem d7_14 : decode prog_128_method_34_code 14 = .ok (.aload_n 0, 1) := by decide +kernel
theorem d7_15 : decode prog_128_method_34_code 15 = .ok (.iload_n 1, 1) := by decide +kernel
theorem d7_16 : decode prog_128_method_34_code 16 = .ok (.invokevirtual 182, 3) := by decide +kernel
theorem d7_19 : decode prog_128_method_34_code 19 = .ok (.return_, 1) := by decide +kernel
theorem own_pn7 : plainName "com/example/millrace/millrace/wire/ProtocolWriter" = true := by first | (simp [plainName, overriddenIn]; done) | decide +kernel
theorem own_pd7_0 : parseMethodDescriptor "(I)V" = some ⟨[.int], none⟩ := by decide +kernel
theorem own_ef7 (m : MethodId) (x0 : Addr) (x1 : Int32) : entryFrame m #[(.ref x0), (.int x1)] 2 = mkF m 0 #[rv x0, iv x1] [] := by first | (simp [entryFrame, mkF, argsToLocals, Value.category]; done) | rfl
def Q7 (Z : State) (a1 : Addr) (p2 : Int32) (t : Addr) (P n : Int32) (h0 : Heap) (n0 : Nat) (v : Option Value) (h : Heap) (L : List Loc) : Prop := v = none ∧ Fr n0 L ∧ Keep h0 h [a1] ∧ Exa Z h a1 "com/example/millrace/millrace/wire/ProtocolWriter" ∧ ∃ (t' : Addr) (n' : Int32), (t' = t ∨ h0.size ≤ t') ∧ n0 ≤ t' ∧ Fld Z h a1 "com/example/millrace/millrace/wire/ProtocolWriter" "bytes" "[B" (.ref t') ∧ Fld Z h a1 "com/example/millrace/millrace/wire/ProtocolWriter" "position" "I" (.int P) ∧ own_Y Z h t' n' ∧ P.toInt + p2.toInt ≤ n'.toInt ∧ (n'.toInt ≤ P.toInt + p2.toInt ∨ n'.toInt ≤ 2 * n.toInt)
set_option maxRecDepth 65536 in
set_option maxHeartbeats 40000000 in
theorem rm7 (l : Launch) (Z : State) (a0 : Array Value) (hw : ∀ d ∈ tables_1, d.before a0 Z = true) (ws : List Jvm.Cond) (a1 : Addr) (p2 : Int32) (t : Addr) (P n : Int32) (h0 : Heap) (n0 : Nat) (Z0 : n0 ≤ h0.size) (E_a1 : Exa Z h0 a1 "com/example/millrace/millrace/wire/ProtocolWriter") (F_b : Fld Z h0 a1 "com/example/millrace/millrace/wire/ProtocolWriter" "bytes" "[B" (.ref t)) (F_p : Fld Z h0 a1 "com/example/millrace/millrace/wire/ProtocolWriter" "position" "I" (.int P)) (Y_t : own_Y Z h0 t n) (gn_a1 : n0 ≤ a1) (hne : a1 ≠ t) (gn_t : n0 ≤ t) (hP0 : 0 ≤ P.toInt) (hP : P.toInt ≤ 90) (hm0 : 0 ≤ p2.toInt) (hm : p2.toInt ≤ 2100) (hn0 : 0 < n.toInt) (hn : n.toInt ≤ 300) :
    MetFree l (⟨"com/example/millrace/millrace/wire/ProtocolWriter", "ensure", "(I)V"⟩ : MethodName) (head1 (Jvm.Cond.code (⟨"com/example/millrace/millrace/wire/ProtocolWriter", "ensure", "(I)V"⟩ : MethodName) prog_128_method_34_code 2 none :: ws) ({ frames := 3, cells := 1, slots := 2190, locals := 77 } : Room)) (fun a U => a = #[(.ref a1), (.int p2)] ∧ Z.Warmed39 U.vm ∧ U.heap = h0) (fun _ _ _ _ _ => True) (fun _ U o U' => ∃ v L, o = .returned v ∧ Q7 Z a1 p2 t P n h0 n0 v U'.heap L ∧ FrameEnd U o U' L ({ frames := 3, cells := 1, slots := 2190, locals := 77 } : Room).cells ({ frames := 3, cells := 1, slots := 2190, locals := 77 } : Room).slots) := by
  refine MetFree.of_bodySF (plainFor_of_name own_pn7) hisR ?_
  intro p e s m args below meth c s₁ Bd hml0 hP hK
  obtain ⟨rfl, hZ, hh⟩ := hP
  have hx := Bd.exec
  have hby := Bd.bytes
  have hml : c.maxLocals = 2 := hml0
  have hown : s.vm.findClass "com/example/millrace/millrace/wire/ProtocolWriter" = some m.cls := findClass_of_methodNamed Bd.named
  have hnm := (name_of_methodNamed Bd.named Bd.method).1
  have hlk := Bd.notSynchronized
  have X0 : Stand p l e ({ frames := 3, cells := 1, slots := 2190, locals := 77 } : Room) s m #[(.ref a1), (.int p2)] below meth c s₁ [] 0 0 := Stand.of_body Bd
  have e0 : s₁.heap = h0 := by rw [← hh, Bd.state]; rfl
  have N0 := Fr.nil n0
  show own_Goes p e below (fun o U' => ∃ v L, o = .returned v ∧ Q7 Z a1 p2 t P n h0 n0 v U'.heap L ∧ FrameEnd s o U' L ({ frames := 3, cells := 1, slots := 2190, locals := 77 } : Room).cells ({ frames := 3, cells := 1, slots := 2190, locals := 77 } : Room).slots) s₁ (entryFrame m #[(.ref a1), (.int p2)] 2)
  refine own_st (T' := s₁) (g' := mkF m 0 #[rv a1, iv p2] []) (fun _ k => castTop (own_ef7 m a1 p2) k) ?_
  have ne_a1_t := hne
  refine own_st (T' := s₁) (g' := (mkF m 1 #[rv a1, iv p2] [(.int p2)])) (fun _ k => XS.iloadN X0.here hx rfl (hb hby d7_0) rfl k) ?_
  refine own_st (T' := s₁) (g' := (mkF m 2 #[rv a1, iv p2] [(.ref a1), (.int p2)])) (fun _ k => XS.aloadN X0.here hx rfl (hb hby d7_1) rfl rfl k) ?_
  obtain ⟨T1, X1, e1, st1⟩ := getF X0 hx hZ hown (host := "") (Or.inl (hw _ (List.mem_of_getElem? (i := 22) rfl))) Via.refl e0 F_b (g := (mkF m 2 #[rv a1, iv p2] [(.ref a1), (.int p2)])) rfl rfl (hb hby d7_2)
  refine own_st (T' := T1) (g' := (mkF m 5 #[rv a1, iv p2] [(.ref t), (.int p2)])) (fun _ k => (st1) _ k) ?_
  refine own_st (T' := T1) (g' := (mkF m 6 #[rv a1, iv p2] [(.int n), (.int p2)])) (fun _ k => (own_alen X1 hx hZ e1 Y_t (g := (mkF m 5 #[rv a1, iv p2] [(.ref t), (.int p2)])) rfl rfl (hb hby d7_5)) _ k) ?_
  refine own_st (T' := T1) (g' := (mkF m 7 #[rv a1, iv p2] [(.ref a1), (.int n), (.int p2)])) (fun _ k => XS.aloadN X1.here hx rfl (hb hby d7_6) rfl rfl k) ?_
  obtain ⟨T2, X2, e2, st2⟩ := getF X1 hx hZ hown (host := "") (Or.inl (hw _ (List.mem_of_getElem? (i := 42) rfl))) Via.refl e1 F_p (g := (mkF m 7 #[rv a1, iv p2] [(.ref a1), (.int n), (.int p2)])) rfl rfl (hb hby d7_7)
  refine own_st (T' := T2) (g' := (mkF m 10 #[rv a1, iv p2] [(.int P), (.int n), (.int p2)])) (fun _ k => (st2) _ k) ?_
  refine own_st (T' := T2) (g' := (mkF m 11 #[rv a1, iv p2] [(.int (n - P)), (.int p2)])) (fun _ k => XS.isub X2.here hx rfl (hb hby d7_10) rfl k) ?_
  by_cases hc11 : (n - P) < p2
  · refine own_st (T' := T2) (g' := (mkF m 14 #[rv a1, iv p2] [])) (fun _ k => XS.icmpNo X2.here hx rfl (hb hby d7_11) rfl (tlt hc11).2.2.2 k) ?_
    refine own_st (T' := T2) (g' := (mkF m 15 #[rv a1, iv p2] [(.ref a1)])) (fun _ k => XS.aloadN X2.here hx rfl (hb hby d7_14) rfl rfl k) ?_
    refine own_st (T' := T2) (g' := (mkF m 16 #[rv a1, iv p2] [(.int p2), (.ref a1)])) (fun _ k => XS.iloadN X2.here hx rfl (hb hby d7_15) rfl k) ?_
    obtain ⟨cq3, q3, q3'⟩ := E_a1.cell
    obtain ⟨v3, T3, L3, X3, hQ3, st3⟩ := own_packV (X2.privateBack hx (y := (⟨"com/example/millrace/millrace/wire/ProtocolWriter", "grow", "(I)V"⟩ : MethodName)) hown (mvT hZ (hw _ (List.mem_of_getElem? (i := 84) rfl))) (mvT hZ (hw _ (List.mem_of_getElem? (i := 85) rfl))) (own_selP (mvT hZ (hw _ (List.mem_of_getElem? (i := 11) rfl))) (Cond.privateMethod_at (mvP hZ (hw _ (List.mem_of_getElem? (i := 86) rfl)) (args := #[]))) (mvT hZ (hw _ (List.mem_of_getElem? (i := 85) rfl))) (by decide)) (Cond.privateMethod_at (mvP hZ (hw _ (List.mem_of_getElem? (i := 86) rfl)) (args := #[]))) (mvT hZ (hw _ (List.mem_of_getElem? (i := 87) rfl))) (by decide) (backOf (W := 0) (rm15 l Z a0 hw [] a1 p2 t P n h0 n0 Z0 E_a1 F_b F_p Y_t gn_a1 hne hP0 hP hm0 hm hn0 hn (own_e1 P p2 n hP0 hn0 hc11)) hZ (hw _ (List.mem_of_getElem? (i := 87) rfl)) (hw _ (List.mem_of_getElem? (i := 12) rfl)) (by decide) (by decide)) (g := (mkF m 16 #[rv a1, iv p2] [(.int p2), (.ref a1)])) rfl (by rw [hml]; rfl) (Steps.refl _) (a := a1) (by rw [e2]; exact q3) q3' (argsL := [(.int p2)]) (rest := []) (lenOf own_pd7_0 rfl) rfl (by show 2 * 0 + _ ≤ _; exact Nat.le_of_eq rfl) (hb hby d7_16) (fun _ _ => ⟨rfl, e2, (by decide : 0 + 1 ≤ _), (by decide : 0 + 2190 ≤ _)⟩))
    obtain ⟨rfl, N3q, Kq3, Eq3, t3, nn3, ht3, gn_t3, Fb3, Fp3, Yq3, hA3, hB3⟩ := hQ3
    obtain ⟨lc3, X3, N3⟩ := own_loc X3 (Fr.app N0 N3q)
    have Ke3 : Keep h0 T3.heap [a1] := (Keep.refl h0 [a1]).trans Kq3 (allS (Or.inl (List.mem_of_getElem? (i := 0) rfl)) all0)
    refine own_st (T' := T3) (g' := (mkF m 19 #[rv a1, iv p2] [])) (fun _ k => (st3) _ k) ?_
    exact own_end (Q := Q7 Z a1 p2 t P n h0 n0) (v := none) X3 (fun _ => rfl) (fun fs hr => X3.returnOut hx Bd.returns (hb hby d7_19) hr) (⟨rfl, N3, Ke3, Eq3, ⟨t3, nn3, ht3, gn_t3, Fb3, Fp3, Yq3, hA3, hB3⟩⟩) (by decide) (by decide)
  · refine own_st (T' := T2) (g' := (mkF m 19 #[rv a1, iv p2] [])) (fun _ k => XS.icmpYes X2.here hx rfl (pc0 := 11) (pc' := 19) rfl (hb hby d7_11) rfl (flt hc11).2.2.2 (by decide) (by decide) k) ?_
    exact own_end (Q := Q7 Z a1 p2 t P n h0 n0) (v := none) X2 (fun _ => rfl) (fun fs hr => X2.returnOut hx Bd.returns (hb hby d7_19) hr) (by rw [e2]; exact ⟨rfl, N0, (Keep.refl h0 [a1]), E_a1, ⟨t, n, Or.inl rfl, gn_t, F_b, F_p, Y_t, own_e2 P p2 n hP0 hn0 hc11, Or.inr (by omega)⟩⟩) (by decide) (by decide)
theorem d14_0 : decode prog_128_method_16_code 0 = .ok (.aload_n 0, 1) := by decide +kernel
theorem d14_1 : decode prog_128_method_16_code 1 = .ok (.iload_n 1, 1) := by decide +kernel
theorem d14_2 : decode prog_128_method_16_code 2 = .ok (.invokevirtual 54, 3) := by decide +kernel
theorem d14_5 : decode prog_128_method_16_code 5 = .ok (.aload_n 0, 1) := by decide +kernel
theorem d14_6 : decode prog_128_method_16_code 6 = .ok (.getfield 13, 3) := by decide +kernel
theorem d14_9 : decode prog_128_method_16_code 9 = .ok (.areturn, 1) := by decide +kernel
theorem own_pn14 : plainName "com/example/millrace/millrace/wire/ProtocolWriter" = true := by first | (simp [plainName, overriddenIn]; done) | decide +kernel
theorem own_pd14_0 : parseMethodDescriptor "(I)V" = some ⟨[.int], none⟩ := by decide +kernel
theorem own_ef14 (m : MethodId) (x0 : Addr) (x1 : Int32) : entryFrame m #[(.ref x0), (.int x1)] 2 = mkF m 0 #[rv x0, iv x1] [] := by first | (simp [entryFrame, mkF, argsToLocals, Value.category]; done) | rfl
def Q14 (Z : State) (a1 : Addr) (p2 : Int32) (t : Addr) (P n : Int32) (h0 : Heap) (n0 : Nat) (v : Option Value) (h : Heap) (L : List Loc) : Prop := Fr n0 L ∧ Keep h0 h [a1] ∧ Exa Z h a1 "com/example/millrace/millrace/wire/ProtocolWriter" ∧ ∃ (t' : Addr) (n' : Int32), v = some (.ref t') ∧ (t' = t ∨ h0.size ≤ t') ∧ n0 ≤ t' ∧ Fld Z h a1 "com/example/millrace/millrace/wire/ProtocolWriter" "bytes" "[B" (.ref t') ∧ Fld Z h a1 "com/example/millrace/millrace/wire/ProtocolWriter" "position" "I" (.int P) ∧ own_Y Z h t' n' ∧ P.toInt + p2.toInt ≤ n'.toInt ∧ (n'.toInt ≤ P.toInt + p2.toInt ∨ n'.toInt ≤ 2 * n.toInt)
set_option maxRecDepth 65536 in
set_option maxHeartbeats 40000000 in
theorem rm14 (l : Launch) (Z : State) (a0 : Array Value) (hw : ∀ d ∈ tables_1, d.before a0 Z = true) (ws : List Jvm.Cond) (a1 : Addr) (p2 : Int32) (t : Addr) (P n : Int32) (h0 : Heap) (n0 : Nat) (Z0 : n0 ≤ h0.size) (E_a1 : Exa Z h0 a1 "com/example/millrace/millrace/wire/ProtocolWriter") (F_b : Fld Z h0 a1 "com/example/millrace/millrace/wire/ProtocolWriter" "bytes" "[B" (.ref t)) (F_p : Fld Z h0 a1 "com/example/millrace/millrace/wire/ProtocolWriter" "position" "I" (.int P)) (Y_t : own_Y Z h0 t n) (gn_a1 : n0 ≤ a1) (hne : a1 ≠ t) (gn_t : n0 ≤ t) (hP0 : 0 ≤ P.toInt) (hP : P.toInt ≤ 90) (hm0 : 0 ≤ p2.toInt) (hm : p2.toInt ≤ 2100) (hn0 : 0 < n.toInt) (hn : n.toInt ≤ 300) :
    MetFree l (⟨"com/example/millrace/millrace/wire/ProtocolWriter", "reserve", "(I)[B"⟩ : MethodName) (head1 (Jvm.Cond.code (⟨"com/example/millrace/millrace/wire/ProtocolWriter", "reserve", "(I)[B"⟩ : MethodName) prog_128_method_16_code 2 (some (.array .byte)) :: ws) ({ frames := 4, cells := 1, slots := 2190, locals := 90 } : Room)) (fun a U => a = #[(.ref a1), (.int p2)] ∧ Z.Warmed39 U.vm ∧ U.heap = h0) (fun _ _ _ _ _ => True) (fun _ U o U' => ∃ v L, o = .returned v ∧ Q14 Z a1 p2 t P n h0 n0 v U'.heap L ∧ FrameEnd U o U' L ({ frames := 4, cells := 1, slots := 2190, locals := 90 } : Room).cells ({ frames := 4, cells := 1, slots := 2190, locals := 90 } : Room).slots) := by
  refine MetFree.of_bodySF (plainFor_of_name own_pn14) hisR ?_
  intro p e s m args below meth c s₁ Bd hml0 hP hK
  obtain ⟨rfl, hZ, hh⟩ := hP
  have hx := Bd.exec
  have hby := Bd.bytes
  have hml : c.maxLocals = 2 := hml0
  have hown : s.vm.findClass "com/example/millrace/millrace/wire/ProtocolWriter" = some m.cls := findClass_of_methodNamed Bd.named
  have hnm := (name_of_methodNamed Bd.named Bd.method).1
  have hlk := Bd.notSynchronized
  have X0 : Stand p l e ({ frames := 4, cells := 1, slots := 2190, locals := 90 } : Room) s m #[(.ref a1), (.int p2)] below meth c s₁ [] 0 0 := Stand.of_body Bd
  have e0 : s₁.heap = h0 := by rw [← hh, Bd.state]; rfl
  have N0 := Fr.nil n0
  show own_Goes p e below (fun o U' => ∃ v L, o = .returned v ∧ Q14 Z a1 p2 t P n h0 n0 v U'.heap L ∧ FrameEnd s o U' L ({ frames := 4, cells := 1, slots := 2190, locals := 90 } : Room).cells ({ frames := 4, cells := 1, slots := 2190, locals := 90 } : Room).slots) s₁ (entryFrame m #[(.ref a1), (.int p2)] 2)
  refine own_st (T' := s₁) (g' := mkF m 0 #[rv a1, iv p2] []) (fun _ k => castTop (own_ef14 m a1 p2) k) ?_
  have ne_a1_t := hne
  refine own_st (T' := s₁) (g' := (mkF m 1 #[rv a1, iv p2] [(.ref a1)])) (fun _ k => XS.aloadN X0.here hx rfl (hb hby d14_0) rfl rfl k) ?_
  refine own_st (T' := s₁) (g' := (mkF m 2 #[rv a1, iv p2] [(.int p2), (.ref a1)])) (fun _ k => XS.iloadN X0.here hx rfl (hb hby d14_1) rfl k) ?_
  obtain ⟨cq1, q1, q1'⟩ := E_a1.cell
  obtain ⟨v1, T1, L1, X1, hQ1, st1⟩ := own_packV (X0.privateBack hx (y := (⟨"com/example/millrace/millrace/wire/ProtocolWriter", "ensure", "(I)V"⟩ : MethodName)) hown (mvT hZ (hw _ (List.mem_of_getElem? (i := 38) rfl))) (mvT hZ (hw _ (List.mem_of_getElem? (i := 39) rfl))) (own_selP (mvT hZ (hw _ (List.mem_of_getElem? (i := 11) rfl))) (Cond.privateMethod_at (mvP hZ (hw _ (List.mem_of_getElem? (i := 40) rfl)) (args := #[]))) (mvT hZ (hw _ (List.mem_of_getElem? (i := 39) rfl))) (by decide)) (Cond.privateMethod_at (mvP hZ (hw _ (List.mem_of_getElem? (i := 40) rfl)) (args := #[]))) (mvT hZ (hw _ (List.mem_of_getElem? (i := 41) rfl))) (by decide) (backOf (W := 0) (rm7 l Z a0 hw [] a1 p2 t P n h0 n0 Z0 E_a1 F_b F_p Y_t gn_a1 hne gn_t hP0 hP hm0 hm hn0 hn) hZ (hw _ (List.mem_of_getElem? (i := 41) rfl)) (hw _ (List.mem_of_getElem? (i := 12) rfl)) (by decide) (by decide)) (g := (mkF m 2 #[rv a1, iv p2] [(.int p2), (.ref a1)])) rfl (by rw [hml]; rfl) (Steps.refl _) (a := a1) (by rw [e0]; exact q1) q1' (argsL := [(.int p2)]) (rest := []) (lenOf own_pd14_0 rfl) rfl (by show 2 * 0 + _ ≤ _; exact Nat.le_of_eq rfl) (hb hby d14_2) (fun _ _ => ⟨rfl, e0, (by decide : 0 + 1 ≤ _), (by decide : 0 + 2190 ≤ _)⟩))
  obtain ⟨rfl, N1q, Kq1, Eq1, t1, nn1, ht1, gn_t1, Fb1, Fp1, Yq1, hA1, hB1⟩ := hQ1
  obtain ⟨lc1, X1, N1⟩ := own_loc X1 (Fr.app N0 N1q)
  have Ke1 : Keep h0 T1.heap [a1] := (Keep.refl h0 [a1]).trans Kq1 (allS (Or.inl (List.mem_of_getElem? (i := 0) rfl)) all0)
  refine own_st (T' := T1) (g' := (mkF m 5 #[rv a1, iv p2] [])) (fun _ k => (st1) _ k) ?_
  refine own_st (T' := T1) (g' := (mkF m 6 #[rv a1, iv p2] [(.ref a1)])) (fun _ k => XS.aloadN X1.here hx rfl (hb hby d14_5) rfl rfl k) ?_
  obtain ⟨T2, X2, e2, st2⟩ := getF X1 hx hZ hown (host := "") (Or.inl (hw _ (List.mem_of_getElem? (i := 22) rfl))) Via.refl rfl Fb1 (g := (mkF m 6 #[rv a1, iv p2] [(.ref a1)])) rfl rfl (hb hby d14_6)
  refine own_st (T' := T2) (g' := (mkF m 9 #[rv a1, iv p2] [(.ref t1)])) (fun _ k => (st2) _ k) ?_
  exact own_end (Q := Q14 Z a1 p2 t P n h0 n0) (v := some (.ref t1)) X2 (fun h => by rw [Bd.returns] at h; cases h) (fun fs hr => X2.areturnOut hx rfl Bd.returns rfl (hb hby d14_9) hr) (by rw [e2]; exact ⟨N1, Ke1, Eq1, ⟨t1, nn1, rfl, ht1, gn_t1, Fb1, Fp1, Yq1, hA1, hB1⟩⟩) (by decide) (by decide)
theorem own_w1 {n : Int32} (h : (0 : Int32).toInt + (61 : Int32).toInt ≤ n.toInt) : 61 ≤ n.toInt := by have e : (61 : Int32).toInt = 61 := rfl; have e0 : (0 : Int32).toInt = 0 := rfl; omega
theorem own_w2 {n : Int32} (h : n.toInt ≤ (0 : Int32).toInt + (61 : Int32).toInt ∨ n.toInt ≤ 2 * (61 : Int32).toInt) : n.toInt ≤ 122 := by have e : (61 : Int32).toInt = 61 := rfl; have e0 : (0 : Int32).toInt = 0 := rfl; omega
theorem d6_0 : decode prog_128_method_23_code 0 = .ok (.aload_n 0, 1) := by decide +kernel
theorem d6_1 : decode prog_128_method_23_code 1 = .ok (.iload_n 3, 1) := by decide +kernel
theorem d6_2 : decode prog_128_method_23_code 2 = .ok (.invokevirtual 54, 3) := by decide +kernel
theorem d6_5 : decode prog_128_method_23_code 5 = .ok (.aload_n 1, 1) := by decide +kernel
theorem d6_6 : decode prog_128_method_23_code 6 = .ok (.iload_n 2, 1) := by decide +kernel
theorem d6_7 : decode prog_128_method_23_code 7 = .ok (.aload_n 0, 1) := by decide +kernel
theorem d6_8 : decode prog_128_method_23_code 8 = .ok (.getfield 13, 3) := by decide +kernel
theorem d6_11 : decode prog_128_method_23_code 11 = .ok (.aload_n 0, 1) := by decide +kernel
theorem d6_12 : decode prog_128_method_23_code 12 = .ok (.getfield 19, 3) := by decide +kernel
theorem d6_15 : decode prog_128_method_23_code 15 = .ok (.iload_n 3, 1) := by decide +kernel
theorem d6_16 : decode prog_128_method_23_code 16 = .ok (.invokestatic 93, 3) := by decide +kernel
theorem d6_19 : decode prog_128_method_23_code 19 = .ok (.aload_n 0, 1) := by decide +kernel
theorem d6_20 : decode prog_128_method_23_code 20 = .ok (.dup, 1) := by decide +kernel
theorem d6_21 : decode prog_128_method_23_code 21 = .ok (.getfield 19, 3) := by decide +kernel
theorem d6_24 : decode prog_128_method_23_code 24 = .ok (.iload_n 3, 1) := by decide +kernel
theorem d6_25 : decode prog_128_method_23_code 25 = .ok (.iadd, 1) := by decide +kernel
theorem d6_26 : decode prog_128_method_23_code 26 = .ok (.putfield 19, 3) := by decide +kernel
theorem d6_29 : decode prog_128_method_23_code 29 = .ok (.aload_n 0, 1) := by decide +kernel
theorem d6_30 : decode prog_128_method_23_code 30 = .ok (.areturn, 1) := by decide +kernel
theorem own_pn6 : plainName "com/example/millrace/millrace/wire/ProtocolWriter" = true := by first | (simp [plainName, overriddenIn]; done) | decide +kernel
theorem own_pd6_0 : parseMethodDescriptor "(I)V" = some ⟨[.int], none⟩ := by decide +kernel
theorem own_ef6 (m : MethodId) (x0 : Addr) (x1 : Addr) (x2 : Int32) (x3 : Int32) : entryFrame m #[(.ref x0), (.ref x1), (.int x2), (.int x3)] 4 = mkF m 0 #[rv x0, rv x1, iv x2, iv x3] [] := by first | (simp [entryFrame, mkF, argsToLocals, Value.category]; done) | rfl
def Q6 (Z : State) (a1 : Addr) (hd : Addr) (t : Addr) (h0 : Heap) (n0 : Nat) (v : Option Value) (h : Heap) (L : List Loc) : Prop := v = some (.ref a1) ∧ Fr n0 L ∧ Keep h0 h [a1, t] ∧ Exa Z h a1 "com/example/millrace/millrace/wire/ProtocolWriter" ∧ ∃ (t' : Addr) (n' : Int32), (t' = t ∨ h0.size ≤ t') ∧ n0 ≤ t' ∧ Fld Z h a1 "com/example/millrace/millrace/wire/ProtocolWriter" "bytes" "[B" (.ref t') ∧ Fld Z h a1 "com/example/millrace/millrace/wire/ProtocolWriter" "position" "I" (.int (61 : Int32)) ∧ own_Y Z h t' n' ∧ 61 ≤ n'.toInt ∧ n'.toInt ≤ 122
set_option maxRecDepth 65536 in
set_option maxHeartbeats 40000000 in
theorem rm6 (l : Launch) (Z : State) (a0 : Array Value) (hw : ∀ d ∈ tables_1, d.before a0 Z = true) (ws : List Jvm.Cond) (a1 : Addr) (hd : Addr) (t : Addr) (h0 : Heap) (n0 : Nat) (Z0 : n0 ≤ h0.size) (E_a1 : Exa Z h0 a1 "com/example/millrace/millrace/wire/ProtocolWriter") (F_b : Fld Z h0 a1 "com/example/millrace/millrace/wire/ProtocolWriter" "bytes" "[B" (.ref t)) (F_p : Fld Z h0 a1 "com/example/millrace/millrace/wire/ProtocolWriter" "position" "I" (.int (0 : Int32))) (Y_t : own_Y Z h0 t (61 : Int32)) (Y_hd : own_Y Z h0 hd (61 : Int32)) (gn_a1 : n0 ≤ a1) (gn_t : n0 ≤ t) (hne : a1 ≠ t) (hne1 : a1 ≠ hd) (hne2 : t ≠ hd) :
    MetFree l (⟨"com/example/millrace/millrace/wire/ProtocolWriter", "writeBytes", "([BII)Lcom/example/millrace/millrace/wire/ProtocolWriter;"⟩ : MethodName) (head1 (Jvm.Cond.code (⟨"com/example/millrace/millrace/wire/ProtocolWriter", "writeBytes", "([BII)Lcom/example/millrace/millrace/wire/ProtocolWriter;"⟩ : MethodName) prog_128_method_23_code 4 (some (.object "com/example/millrace/millrace/wire/ProtocolWriter")) :: ws) ({ frames := 4, cells := 1, slots := 2190, locals := 90 } : Room)) (fun a U => a = #[(.ref a1), (.ref hd), (.int (0 : Int32)), (.int (61 : Int32))] ∧ Z.Warmed39 U.vm ∧ U.heap = h0) (fun _ _ _ _ _ => True) (fun _ U o U' => ∃ v L, o = .returned v ∧ Q6 Z a1 hd t h0 n0 v U'.heap L ∧ FrameEnd U o U' L ({ frames := 4, cells := 1, slots := 2190, locals := 90 } : Room).cells ({ frames := 4, cells := 1, slots := 2190, locals := 90 } : Room).slots) := by
  refine MetFree.of_bodySF (plainFor_of_name own_pn6) hisR ?_
  intro p e s m args below meth c s₁ Bd hml0 hP hK
  obtain ⟨rfl, hZ, hh⟩ := hP
  have hx := Bd.exec
  have hby := Bd.bytes
  have hml : c.maxLocals = 4 := hml0
  have hown : s.vm.findClass "com/example/millrace/millrace/wire/ProtocolWriter" = some m.cls := findClass_of_methodNamed Bd.named
  have hnm := (name_of_methodNamed Bd.named Bd.method).1
  have hlk := Bd.notSynchronized
  have X0 : Stand p l e ({ frames := 4, cells := 1, slots := 2190, locals := 90 } : Room) s m #[(.ref a1), (.ref hd), (.int (0 : Int32)), (.int (61 : Int32))] below meth c s₁ [] 0 0 := Stand.of_body Bd
  have e0 : s₁.heap = h0 := by rw [← hh, Bd.state]; rfl
  have N0 := Fr.nil n0
  show own_Goes p e below (fun o U' => ∃ v L, o = .returned v ∧ Q6 Z a1 hd t h0 n0 v U'.heap L ∧ FrameEnd s o U' L ({ frames := 4, cells := 1, slots := 2190, locals := 90 } : Room).cells ({ frames := 4, cells := 1, slots := 2190, locals := 90 } : Room).slots) s₁ (entryFrame m #[(.ref a1), (.ref hd), (.int (0 : Int32)), (.int (61 : Int32))] 4)
  refine own_st (T' := s₁) (g' := mkF m 0 #[rv a1, rv hd, iv (0 : Int32), iv (61 : Int32)] []) (fun _ k => castTop (own_ef6 m a1 hd (0 : Int32) (61 : Int32)) k) ?_
  have ne_a1_t := hne
  have ne_a1_hd := hne1
  have ne_t_hd := hne2
  refine own_st (T' := s₁) (g' := (mkF m 1 #[rv a1, rv hd, iv (0 : Int32), iv (61 : Int32)] [(.ref a1)])) (fun _ k => XS.aloadN X0.here hx rfl (hb hby d6_0) rfl rfl k) ?_
  refine own_st (T' := s₁) (g' := (mkF m 2 #[rv a1, rv hd, iv (0 : Int32), iv (61 : Int32)] [(.int (61 : Int32)), (.ref a1)])) (fun _ k => XS.iloadN X0.here hx rfl (hb hby d6_1) rfl k) ?_
  obtain ⟨cq1, q1, q1'⟩ := E_a1.cell
  obtain ⟨v1, T1, L1, X1, hQ1, st1⟩ := own_packV (X0.privateBack hx (y := (⟨"com/example/millrace/millrace/wire/ProtocolWriter", "ensure", "(I)V"⟩ : MethodName)) hown (mvT hZ (hw _ (List.mem_of_getElem? (i := 38) rfl))) (mvT hZ (hw _ (List.mem_of_getElem? (i := 39) rfl))) (own_selP (mvT hZ (hw _ (List.mem_of_getElem? (i := 11) rfl))) (Cond.privateMethod_at (mvP hZ (hw _ (List.mem_of_getElem? (i := 40) rfl)) (args := #[]))) (mvT hZ (hw _ (List.mem_of_getElem? (i := 39) rfl))) (by decide)) (Cond.privateMethod_at (mvP hZ (hw _ (List.mem_of_getElem? (i := 40) rfl)) (args := #[]))) (mvT hZ (hw _ (List.mem_of_getElem? (i := 41) rfl))) (by decide) (backOf (W := 0) (rm7 l Z a0 hw [] a1 (61 : Int32) t (0 : Int32) (61 : Int32) h0 n0 Z0 E_a1 F_b F_p Y_t gn_a1 ne_a1_t gn_t (by decide) (by decide) (by decide) (by decide) (by decide) (by decide)) hZ (hw _ (List.mem_of_getElem? (i := 41) rfl)) (hw _ (List.mem_of_getElem? (i := 12) rfl)) (by decide) (by decide)) (g := (mkF m 2 #[rv a1, rv hd, iv (0 : Int32), iv (61 : Int32)] [(.int (61 : Int32)), (.ref a1)])) rfl (by rw [hml]; rfl) (Steps.refl _) (a := a1) (by rw [e0]; exact q1) q1' (argsL := [(.int (61 : Int32))]) (rest := []) (lenOf own_pd6_0 rfl) rfl (by show 2 * 0 + _ ≤ _; exact Nat.le_of_eq rfl) (hb hby d6_2) (fun _ _ => ⟨rfl, e0, (by decide : 0 + 1 ≤ _), (by decide : 0 + 2190 ≤ _)⟩))
  obtain ⟨rfl, N1q, Kq1, Eq1, t1, nn1, ht1, gn_t1, Fb1, Fp1, Yq1, hA1, hB1⟩ := hQ1
  obtain ⟨lc1, X1, N1⟩ := own_loc X1 (Fr.app N0 N1q)
  have ne_a1_t1 : a1 ≠ t1 := own_sep ht1 ne_a1_t E_a1.lt
  have ne_hd_t1 : hd ≠ t1 := own_sep ht1 (Ne.symm ne_t_hd) Y_hd.lt
  have Zs1 : n0 ≤ T1.heap.size := Nat.le_trans Z0 Kq1.1
  have ws_t1 : t1 ∈ [a1, t] ∨ h0.size ≤ t1 := ht1.elim (fun q => by rw [q]; exact (Or.inl (List.mem_of_getElem? (i := 1) rfl))) (fun q => Or.inr (Nat.le_trans (Keep.refl h0 [a1, t]).1 q))
  have hto1 : t1 = t ∨ h0.size ≤ t1 := ht1.imp id (fun q => Nat.le_trans (Keep.refl h0 [a1, t]).1 q)
  have Fa2 : own_Y Z T1.heap hd (61 : Int32) := Y_hd.keep Kq1 (ninS (Ne.symm ne_a1_hd) nin0)
  have Ke1 : Keep h0 T1.heap [a1, t] := (Keep.refl h0 [a1, t]).trans Kq1 (allS (Or.inl (List.mem_of_getElem? (i := 0) rfl)) all0)
  refine own_st (T' := T1) (g' := (mkF m 5 #[rv a1, rv hd, iv (0 : Int32), iv (61 : Int32)] [])) (fun _ k => (st1) _ k) ?_
  refine own_st (T' := T1) (g' := (mkF m 6 #[rv a1, rv hd, iv (0 : Int32), iv (61 : Int32)] [(.ref hd)])) (fun _ k => XS.aloadN X1.here hx rfl (hb hby d6_5) rfl rfl k) ?_
  refine own_st (T' := T1) (g' := (mkF m 7 #[rv a1, rv hd, iv (0 : Int32), iv (61 : Int32)] [(.int (0 : Int32)), (.ref hd)])) (fun _ k => XS.iloadN X1.here hx rfl (hb hby d6_6) rfl k) ?_
  refine own_st (T' := T1) (g' := (mkF m 8 #[rv a1, rv hd, iv (0 : Int32), iv (61 : Int32)] [(.ref a1), (.int (0 : Int32)), (.ref hd)])) (fun _ k => XS.aloadN X1.here hx rfl (hb hby d6_7) rfl rfl k) ?_
  obtain ⟨T3, X3, e3, st3⟩ := getF X1 hx hZ hown (host := "") (Or.inl (hw _ (List.mem_of_getElem? (i := 22) rfl))) Via.refl rfl Fb1 (g := (mkF m 8 #[rv a1, rv hd, iv (0 : Int32), iv (61 : Int32)] [(.ref a1), (.int (0 : Int32)), (.ref hd)])) rfl rfl (hb hby d6_8)
  refine own_st (T' := T3) (g' := (mkF m 11 #[rv a1, rv hd, iv (0 : Int32), iv (61 : Int32)] [(.ref t1), (.int (0 : Int32)), (.ref hd)])) (fun _ k => (st3) _ k) ?_
  refine own_st (T' := T3) (g' := (mkF m 12 #[rv a1, rv hd, iv (0 : Int32), iv (61 : Int32)] [(.ref a1), (.ref t1), (.int (0 : Int32)), (.ref hd)])) (fun _ k => XS.aloadN X3.here hx rfl (hb hby d6_11) rfl rfl k) ?_
  obtain ⟨T4, X4, e4, st4⟩ := getF X3 hx hZ hown (host := "") (Or.inl (hw _ (List.mem_of_getElem? (i := 42) rfl))) Via.refl e3 Fp1 (g := (mkF m 12 #[rv a1, rv hd, iv (0 : Int32), iv (61 : Int32)] [(.ref a1), (.ref t1), (.int (0 : Int32)), (.ref hd)])) rfl rfl (hb hby d6_12)
  refine own_st (T' := T4) (g' := (mkF m 15 #[rv a1, rv hd, iv (0 : Int32), iv (61 : Int32)] [(.int (0 : Int32)), (.ref t1), (.int (0 : Int32)), (.ref hd)])) (fun _ k => (st4) _ k) ?_
  refine own_st (T' := T4) (g' := (mkF m 16 #[rv a1, rv hd, iv (0 : Int32), iv (61 : Int32)] [(.int (61 : Int32)), (.int (0 : Int32)), (.ref t1), (.int (0 : Int32)), (.ref hd)])) (fun _ k => XS.iloadN X4.here hx rfl (hb hby d6_15) rfl k) ?_
  obtain ⟨T5, h5, lc5, X5, e5, N5, Kq5, Yq5, st5⟩ := own_cp X4 hx hZ hown (hw _ (List.mem_of_getElem? (i := 44) rfl)) (hw _ (List.mem_of_getElem? (i := 47) rfl)) (hw _ (List.mem_of_getElem? (i := 45) rfl)) (hw _ (List.mem_of_getElem? (i := 46) rfl)) e4 Fa2 Yq1 (by decide) (by decide) (by decide) (by decide) hA1 N1 gn_t1 (g := (mkF m 16 #[rv a1, rv hd, iv (0 : Int32), iv (61 : Int32)] [(.int (61 : Int32)), (.int (0 : Int32)), (.ref t1), (.int (0 : Int32)), (.ref hd)])) rfl (by rw [hml]; rfl) (rest := []) rfl (hb hby d6_16) (by decide) (W := 0) (by show 2 * 0 + _ ≤ _; exact Nat.le_of_eq rfl) (by decide)
  have Zs5 : n0 ≤ h5.size := Nat.le_trans Zs1 Kq5.1
  have Fa6 : own_Y Z h5 hd (61 : Int32) := Fa2.keep Kq5 (ninS ne_hd_t1 nin0)
  have Fa7 : Exa Z h5 a1 "com/example/millrace/millrace/wire/ProtocolWriter" := Eq1.keep Kq5
  have Fa8 : Fld Z h5 a1 "com/example/millrace/millrace/wire/ProtocolWriter" "bytes" "[B" (.ref t1) := Fb1.keep Kq5 (ninS ne_a1_t1 nin0)
  have Fa9 : Fld Z h5 a1 "com/example/millrace/millrace/wire/ProtocolWriter" "position" "I" (.int (0 : Int32)) := Fp1.keep Kq5 (ninS ne_a1_t1 nin0)
  have Ke5 : Keep h0 h5 [a1, t] := Ke1.trans Kq5 (allS ws_t1 all0)
  refine own_st (T' := T5) (g' := (mkF m 19 #[rv a1, rv hd, iv (0 : Int32), iv (61 : Int32)] [])) (fun _ k => (st5) _ k) ?_
  refine own_st (T' := T5) (g' := (mkF m 20 #[rv a1, rv hd, iv (0 : Int32), iv (61 : Int32)] [(.ref a1)])) (fun _ k => XS.aloadN X5.here hx rfl (hb hby d6_19) rfl rfl k) ?_
  refine own_st (T' := T5) (g' := (mkF m 21 #[rv a1, rv hd, iv (0 : Int32), iv (61 : Int32)] [(.ref a1), (.ref a1)])) (fun _ k => XS.dup X5.here hx rfl (hb hby d6_20) rfl rfl k) ?_
  obtain ⟨T10, X10, e10, st10⟩ := getF X5 hx hZ hown (host := "") (Or.inl (hw _ (List.mem_of_getElem? (i := 42) rfl))) Via.refl e5 Fa9 (g := (mkF m 21 #[rv a1, rv hd, iv (0 : Int32), iv (61 : Int32)] [(.ref a1), (.ref a1)])) rfl rfl (hb hby d6_21)
  refine own_st (T' := T10) (g' := (mkF m 24 #[rv a1, rv hd, iv (0 : Int32), iv (61 : Int32)] [(.int (0 : Int32)), (.ref a1)])) (fun _ k => (st10) _ k) ?_
  refine own_st (T' := T10) (g' := (mkF m 25 #[rv a1, rv hd, iv (0 : Int32), iv (61 : Int32)] [(.int (61 : Int32)), (.int (0 : Int32)), (.ref a1)])) (fun _ k => XS.iloadN X10.here hx rfl (hb hby d6_24) rfl k) ?_
  refine own_st (T' := T10) (g' := (mkF m 26 #[rv a1, rv hd, iv (0 : Int32), iv (61 : Int32)] [(.int (61 : Int32)), (.ref a1)])) (fun _ k => XS.iadd X10.here hx rfl (hb hby d6_25) rfl k) ?_
  obtain ⟨T11, h11, X11, e11, W11, st11⟩ := putF X10 hx hZ hown (host := "") (Or.inl (hw _ (List.mem_of_getElem? (i := 42) rfl))) Via.refl e10 Fa9 Fa7 (Or.inl (hw _ (List.mem_of_getElem? (i := 43) rfl))) (hw _ (List.mem_of_getElem? (i := 11) rfl)) (ty := .int) (by decide) rfl rfl (g := (mkF m 26 #[rv a1, rv hd, iv (0 : Int32), iv (61 : Int32)] [(.int (61 : Int32)), (.ref a1)])) rfl rfl (hb hby d6_26)
  have Fw11 := Fa9.same W11
  have Zs11 : n0 ≤ h11.size := Nat.le_trans Zs5 (Keep.of_wr W11).1
  obtain ⟨lc11, X11, N11⟩ := own_loc X11 (Fr.snoc X11 N5 gn_a1)
  have Fa12 : own_Y Z h11 hd (61 : Int32) := Fa6.other W11 (Ne.symm ne_a1_hd)
  have Fa13 : Exa Z h11 a1 "com/example/millrace/millrace/wire/ProtocolWriter" := Fa7.wr W11
  have Fa14 : Fld Z h11 a1 "com/example/millrace/millrace/wire/ProtocolWriter" "bytes" "[B" (.ref t1) := Fa8.other W11 (Or.inr (slot_ne (Or.inl (hw _ (List.mem_of_getElem? (i := 23) rfl))) (Or.inl (hw _ (List.mem_of_getElem? (i := 43) rfl))) (by decide) (t := (.array .byte)) (t' := .int) (by decide) (by decide)))
  have Fa15 : own_Y Z h11 t1 nn1 := Yq5.other W11 (Ne.symm ne_a1_t1)
  have Ke11 : Keep h0 h11 [a1, t] := Ke5.wr W11 (Or.inl (List.mem_of_getElem? (i := 0) rfl))
  refine own_st (T' := T11) (g' := (mkF m 29 #[rv a1, rv hd, iv (0 : Int32), iv (61 : Int32)] [])) (fun _ k => (st11) _ k) ?_
  refine own_st (T' := T11) (g' := (mkF m 30 #[rv a1, rv hd, iv (0 : Int32), iv (61 : Int32)] [(.ref a1)])) (fun _ k => XS.aloadN X11.here hx rfl (hb hby d6_29) rfl rfl k) ?_
  exact own_end (Q := Q6 Z a1 hd t h0 n0) (v := some (.ref a1)) X11 (fun h => by rw [Bd.returns] at h; cases h) (fun fs hr => X11.areturnOut hx rfl Bd.returns rfl (hb hby d6_30) hr) (by rw [e11]; exact ⟨rfl, N11, Ke11, Fa13, ⟨t1, nn1, ht1, gn_t1, Fa14, Fw11, Fa15, own_w1 hA1, own_w2 hB1⟩⟩) (by decide) (by decide)
theorem d5_0 : decode prog_128_method_22_code 0 = .ok (.aload_n 0, 1) := by decide +kernel
theorem d5_1 : decode prog_128_method_22_code 1 = .ok (.aload_n 1, 1) := by decide +kernel
theorem d5_2 : decode prog_128_method_22_code 2 = .ok (.iconst 0, 1) := by decide +kernel
theorem d5_3 : decode prog_128_method_22_code 3 = .ok (.aload_n 1, 1) := by decide +kernel
theorem d5_4 : decode prog_128_method_22_code 4 = .ok (.arraylength, 1) := by decide +kernel
theorem d5_5 : decode prog_128_method_22_code 5 = .ok (.invokevirtual 89, 3) := by decide +kernel
theorem d5_8 : decode prog_128_method_22_code 8 = .ok (.areturn, 1) := by decide +kernel
theorem own_pn5 : plainName "com/example/millrace/millrace/wire/ProtocolWriter" = true := by first | (simp [plainName, overriddenIn]; done) | decide +kernel
theorem own_pd5_0 : parseMethodDescriptor "([BII)Lcom/example/millrace/millrace/wire/ProtocolWriter;" = some ⟨[(.array .byte), .int, .int], some (.object "com/example/millrace/millrace/wire/ProtocolWriter")⟩ := by decide +kernel
theorem own_ef5 (m : MethodId) (x0 : Addr) (x1 : Addr) : entryFrame m #[(.ref x0), (.ref x1)] 2 = mkF m 0 #[rv x0, rv x1] [] := by first | (simp [entryFrame, mkF, argsToLocals, Value.category]; done) | rfl
def Q5 (Z : State) (a1 : Addr) (hd : Addr) (t : Addr) (h0 : Heap) (n0 : Nat) (v : Option Value) (h : Heap) (L : List Loc) : Prop := v = some (.ref a1) ∧ Fr n0 L ∧ Keep h0 h [a1, t] ∧ Exa Z h a1 "com/example/millrace/millrace/wire/ProtocolWriter" ∧ ∃ (t' : Addr) (n' : Int32), (t' = t ∨ h0.size ≤ t') ∧ n0 ≤ t' ∧ Fld Z h a1 "com/example/millrace/millrace/wire/ProtocolWriter" "bytes" "[B" (.ref t') ∧ Fld Z h a1 "com/example/millrace/millrace/wire/ProtocolWriter" "position" "I" (.int (61 : Int32)) ∧ own_Y Z h t' n' ∧ 61 ≤ n'.toInt ∧ n'.toInt ≤ 122
set_option maxRecDepth 65536 in
set_option maxHeartbeats 40000000 in
theorem rm5 (l : Launch) (Z : State) (a0 : Array Value) (hw : ∀ d ∈ tables_1, d.before a0 Z = true) (ws : List Jvm.Cond) (a1 : Addr) (hd : Addr) (t : Addr) (h0 : Heap) (n0 : Nat) (Z0 : n0 ≤ h0.size) (E_a1 : Exa Z h0 a1 "com/example/millrace/millrace/wire/ProtocolWriter") (F_b : Fld Z h0 a1 "com/example/millrace/millrace/wire/ProtocolWriter" "bytes" "[B" (.ref t)) (F_p : Fld Z h0 a1 "com/example/millrace/millrace/wire/ProtocolWriter" "position" "I" (.int (0 : Int32))) (Y_t : own_Y Z h0 t (61 : Int32)) (Y_hd : own_Y Z h0 hd (61 : Int32)) (gn_a1 : n0 ≤ a1) (gn_t : n0 ≤ t) (hne : a1 ≠ t) (hne1 : a1 ≠ hd) (hne2 : t ≠ hd) :
    MetFree l (⟨"com/example/millrace/millrace/wire/ProtocolWriter", "writeBytes", "([B)Lcom/example/millrace/millrace/wire/ProtocolWriter;"⟩ : MethodName) (head1 (Jvm.Cond.code (⟨"com/example/millrace/millrace/wire/ProtocolWriter", "writeBytes", "([B)Lcom/example/millrace/millrace/wire/ProtocolWriter;"⟩ : MethodName) prog_128_method_22_code 2 (some (.object "com/example/millrace/millrace/wire/ProtocolWriter")) :: ws) ({ frames := 5, cells := 1, slots := 2190, locals := 105 } : Room)) (fun a U => a = #[(.ref a1), (.ref hd)] ∧ Z.Warmed39 U.vm ∧ U.heap = h0) (fun _ _ _ _ _ => True) (fun _ U o U' => ∃ v L, o = .returned v ∧ Q5 Z a1 hd t h0 n0 v U'.heap L ∧ FrameEnd U o U' L ({ frames := 5, cells := 1, slots := 2190, locals := 105 } : Room).cells ({ frames := 5, cells := 1, slots := 2190, locals := 105 } : Room).slots) := by
  refine MetFree.of_bodySF (plainFor_of_name own_pn5) hisR ?_
  intro p e s m args below meth c s₁ Bd hml0 hP hK
  obtain ⟨rfl, hZ, hh⟩ := hP
  have hx := Bd.exec
  have hby := Bd.bytes
  have hml : c.maxLocals = 2 := hml0
  have hown : s.vm.findClass "com/example/millrace/millrace/wire/ProtocolWriter" = some m.cls := findClass_of_methodNamed Bd.named
  have hnm := (name_of_methodNamed Bd.named Bd.method).1
  have hlk := Bd.notSynchronized
  have X0 : Stand p l e ({ frames := 5, cells := 1, slots := 2190, locals := 105 } : Room) s m #[(.ref a1), (.ref hd)] below meth c s₁ [] 0 0 := Stand.of_body Bd
  have e0 : s₁.heap = h0 := by rw [← hh, Bd.state]; rfl
  have N0 := Fr.nil n0
  show own_Goes p e below (fun o U' => ∃ v L, o = .returned v ∧ Q5 Z a1 hd t h0 n0 v U'.heap L ∧ FrameEnd s o U' L ({ frames := 5, cells := 1, slots := 2190, locals := 105 } : Room).cells ({ frames := 5, cells := 1, slots := 2190, locals := 105 } : Room).slots) s₁ (entryFrame m #[(.ref a1), (.ref hd)] 2)
  refine own_st (T' := s₁) (g' := mkF m 0 #[rv a1, rv hd] []) (fun _ k => castTop (own_ef5 m a1 hd) k) ?_
  have ne_a1_t := hne
  have ne_a1_hd := hne1
  have ne_t_hd := hne2
  refine own_st (T' := s₁) (g' := (mkF m 1 #[rv a1, rv hd] [(.ref a1)])) (fun _ k => XS.aloadN X0.here hx rfl (hb hby d5_0) rfl rfl k) ?_
  refine own_st (T' := s₁) (g' := (mkF m 2 #[rv a1, rv hd] [(.ref hd), (.ref a1)])) (fun _ k => XS.aloadN X0.here hx rfl (hb hby d5_1) rfl rfl k) ?_
  refine own_st (T' := s₁) (g' := (mkF m 3 #[rv a1, rv hd] [(.int (0 : Int32)), (.ref hd), (.ref a1)])) (fun _ k => XS.iconst X0.here hx rfl (hb hby d5_2) k) ?_
  refine own_st (T' := s₁) (g' := (mkF m 4 #[rv a1, rv hd] [(.ref hd), (.int (0 : Int32)), (.ref hd), (.ref a1)])) (fun _ k => XS.aloadN X0.here hx rfl (hb hby d5_3) rfl rfl k) ?_
  refine own_st (T' := s₁) (g' := (mkF m 5 #[rv a1, rv hd] [(.int (61 : Int32)), (.int (0 : Int32)), (.ref hd), (.ref a1)])) (fun _ k => (own_alen X0 hx hZ e0 Y_hd (g := (mkF m 4 #[rv a1, rv hd] [(.ref hd), (.int (0 : Int32)), (.ref hd), (.ref a1)])) rfl rfl (hb hby d5_4)) _ k) ?_
  obtain ⟨cq1, kq1, q1a, q1b, q1c⟩ := isOf hZ e0 E_a1
  obtain ⟨v1, T1, L1, X1, hQ1, st1⟩ := own_packV (X0.virtualBack hx (y := (⟨"com/example/millrace/millrace/wire/ProtocolWriter", "writeBytes", "([BII)Lcom/example/millrace/millrace/wire/ProtocolWriter;"⟩ : MethodName)) (z := (⟨"com/example/millrace/millrace/wire/ProtocolWriter", "writeBytes", "([BII)Lcom/example/millrace/millrace/wire/ProtocolWriter;"⟩ : MethodName)) hown (mvT hZ (hw _ (List.mem_of_getElem? (i := 33) rfl))) (mvT hZ (hw _ (List.mem_of_getElem? (i := 34) rfl))) (notFace_of_selects (args := #[]) (mvT hZ (hw _ (List.mem_of_getElem? (i := 36) rfl)))) (mvT hZ (hw _ (List.mem_of_getElem? (i := 36) rfl))) (mvT hZ (hw _ (List.mem_of_getElem? (i := 35) rfl))) (by decide) (backOf (W := 0) (rm6 l Z a0 hw [] a1 hd t h0 n0 Z0 E_a1 F_b F_p Y_t Y_hd gn_a1 gn_t ne_a1_t ne_a1_hd ne_t_hd) hZ (hw _ (List.mem_of_getElem? (i := 37) rfl)) (hw _ (List.mem_of_getElem? (i := 12) rfl)) (by decide) (by decide)) q1a q1c (g := (mkF m 5 #[rv a1, rv hd] [(.int (61 : Int32)), (.int (0 : Int32)), (.ref hd), (.ref a1)])) rfl (by rw [hml]; rfl) (Steps.refl _) (argsL := [(.ref hd), (.int (0 : Int32)), (.int (61 : Int32))]) (rest := []) (lenOf own_pd5_0 rfl) rfl (by show 2 * 0 + _ ≤ _; exact Nat.le_of_eq rfl) (hb hby d5_5) (fun _ _ => ⟨rfl, e0, (by decide : 0 + 1 ≤ _), (by decide : 0 + 2190 ≤ _)⟩))
  obtain ⟨rfl, N1q, Kq1, Eq1, t1, nn1, ht1, gn_t1, Fb1, Fp1, Yq1, hA1, hB1⟩ := hQ1
  obtain ⟨lc1, X1, N1⟩ := own_loc X1 (Fr.app N0 N1q)
  have ne_a1_t1 : a1 ≠ t1 := own_sep ht1 ne_a1_t E_a1.lt
  have ne_hd_t1 : hd ≠ t1 := own_sep ht1 (Ne.symm ne_t_hd) Y_hd.lt
  have Zs1 : n0 ≤ T1.heap.size := Nat.le_trans Z0 Kq1.1
  have ws_t1 : t1 ∈ [a1, t] ∨ h0.size ≤ t1 := ht1.elim (fun q => by rw [q]; exact (Or.inl (List.mem_of_getElem? (i := 1) rfl))) (fun q => Or.inr (Nat.le_trans (Keep.refl h0 [a1, t]).1 q))
  have Fa2 : own_Y Z T1.heap hd (61 : Int32) := Y_hd.keep Kq1 (ninS (Ne.symm ne_a1_hd) (ninS (Ne.symm ne_t_hd) nin0))
  have Ke1 : Keep h0 T1.heap [a1, t] := (Keep.refl h0 [a1, t]).trans Kq1 (allS (Or.inl (List.mem_of_getElem? (i := 0) rfl)) (allS (Or.inl (List.mem_of_getElem? (i := 1) rfl)) all0))
  refine own_st (T' := T1) (g' := (mkF m 8 #[rv a1, rv hd] [(.ref a1)])) (fun _ k => (st1) _ k) ?_
  exact own_end (Q := Q5 Z a1 hd t h0 n0) (v := some (.ref a1)) X1 (fun h => by rw [Bd.returns] at h; cases h) (fun fs hr => X1.areturnOut hx rfl Bd.returns rfl (hb hby d5_8) hr) (⟨rfl, N1, Ke1, Eq1, ⟨t1, nn1, ht1, gn_t1, Fb1, Fp1, Yq1, hA1, hB1⟩⟩) (by decide) (by decide)
theorem d9_0 : decode prog_128_method_2_code 0 = .ok (.aload_n 0, 1) := by decide +kernel
theorem d9_1 : decode prog_128_method_2_code 1 = .ok (.getfield 19, 3) := by decide +kernel
theorem d9_4 : decode prog_128_method_2_code 4 = .ok (.ireturn, 1) := by decide +kernel
theorem own_pn9 : plainName "com/example/millrace/millrace/wire/ProtocolWriter" = true := by first | (simp [plainName, overriddenIn]; done) | decide +kernel
theorem own_ef9 (m : MethodId) (x0 : Addr) : entryFrame m #[(.ref x0)] 1 = mkF m 0 #[rv x0] [] := by first | (simp [entryFrame, mkF, argsToLocals, Value.category]; done) | rfl
def Q9 (Z : State) (a1 : Addr) (P : Int32) (h0 : Heap) (n0 : Nat) (v : Option Value) (h : Heap) (L : List Loc) : Prop := v = some (.int P) ∧ Fr n0 L ∧ h = h0
set_option maxRecDepth 65536 in
set_option maxHeartbeats 40000000 in
theorem rm9 (l : Launch) (Z : State) (a0 : Array Value) (hw : ∀ d ∈ tables_1, d.before a0 Z = true) (ws : List Jvm.Cond) (a1 : Addr) (P : Int32) (h0 : Heap) (n0 : Nat) (Z0 : n0 ≤ h0.size) (F_p : Fld Z h0 a1 "com/example/millrace/millrace/wire/ProtocolWriter" "position" "I" (.int P))   :
    MetFree l (⟨"com/example/millrace/millrace/wire/ProtocolWriter", "position", "()I"⟩ : MethodName) (head1 (Jvm.Cond.code (⟨"com/example/millrace/millrace/wire/ProtocolWriter", "position", "()I"⟩ : MethodName) prog_128_method_2_code 1 (some .int) :: ws) ({ frames := 0, cells := 0, slots := 0, locals := 0 } : Room)) (fun a U => a = #[(.ref a1)] ∧ Z.Warmed39 U.vm ∧ U.heap = h0) (fun _ _ _ _ _ => True) (fun _ U o U' => ∃ v L, o = .returned v ∧ Q9 Z a1 P h0 n0 v U'.heap L ∧ FrameEnd U o U' L ({ frames := 0, cells := 0, slots := 0, locals := 0 } : Room).cells ({ frames := 0, cells := 0, slots := 0, locals := 0 } : Room).slots) := by
  refine MetFree.of_bodySF (plainFor_of_name own_pn9) hisR ?_
  intro p e s m args below meth c s₁ Bd hml0 hP hK
  obtain ⟨rfl, hZ, hh⟩ := hP
  have hx := Bd.exec
  have hby := Bd.bytes
  have hml : c.maxLocals = 1 := hml0
  have hown : s.vm.findClass "com/example/millrace/millrace/wire/ProtocolWriter" = some m.cls := findClass_of_methodNamed Bd.named
  have hnm := (name_of_methodNamed Bd.named Bd.method).1
  have hlk := Bd.notSynchronized
  have X0 : Stand p l e ({ frames := 0, cells := 0, slots := 0, locals := 0 } : Room) s m #[(.ref a1)] below meth c s₁ [] 0 0 := Stand.of_body Bd
  have e0 : s₁.heap = h0 := by rw [← hh, Bd.state]; rfl
  have N0 := Fr.nil n0
  show own_Goes p e below (fun o U' => ∃ v L, o = .returned v ∧ Q9 Z a1 P h0 n0 v U'.heap L ∧ FrameEnd s o U' L ({ frames := 0, cells := 0, slots := 0, locals := 0 } : Room).cells ({ frames := 0, cells := 0, slots := 0, locals := 0 } : Room).slots) s₁ (entryFrame m #[(.ref a1)] 1)
  refine own_st (T' := s₁) (g' := mkF m 0 #[rv a1] []) (fun _ k => castTop (own_ef9 m a1) k) ?_
  refine own_st (T' := s₁) (g' := (mkF m 1 #[rv a1] [(.ref a1)])) (fun _ k => XS.aloadN X0.here hx rfl (hb hby d9_0) rfl rfl k) ?_
  obtain ⟨T1, X1, e1, st1⟩ := getF X0 hx hZ hown (host := "") (Or.inl (hw _ (List.mem_of_getElem? (i := 42) rfl))) Via.refl e0 F_p (g := (mkF m 1 #[rv a1] [(.ref a1)])) rfl rfl (hb hby d9_1)
  refine own_st (T' := T1) (g' := (mkF m 4 #[rv a1] [(.int P)])) (fun _ k => (st1) _ k) ?_
  exact own_end (Q := Q9 Z a1 P h0 n0) (v := some (.int P)) X1 (fun h => by rw [Bd.returns] at h; cases h) (fun fs hr => retI X1 hx Bd.returns (hb hby d9_4) hr) (⟨rfl, N0, e1⟩) (by decide) (by decide)
theorem d8_0 : decode prog_130_method_3_code 0 = .ok (.aload_n 0, 1) := by decide +kernel
theorem d8_1 : decode prog_130_method_3_code 1 = .ok (.getfield 20, 3) := by decide +kernel
theorem d8_4 : decode prog_130_method_3_code 4 = .ok (.invokevirtual 58, 3) := by decide +kernel
theorem d8_7 : decode prog_130_method_3_code 7 = .ok (.ireturn, 1) := by decide +kernel
theorem own_pn8 : plainName "com/example/millrace/millrace/wire/RecordBatchBuilder" = true := by first | (simp [plainName, overriddenIn]; done) | decide +kernel
theorem own_pd8_0 : parseMethodDescriptor "()I" = some ⟨[], some .int⟩ := by decide +kernel
theorem own_ef8 (m : MethodId) (x0 : Addr) : entryFrame m #[(.ref x0)] 1 = mkF m 0 #[rv x0] [] := by first | (simp [entryFrame, mkF, argsToLocals, Value.category]; done) | rfl
def Q8 (Z : State) (a1 : Addr) (wo : Addr) (P : Int32) (h0 : Heap) (n0 : Nat) (v : Option Value) (h : Heap) (L : List Loc) : Prop := v = some (.int P) ∧ Fr n0 L ∧ h = h0
set_option maxRecDepth 65536 in
set_option maxHeartbeats 40000000 in
theorem rm8 (l : Launch) (Z : State) (a0 : Array Value) (hw : ∀ d ∈ tables_1, d.before a0 Z = true) (ws : List Jvm.Cond) (a1 : Addr) (wo : Addr) (P : Int32) (h0 : Heap) (n0 : Nat) (Z0 : n0 ≤ h0.size) (F_o : Fld Z h0 a1 "com/example/millrace/millrace/wire/RecordBatchBuilder" "out" "Lcom/example/millrace/millrace/wire/ProtocolWriter;" (.ref wo)) (E_wo : Exa Z h0 wo "com/example/millrace/millrace/wire/ProtocolWriter") (F_p : Fld Z h0 wo "com/example/millrace/millrace/wire/ProtocolWriter" "position" "I" (.int P))   :
    MetFree l (⟨"com/example/millrace/millrace/wire/RecordBatchBuilder", "sizeInBytes", "()I"⟩ : MethodName) (head1 (Jvm.Cond.code (⟨"com/example/millrace/millrace/wire/RecordBatchBuilder", "sizeInBytes", "()I"⟩ : MethodName) prog_130_method_3_code 1 (some .int) :: ws) ({ frames := 1, cells := 0, slots := 0, locals := 12 } : Room)) (fun a U => a = #[(.ref a1)] ∧ Z.Warmed39 U.vm ∧ U.heap = h0) (fun _ _ _ _ _ => True) (fun _ U o U' => ∃ v L, o = .returned v ∧ Q8 Z a1 wo P h0 n0 v U'.heap L ∧ FrameEnd U o U' L ({ frames := 1, cells := 0, slots := 0, locals := 12 } : Room).cells ({ frames := 1, cells := 0, slots := 0, locals := 12 } : Room).slots) := by
  refine MetFree.of_bodySF (plainFor_of_name own_pn8) hisR ?_
  intro p e s m args below meth c s₁ Bd hml0 hP hK
  obtain ⟨rfl, hZ, hh⟩ := hP
  have hx := Bd.exec
  have hby := Bd.bytes
  have hml : c.maxLocals = 1 := hml0
  have hown : s.vm.findClass "com/example/millrace/millrace/wire/RecordBatchBuilder" = some m.cls := findClass_of_methodNamed Bd.named
  have hnm := (name_of_methodNamed Bd.named Bd.method).1
  have hlk := Bd.notSynchronized
  have X0 : Stand p l e ({ frames := 1, cells := 0, slots := 0, locals := 12 } : Room) s m #[(.ref a1)] below meth c s₁ [] 0 0 := Stand.of_body Bd
  have e0 : s₁.heap = h0 := by rw [← hh, Bd.state]; rfl
  have N0 := Fr.nil n0
  show own_Goes p e below (fun o U' => ∃ v L, o = .returned v ∧ Q8 Z a1 wo P h0 n0 v U'.heap L ∧ FrameEnd s o U' L ({ frames := 1, cells := 0, slots := 0, locals := 12 } : Room).cells ({ frames := 1, cells := 0, slots := 0, locals := 12 } : Room).slots) s₁ (entryFrame m #[(.ref a1)] 1)
  refine own_st (T' := s₁) (g' := mkF m 0 #[rv a1] []) (fun _ k => castTop (own_ef8 m a1) k) ?_
  refine own_st (T' := s₁) (g' := (mkF m 1 #[rv a1] [(.ref a1)])) (fun _ k => XS.aloadN X0.here hx rfl (hb hby d8_0) rfl rfl k) ?_
  obtain ⟨T1, X1, e1, st1⟩ := getF X0 hx hZ hown (host := "") (Or.inl (hw _ (List.mem_of_getElem? (i := 24) rfl))) Via.refl e0 F_o (g := (mkF m 1 #[rv a1] [(.ref a1)])) rfl rfl (hb hby d8_1)
  refine own_st (T' := T1) (g' := (mkF m 4 #[rv a1] [(.ref wo)])) (fun _ k => (st1) _ k) ?_
  obtain ⟨cq2, kq2, q2a, q2b, q2c⟩ := isOf hZ e1 E_wo
  obtain ⟨v2, T2, L2, X2, hQ2, st2⟩ := own_packV (X1.virtualBack hx (y := (⟨"com/example/millrace/millrace/wire/ProtocolWriter", "position", "()I"⟩ : MethodName)) (z := (⟨"com/example/millrace/millrace/wire/ProtocolWriter", "position", "()I"⟩ : MethodName)) hown (mvT hZ (hw _ (List.mem_of_getElem? (i := 53) rfl))) (mvT hZ (hw _ (List.mem_of_getElem? (i := 54) rfl))) (notFace_of_selects (args := #[]) (mvT hZ (hw _ (List.mem_of_getElem? (i := 56) rfl)))) (mvT hZ (hw _ (List.mem_of_getElem? (i := 56) rfl))) (mvT hZ (hw _ (List.mem_of_getElem? (i := 55) rfl))) (by decide) (backOf (W := 0) (rm9 l Z a0 hw [] wo P h0 n0 Z0 F_p) hZ (hw _ (List.mem_of_getElem? (i := 57) rfl)) (hw _ (List.mem_of_getElem? (i := 12) rfl)) (by decide) (by decide)) q2a q2c (g := (mkF m 4 #[rv a1] [(.ref wo)])) rfl (by rw [hml]; rfl) (Steps.refl _) (argsL := []) (rest := []) (lenOf own_pd8_0 rfl) rfl (by show 2 * 0 + _ ≤ _; exact Nat.le_of_eq rfl) (hb hby d8_4) (fun _ _ => ⟨rfl, e1, (by decide : 0 + 0 ≤ _), (by decide : 0 + 0 ≤ _)⟩))
  obtain ⟨rfl, N2q, e2⟩ := hQ2
  obtain ⟨lc2, X2, N2⟩ := own_loc X2 (Fr.app N0 N2q)
  refine own_st (T' := T2) (g' := (mkF m 7 #[rv a1] [(.int P)])) (fun _ k => (st2) _ k) ?_
  exact own_end (Q := Q8 Z a1 wo P h0 n0) (v := some (.int P)) X2 (fun h => by rw [Bd.returns] at h; cases h) (fun fs hr => retI X2 hx Bd.returns (hb hby d8_7) hr) (⟨rfl, N2, e2⟩) (by decide) (by decide)
theorem d23_0 : decode prog_128_method_17_code 0 = .ok (.aload_n 0, 1) := by decide +kernel
theorem d23_1 : decode prog_128_method_17_code 1 = .ok (.iload_n 1, 1) := by decide +kernel
theorem d23_2 : decode prog_128_method_17_code 2 = .ok (.putfield 19, 3) := by decide +kernel
theorem d23_5 : decode prog_128_method_17_code 5 = .ok (.return_, 1) := by decide +kernel
theorem own_pn23 : plainName "com/example/millrace/millrace/wire/ProtocolWriter" = true := by first | (simp [plainName, overriddenIn]; done) | decide +kernel
theorem own_ef23 (m : MethodId) (x0 : Addr) (x1 : Int32) : entryFrame m #[(.ref x0), (.int x1)] 2 = mkF m 0 #[rv x0, iv x1] [] := by first | (simp [entryFrame, mkF, argsToLocals, Value.category]; done) | rfl
def Q23 (Z : State) (a1 : Addr) (p2 : Int32) (P : Int32) (t : Addr) (h0 : Heap) (n0 : Nat) (v : Option Value) (h : Heap) (L : List Loc) : Prop := v = none ∧ Fr n0 L ∧ Keep h0 h [a1] ∧ Exa Z h a1 "com/example/millrace/millrace/wire/ProtocolWriter" ∧ Fld Z h a1 "com/example/millrace/millrace/wire/ProtocolWriter" "position" "I" (.int p2) ∧ Fld Z h a1 "com/example/millrace/millrace/wire/ProtocolWriter" "bytes" "[B" (.ref t)
set_option maxRecDepth 65536 in
set_option maxHeartbeats 40000000 in
theorem rm23 (l : Launch) (Z : State) (a0 : Array Value) (hw : ∀ d ∈ tables_1, d.before a0 Z = true) (ws : List Jvm.Cond) (a1 : Addr) (p2 : Int32) (P : Int32) (t : Addr) (h0 : Heap) (n0 : Nat) (Z0 : n0 ≤ h0.size) (E_a1 : Exa Z h0 a1 "com/example/millrace/millrace/wire/ProtocolWriter") (F_p : Fld Z h0 a1 "com/example/millrace/millrace/wire/ProtocolWriter" "position" "I" (.int P)) (F_b : Fld Z h0 a1 "com/example/millrace/millrace/wire/ProtocolWriter" "bytes" "[B" (.ref t)) (gn_a1 : n0 ≤ a1)  :
    MetFree l (⟨"com/example/millrace/millrace/wire/ProtocolWriter", "advanceTo", "(I)V"⟩ : MethodName) (head1 (Jvm.Cond.code (⟨"com/example/millrace/millrace/wire/ProtocolWriter", "advanceTo", "(I)V"⟩ : MethodName) prog_128_method_17_code 2 none :: ws) ({ frames := 0, cells := 0, slots := 0, locals := 0 } : Room)) (fun a U => a = #[(.ref a1), (.int p2)] ∧ Z.Warmed39 U.vm ∧ U.heap = h0) (fun _ _ _ _ _ => True) (fun _ U o U' => ∃ v L, o = .returned v ∧ Q23 Z a1 p2 P t h0 n0 v U'.heap L ∧ FrameEnd U o U' L ({ frames := 0, cells := 0, slots := 0, locals := 0 } : Room).cells ({ frames := 0, cells := 0, slots := 0, locals := 0 } : Room).slots) := by
  refine MetFree.of_bodySF (plainFor_of_name own_pn23) hisR ?_
  intro p e s m args below meth c s₁ Bd hml0 hP hK
  obtain ⟨rfl, hZ, hh⟩ := hP
  have hx := Bd.exec
  have hby := Bd.bytes
  have hml : c.maxLocals = 2 := hml0
  have hown : s.vm.findClass "com/example/millrace/millrace/wire/ProtocolWriter" = some m.cls := findClass_of_methodNamed Bd.named
  have hnm := (name_of_methodNamed Bd.named Bd.method).1
  have hlk := Bd.notSynchronized
  have X0 : Stand p l e ({ frames := 0, cells := 0, slots := 0, locals := 0 } : Room) s m #[(.ref a1), (.int p2)] below meth c s₁ [] 0 0 := Stand.of_body Bd
  have e0 : s₁.heap = h0 := by rw [← hh, Bd.state]; rfl
  have N0 := Fr.nil n0
  show own_Goes p e below (fun o U' => ∃ v L, o = .returned v ∧ Q23 Z a1 p2 P t h0 n0 v U'.heap L ∧ FrameEnd s o U' L ({ frames := 0, cells := 0, slots := 0, locals := 0 } : Room).cells ({ frames := 0, cells := 0, slots := 0, locals := 0 } : Room).slots) s₁ (entryFrame m #[(.ref a1), (.int p2)] 2)
  refine own_st (T' := s₁) (g' := mkF m 0 #[rv a1, iv p2] []) (fun _ k => castTop (own_ef23 m a1 p2) k) ?_
  refine own_st (T' := s₁) (g' := (mkF m 1 #[rv a1, iv p2] [(.ref a1)])) (fun _ k => XS.aloadN X0.here hx rfl (hb hby d23_0) rfl rfl k) ?_
  refine own_st (T' := s₁) (g' := (mkF m 2 #[rv a1, iv p2] [(.int p2), (.ref a1)])) (fun _ k => XS.iloadN X0.here hx rfl (hb hby d23_1) rfl k) ?_
  obtain ⟨T1, h1, X1, e1, W1, st1⟩ := putF X0 hx hZ hown (host := "") (Or.inl (hw _ (List.mem_of_getElem? (i := 42) rfl))) Via.refl e0 F_p E_a1 (Or.inl (hw _ (List.mem_of_getElem? (i := 43) rfl))) (hw _ (List.mem_of_getElem? (i := 11) rfl)) (ty := .int) (by decide) rfl rfl (g := (mkF m 2 #[rv a1, iv p2] [(.int p2), (.ref a1)])) rfl rfl (hb hby d23_2)
  have Fw1 := F_p.same W1
  have Zs1 : n0 ≤ h1.size := Nat.le_trans Z0 (Keep.of_wr W1).1
  obtain ⟨lc1, X1, N1⟩ := own_loc X1 (Fr.snoc X1 N0 gn_a1)
  have Fa2 : Exa Z h1 a1 "com/example/millrace/millrace/wire/ProtocolWriter" := E_a1.wr W1
  have Fa3 : Fld Z h1 a1 "com/example/millrace/millrace/wire/ProtocolWriter" "bytes" "[B" (.ref t) := F_b.other W1 (Or.inr (slot_ne (Or.inl (hw _ (List.mem_of_getElem? (i := 23) rfl))) (Or.inl (hw _ (List.mem_of_getElem? (i := 43) rfl))) (by decide) (t := (.array .byte)) (t' := .int) (by decide) (by decide)))
  have Ke1 : Keep h0 h1 [a1] := (Keep.refl h0 [a1]).wr W1 (Or.inl (List.mem_of_getElem? (i := 0) rfl))
  refine own_st (T' := T1) (g' := (mkF m 5 #[rv a1, iv p2] [])) (fun _ k => (st1) _ k) ?_
  exact own_end (Q := Q23 Z a1 p2 P t h0 n0) (v := none) X1 (fun _ => rfl) (fun fs hr => X1.returnOut hx Bd.returns (hb hby d23_5) hr) (by rw [e1]; exact ⟨rfl, N1, Ke1, Fa2, Fw1, Fa3⟩) (by decide) (by decide)
theorem d24_0 : decode prog_130_method_5_code 0 = .ok (.aload_n 0, 1) := by decide +kernel
theorem d24_1 : decode prog_130_method_5_code 1 = .ok (.ifnonnull 7, 3) := by decide +kernel
theorem d24_4 : decode prog_130_method_5_code 4 = .ok (.iconst 0, 1) := by decide +kernel
theorem d24_5 : decode prog_130_method_5_code 5 = .ok (.goto 5, 3) := by decide +kernel
theorem d24_8 : decode prog_130_method_5_code 8 = .ok (.aload_n 0, 1) := by decide +kernel
theorem d24_9 : decode prog_130_method_5_code 9 = .ok (.arraylength, 1) := by decide +kernel
theorem d24_10 : decode prog_130_method_5_code 10 = .ok (.istore_n 2, 1) := by decide +kernel
theorem d24_11 : decode prog_130_method_5_code 11 = .ok (.aload_n 1, 1) := by decide +kernel
theorem d24_12 : decode prog_130_method_5_code 12 = .ok (.ifnonnull 7, 3) := by decide +kernel
theorem d24_15 : decode prog_130_method_5_code 15 = .ok (.iconst 0, 1) := by decide +kernel
theorem d24_16 : decode prog_130_method_5_code 16 = .ok (.goto 5, 3) := by decide +kernel
theorem d24_19 : decode prog_130_method_5_code 19 = .ok (.aload_n 1, 1) := by decide +kernel
theorem d24_20 : decode prog_130_method_5_code 20 = .ok (.arraylength, 1) := by decide +kernel
theorem d24_21 : decode prog_130_method_5_code 21 = .ok (.istore_n 3, 1) := by decide +kernel
theorem d24_22 : decode prog_130_method_5_code 22 = .ok (.bipush 26, 2) := by decide +kernel
theorem d24_24 : decode prog_130_method_5_code 24 = .ok (.iload_n 2, 1) := by decide +kernel
theorem d24_25 : decode prog_130_method_5_code 25 = .ok (.iadd, 1) := by decide +kernel
theorem d24_26 : decode prog_130_method_5_code 26 = .ok (.iconst 5, 1) := by decide +kernel
theorem d24_27 : decode prog_130_method_5_code 27 = .ok (.iadd, 1) := by decide +kernel
theorem d24_28 : decode prog_130_method_5_code 28 = .ok (.iload_n 3, 1) := by decide +kernel
theorem d24_29 : decode prog_130_method_5_code 29 = .ok (.iadd, 1) := by decide +kernel
theorem d24_30 : decode prog_130_method_5_code 30 = .ok (.iconst 1, 1) := by decide +kernel
theorem d24_31 : decode prog_130_method_5_code 31 = .ok (.iadd, 1) := by decide +kernel
theorem d24_32 : decode prog_130_method_5_code 32 = .ok (.ireturn, 1) := by decide +kernel
theorem own_pn24 : plainName "com/example/millrace/millrace/wire/RecordBatchBuilder" = true := by first | (simp [plainName, overriddenIn]; done) | decide +kernel
theorem own_ef24_11 (m : MethodId)  : entryFrame m #[.null, .null] 4 = mkF m 0 #[.val .null, .val .null, .unset, .unset] [] := by first | (simp [entryFrame, mkF, argsToLocals, Value.category]; done) | rfl
def Q24_11 (Z : State)   (h0 : Heap) (n0 : Nat) (v : Option Value) (h : Heap) (L : List Loc) : Prop := v = some (.int (((((26 : Int32) + (0 : Int32)) + (5 : Int32)) + (0 : Int32)) + (1 : Int32))) ∧ Fr n0 L ∧ h = h0
set_option maxRecDepth 65536 in
set_option maxHeartbeats 40000000 in
theorem rm24_11 (l : Launch) (Z : State) (a0 : Array Value) (hw : ∀ d ∈ tables_1, d.before a0 Z = true) (ws : List Jvm.Cond)   (h0 : Heap) (n0 : Nat) (Z0 : n0 ≤ h0.size)    :
    MetFree l (⟨"com/example/millrace/millrace/wire/RecordBatchBuilder", "maxRecordSize", "([B[B)I"⟩ : MethodName) (head1 (Jvm.Cond.code (⟨"com/example/millrace/millrace/wire/RecordBatchBuilder", "maxRecordSize", "([B[B)I"⟩ : MethodName) prog_130_method_5_code 4 (some .int) :: ws) ({ frames := 0, cells := 0, slots := 0, locals := 0 } : Room)) (fun a U => a = #[.null, .null] ∧ Z.Warmed39 U.vm ∧ U.heap = h0) (fun _ _ _ _ _ => True) (fun _ U o U' => ∃ v L, o = .returned v ∧ Q24_11 Z   h0 n0 v U'.heap L ∧ FrameEnd U o U' L ({ frames := 0, cells := 0, slots := 0, locals := 0 } : Room).cells ({ frames := 0, cells := 0, slots := 0, locals := 0 } : Room).slots) := by
  refine MetFree.of_bodySF (plainFor_of_name own_pn24) hisR ?_
  intro p e s m args below meth c s₁ Bd hml0 hP hK
  obtain ⟨rfl, hZ, hh⟩ := hP
  have hx := Bd.exec
  have hby := Bd.bytes
  have hml : c.maxLocals = 4 := hml0
  have hown : s.vm.findClass "com/example/millrace/millrace/wire/RecordBatchBuilder" = some m.cls := findClass_of_methodNamed Bd.named
  have hnm := (name_of_methodNamed Bd.named Bd.method).1
  have hlk := Bd.notSynchronized
  have X0 : Stand p l e ({ frames := 0, cells := 0, slots := 0, locals := 0 } : Room) s m #[.null, .null] below meth c s₁ [] 0 0 := Stand.of_body Bd
  have e0 : s₁.heap = h0 := by rw [← hh, Bd.state]; rfl
  have N0 := Fr.nil n0
  show own_Goes p e below (fun o U' => ∃ v L, o = .returned v ∧ Q24_11 Z   h0 n0 v U'.heap L ∧ FrameEnd s o U' L ({ frames := 0, cells := 0, slots := 0, locals := 0 } : Room).cells ({ frames := 0, cells := 0, slots := 0, locals := 0 } : Room).slots) s₁ (entryFrame m #[.null, .null] 4)
  refine own_st (T' := s₁) (g' := mkF m 0 #[.val .null, .val .null, .unset, .unset] []) (fun _ k => castTop (own_ef24_11 m ) k) ?_
  refine own_st (T' := s₁) (g' := (mkF m 1 #[.val .null, .val .null, .unset, .unset] [.null])) (fun _ k => XS.aloadN X0.here hx rfl (hb hby d24_0) rfl rfl k) ?_
  refine own_st (T' := s₁) (g' := (mkF m 4 #[.val .null, .val .null, .unset, .unset] [])) (fun _ k => XS.ifnonnullNo X0.here hx rfl (hb hby d24_1) rfl k) ?_
  refine own_st (T' := s₁) (g' := (mkF m 5 #[.val .null, .val .null, .unset, .unset] [(.int (0 : Int32))])) (fun _ k => XS.iconst X0.here hx rfl (hb hby d24_4) k) ?_
  refine own_st (T' := s₁) (g' := (mkF m 10 #[.val .null, .val .null, .unset, .unset] [(.int (0 : Int32))])) (fun _ k => XS.goto X0.here hx rfl (pc0 := 5) (pc' := 10) rfl (hb hby d24_5) (by decide) (by decide) k) ?_
  refine own_st (T' := s₁) (g' := (mkF m 11 #[.val .null, .val .null, iv (0 : Int32), .unset] [])) (fun _ k => XS.istoreN X0.here hx rfl (hb hby d24_10) rfl (l' := #[.val .null, .val .null, iv (0 : Int32), .unset]) rfl k) ?_
  refine own_st (T' := s₁) (g' := (mkF m 12 #[.val .null, .val .null, iv (0 : Int32), .unset] [.null])) (fun _ k => XS.aloadN X0.here hx rfl (hb hby d24_11) rfl rfl k) ?_
  refine own_st (T' := s₁) (g' := (mkF m 15 #[.val .null, .val .null, iv (0 : Int32), .unset] [])) (fun _ k => XS.ifnonnullNo X0.here hx rfl (hb hby d24_12) rfl k) ?_
  refine own_st (T' := s₁) (g' := (mkF m 16 #[.val .null, .val .null, iv (0 : Int32), .unset] [(.int (0 : Int32))])) (fun _ k => XS.iconst X0.here hx rfl (hb hby d24_15) k) ?_
  refine own_st (T' := s₁) (g' := (mkF m 21 #[.val .null, .val .null, iv (0 : Int32), .unset] [(.int (0 : Int32))])) (fun _ k => XS.goto X0.here hx rfl (pc0 := 16) (pc' := 21) rfl (hb hby d24_16) (by decide) (by decide) k) ?_
  refine own_st (T' := s₁) (g' := (mkF m 22 #[.val .null, .val .null, iv (0 : Int32), iv (0 : Int32)] [])) (fun _ k => XS.istoreN X0.here hx rfl (hb hby d24_21) rfl (l' := #[.val .null, .val .null, iv (0 : Int32), iv (0 : Int32)]) rfl k) ?_
  refine own_st (T' := s₁) (g' := (mkF m 24 #[.val .null, .val .null, iv (0 : Int32), iv (0 : Int32)] [(.int (26 : Int32))])) (fun _ k => XS.bipush X0.here hx rfl (hb hby d24_22) k) ?_
  refine own_st (T' := s₁) (g' := (mkF m 25 #[.val .null, .val .null, iv (0 : Int32), iv (0 : Int32)] [(.int (0 : Int32)), (.int (26 : Int32))])) (fun _ k => XS.iloadN X0.here hx rfl (hb hby d24_24) rfl k) ?_
  refine own_st (T' := s₁) (g' := (mkF m 26 #[.val .null, .val .null, iv (0 : Int32), iv (0 : Int32)] [(.int ((26 : Int32) + (0 : Int32)))])) (fun _ k => XS.iadd X0.here hx rfl (hb hby d24_25) rfl k) ?_
  refine own_st (T' := s₁) (g' := (mkF m 27 #[.val .null, .val .null, iv (0 : Int32), iv (0 : Int32)] [(.int (5 : Int32)), (.int ((26 : Int32) + (0 : Int32)))])) (fun _ k => XS.iconst X0.here hx rfl (hb hby d24_26) k) ?_
  refine own_st (T' := s₁) (g' := (mkF m 28 #[.val .null, .val .null, iv (0 : Int32), iv (0 : Int32)] [(.int (((26 : Int32) + (0 : Int32)) + (5 : Int32)))])) (fun _ k => XS.iadd X0.here hx rfl (hb hby d24_27) rfl k) ?_
  refine own_st (T' := s₁) (g' := (mkF m 29 #[.val .null, .val .null, iv (0 : Int32), iv (0 : Int32)] [(.int (0 : Int32)), (.int (((26 : Int32) + (0 : Int32)) + (5 : Int32)))])) (fun _ k => XS.iloadN X0.here hx rfl (hb hby d24_28) rfl k) ?_
  refine own_st (T' := s₁) (g' := (mkF m 30 #[.val .null, .val .null, iv (0 : Int32), iv (0 : Int32)] [(.int ((((26 : Int32) + (0 : Int32)) + (5 : Int32)) + (0 : Int32)))])) (fun _ k => XS.iadd X0.here hx rfl (hb hby d24_29) rfl k) ?_
  refine own_st (T' := s₁) (g' := (mkF m 31 #[.val .null, .val .null, iv (0 : Int32), iv (0 : Int32)] [(.int (1 : Int32)), (.int ((((26 : Int32) + (0 : Int32)) + (5 : Int32)) + (0 : Int32)))])) (fun _ k => XS.iconst X0.here hx rfl (hb hby d24_30) k) ?_
  refine own_st (T' := s₁) (g' := (mkF m 32 #[.val .null, .val .null, iv (0 : Int32), iv (0 : Int32)] [(.int (((((26 : Int32) + (0 : Int32)) + (5 : Int32)) + (0 : Int32)) + (1 : Int32)))])) (fun _ k => XS.iadd X0.here hx rfl (hb hby d24_31) rfl k) ?_
  exact own_end (Q := Q24_11 Z   h0 n0) (v := some (.int (((((26 : Int32) + (0 : Int32)) + (5 : Int32)) + (0 : Int32)) + (1 : Int32)))) X0 (fun h => by rw [Bd.returns] at h; cases h) (fun fs hr => retI X0 hx Bd.returns (hb hby d24_32) hr) (⟨rfl, N0, e0⟩) (by decide) (by decide)
theorem own_ef24_10 (m : MethodId) (x1 : Addr) : entryFrame m #[.null, (.ref x1)] 4 = mkF m 0 #[.val .null, rv x1, .unset, .unset] [] := by first | (simp [entryFrame, mkF, argsToLocals, Value.category]; done) | rfl
def Q24_10 (Z : State) (vy : Addr) (vl : Int32) (h0 : Heap) (n0 : Nat) (v : Option Value) (h : Heap) (L : List Loc) : Prop := v = some (.int (((((26 : Int32) + (0 : Int32)) + (5 : Int32)) + vl) + (1 : Int32))) ∧ Fr n0 L ∧ h = h0
set_option maxRecDepth 65536 in
set_option maxHeartbeats 40000000 in
theorem rm24_10 (l : Launch) (Z : State) (a0 : Array Value) (hw : ∀ d ∈ tables_1, d.before a0 Z = true) (ws : List Jvm.Cond) (vy : Addr) (vl : Int32) (h0 : Heap) (n0 : Nat) (Z0 : n0 ≤ h0.size) (Y_v : own_Y Z h0 vy vl)   :
    MetFree l (⟨"com/example/millrace/millrace/wire/RecordBatchBuilder", "maxRecordSize", "([B[B)I"⟩ : MethodName) (head1 (Jvm.Cond.code (⟨"com/example/millrace/millrace/wire/RecordBatchBuilder", "maxRecordSize", "([B[B)I"⟩ : MethodName) prog_130_method_5_code 4 (some .int) :: ws) ({ frames := 0, cells := 0, slots := 0, locals := 0 } : Room)) (fun a U => a = #[.null, (.ref vy)] ∧ Z.Warmed39 U.vm ∧ U.heap = h0) (fun _ _ _ _ _ => True) (fun _ U o U' => ∃ v L, o = .returned v ∧ Q24_10 Z vy vl h0 n0 v U'.heap L ∧ FrameEnd U o U' L ({ frames := 0, cells := 0, slots := 0, locals := 0 } : Room).cells ({ frames := 0, cells := 0, slots := 0, locals := 0 } : Room).slots) := by
  refine MetFree.of_bodySF (plainFor_of_name own_pn24) hisR ?_
  intro p e s m args below meth c s₁ Bd hml0 hP hK
  obtain ⟨rfl, hZ, hh⟩ := hP
  have hx := Bd.exec
  have hby := Bd.bytes
  have hml : c.maxLocals = 4 := hml0
  have hown : s.vm.findClass "com/example/millrace/millrace/wire/RecordBatchBuilder" = some m.cls := findClass_of_methodNamed Bd.named
  have hnm := (name_of_methodNamed Bd.named Bd.method).1
  have hlk := Bd.notSynchronized
  have X0 : Stand p l e ({ frames := 0, cells := 0, slots := 0, locals := 0 } : Room) s m #[.null, (.ref vy)] below meth c s₁ [] 0 0 := Stand.of_body Bd
  have e0 : s₁.heap = h0 := by rw [← hh, Bd.state]; rfl
  have N0 := Fr.nil n0
  show own_Goes p e below (fun o U' => ∃ v L, o = .returned v ∧ Q24_10 Z vy vl h0 n0 v U'.heap L ∧ FrameEnd s o U' L ({ frames := 0, cells := 0, slots := 0, locals := 0 } : Room).cells ({ frames := 0, cells := 0, slots := 0, locals := 0 } : Room).slots) s₁ (entryFrame m #[.null, (.ref vy)] 4)
  refine own_st (T' := s₁) (g' := mkF m 0 #[.val .null, rv vy, .unset, .unset] []) (fun _ k => castTop (own_ef24_10 m vy) k) ?_
  refine own_st (T' := s₁) (g' := (mkF m 1 #[.val .null, rv vy, .unset, .unset] [.null])) (fun _ k => XS.aloadN X0.here hx rfl (hb hby d24_0) rfl rfl k) ?_
  refine own_st (T' := s₁) (g' := (mkF m 4 #[.val .null, rv vy, .unset, .unset] [])) (fun _ k => XS.ifnonnullNo X0.here hx rfl (hb hby d24_1) rfl k) ?_
  refine own_st (T' := s₁) (g' := (mkF m 5 #[.val .null, rv vy, .unset, .unset] [(.int (0 : Int32))])) (fun _ k => XS.iconst X0.here hx rfl (hb hby d24_4) k) ?_
  refine own_st (T' := s₁) (g' := (mkF m 10 #[.val .null, rv vy, .unset, .unset] [(.int (0 : Int32))])) (fun _ k => XS.goto X0.here hx rfl (pc0 := 5) (pc' := 10) rfl (hb hby d24_5) (by decide) (by decide) k) ?_
  refine own_st (T' := s₁) (g' := (mkF m 11 #[.val .null, rv vy, iv (0 : Int32), .unset] [])) (fun _ k => XS.istoreN X0.here hx rfl (hb hby d24_10) rfl (l' := #[.val .null, rv vy, iv (0 : Int32), .unset]) rfl k) ?_
  refine own_st (T' := s₁) (g' := (mkF m 12 #[.val .null, rv vy, iv (0 : Int32), .unset] [(.ref vy)])) (fun _ k => XS.aloadN X0.here hx rfl (hb hby d24_11) rfl rfl k) ?_
  refine own_st (T' := s₁) (g' := (mkF m 19 #[.val .null, rv vy, iv (0 : Int32), .unset] [])) (fun _ k => XS.ifnonnullYes X0.here hx rfl (pc0 := 12) (pc' := 19) rfl (hb hby d24_12) rfl (by decide) (by decide) k) ?_
  refine own_st (T' := s₁) (g' := (mkF m 20 #[.val .null, rv vy, iv (0 : Int32), .unset] [(.ref vy)])) (fun _ k => XS.aloadN X0.here hx rfl (hb hby d24_19) rfl rfl k) ?_
  refine own_st (T' := s₁) (g' := (mkF m 21 #[.val .null, rv vy, iv (0 : Int32), .unset] [(.int vl)])) (fun _ k => (own_alen X0 hx hZ e0 Y_v (g := (mkF m 20 #[.val .null, rv vy, iv (0 : Int32), .unset] [(.ref vy)])) rfl rfl (hb hby d24_20)) _ k) ?_
  refine own_st (T' := s₁) (g' := (mkF m 22 #[.val .null, rv vy, iv (0 : Int32), iv vl] [])) (fun _ k => XS.istoreN X0.here hx rfl (hb hby d24_21) rfl (l' := #[.val .null, rv vy, iv (0 : Int32), iv vl]) rfl k) ?_
  refine own_st (T' := s₁) (g' := (mkF m 24 #[.val .null, rv vy, iv (0 : Int32), iv vl] [(.int (26 : Int32))])) (fun _ k => XS.bipush X0.here hx rfl (hb hby d24_22) k) ?_
  refine own_st (T' := s₁) (g' := (mkF m 25 #[.val .null, rv vy, iv (0 : Int32), iv vl] [(.int (0 : Int32)), (.int (26 : Int32))])) (fun _ k => XS.iloadN X0.here hx rfl (hb hby d24_24) rfl k) ?_
  refine own_st (T' := s₁) (g' := (mkF m 26 #[.val .null, rv vy, iv (0 : Int32), iv vl] [(.int ((26 : Int32) + (0 : Int32)))])) (fun _ k => XS.iadd X0.here hx rfl (hb hby d24_25) rfl k) ?_
  refine own_st (T' := s₁) (g' := (mkF m 27 #[.val .null, rv vy, iv (0 : Int32), iv vl] [(.int (5 : Int32)), (.int ((26 : Int32) + (0 : Int32)))])) (fun _ k => XS.iconst X0.here hx rfl (hb hby d24_26) k) ?_
  refine own_st (T' := s₁) (g' := (mkF m 28 #[.val .null, rv vy, iv (0 : Int32), iv vl] [(.int (((26 : Int32) + (0 : Int32)) + (5 : Int32)))])) (fun _ k => XS.iadd X0.here hx rfl (hb hby d24_27) rfl k) ?_
  refine own_st (T' := s₁) (g' := (mkF m 29 #[.val .null, rv vy, iv (0 : Int32), iv vl] [(.int vl), (.int (((26 : Int32) + (0 : Int32)) + (5 : Int32)))])) (fun _ k => XS.iloadN X0.here hx rfl (hb hby d24_28) rfl k) ?_
  refine own_st (T' := s₁) (g' := (mkF m 30 #[.val .null, rv vy, iv (0 : Int32), iv vl] [(.int ((((26 : Int32) + (0 : Int32)) + (5 : Int32)) + vl))])) (fun _ k => XS.iadd X0.here hx rfl (hb hby d24_29) rfl k) ?_
  refine own_st (T' := s₁) (g' := (mkF m 31 #[.val .null, rv vy, iv (0 : Int32), iv vl] [(.int (1 : Int32)), (.int ((((26 : Int32) + (0 : Int32)) + (5 : Int32)) + vl))])) (fun _ k => XS.iconst X0.here hx rfl (hb hby d24_30) k) ?_
  refine own_st (T' := s₁) (g' := (mkF m 32 #[.val .null, rv vy, iv (0 : Int32), iv vl] [(.int (((((26 : Int32) + (0 : Int32)) + (5 : Int32)) + vl) + (1 : Int32)))])) (fun _ k => XS.iadd X0.here hx rfl (hb hby d24_31) rfl k) ?_
  exact own_end (Q := Q24_10 Z vy vl h0 n0) (v := some (.int (((((26 : Int32) + (0 : Int32)) + (5 : Int32)) + vl) + (1 : Int32)))) X0 (fun h => by rw [Bd.returns] at h; cases h) (fun fs hr => retI X0 hx Bd.returns (hb hby d24_32) hr) (⟨rfl, N0, e0⟩) (by decide) (by decide)
theorem own_ef24_01 (m : MethodId) (x0 : Addr) : entryFrame m #[(.ref x0), .null] 4 = mkF m 0 #[rv x0, .val .null, .unset, .unset] [] := by first | (simp [entryFrame, mkF, argsToLocals, Value.category]; done) | rfl
def Q24_01 (Z : State) (ky : Addr) (kl : Int32) (h0 : Heap) (n0 : Nat) (v : Option Value) (h : Heap) (L : List Loc) : Prop := v = some (.int (((((26 : Int32) + kl) + (5 : Int32)) + (0 : Int32)) + (1 : Int32))) ∧ Fr n0 L ∧ h = h0
set_option maxRecDepth 65536 in
set_option maxHeartbeats 40000000 in
theorem rm24_01 (l : Launch) (Z : State) (a0 : Array Value) (hw : ∀ d ∈ tables_1, d.before a0 Z = true) (ws : List Jvm.Cond) (ky : Addr) (kl : Int32) (h0 : Heap) (n0 : Nat) (Z0 : n0 ≤ h0.size) (Y_k : own_Y Z h0 ky kl)   :
    MetFree l (⟨"com/example/millrace/millrace/wire/RecordBatchBuilder", "maxRecordSize", "([B[B)I"⟩ : MethodName) (head1 (Jvm.Cond.code (⟨"com/example/millrace/millrace/wire/RecordBatchBuilder", "maxRecordSize", "([B[B)I"⟩ : MethodName) prog_130_method_5_code 4 (some .int) :: ws) ({ frames := 0, cells := 0, slots := 0, locals := 0 } : Room)) (fun a U => a = #[(.ref ky), .null] ∧ Z.Warmed39 U.vm ∧ U.heap = h0) (fun _ _ _ _ _ => True) (fun _ U o U' => ∃ v L, o = .returned v ∧ Q24_01 Z ky kl h0 n0 v U'.heap L ∧ FrameEnd U o U' L ({ frames := 0, cells := 0, slots := 0, locals := 0 } : Room).cells ({ frames := 0, cells := 0, slots := 0, locals := 0 } : Room).slots) := by
  refine MetFree.of_bodySF (plainFor_of_name own_pn24) hisR ?_
  intro p e s m args below meth c s₁ Bd hml0 hP hK
  obtain ⟨rfl, hZ, hh⟩ := hP
  have hx := Bd.exec
  have hby := Bd.bytes
  have hml : c.maxLocals = 4 := hml0
  have hown : s.vm.findClass "com/example/millrace/millrace/wire/RecordBatchBuilder" = some m.cls := findClass_of_methodNamed Bd.named
  have hnm := (name_of_methodNamed Bd.named Bd.method).1
  have hlk := Bd.notSynchronized
  have X0 : Stand p l e ({ frames := 0, cells := 0, slots := 0, locals := 0 } : Room) s m #[(.ref ky), .null] below meth c s₁ [] 0 0 := Stand.of_body Bd
  have e0 : s₁.heap = h0 := by rw [← hh, Bd.state]; rfl
  have N0 := Fr.nil n0
  show own_Goes p e below (fun o U' => ∃ v L, o = .returned v ∧ Q24_01 Z ky kl h0 n0 v U'.heap L ∧ FrameEnd s o U' L ({ frames := 0, cells := 0, slots := 0, locals := 0 } : Room).cells ({ frames := 0, cells := 0, slots := 0, locals := 0 } : Room).slots) s₁ (entryFrame m #[(.ref ky), .null] 4)
  refine own_st (T' := s₁) (g' := mkF m 0 #[rv ky, .val .null, .unset, .unset] []) (fun _ k => castTop (own_ef24_01 m ky) k) ?_
  refine own_st (T' := s₁) (g' := (mkF m 1 #[rv ky, .val .null, .unset, .unset] [(.ref ky)])) (fun _ k => XS.aloadN X0.here hx rfl (hb hby d24_0) rfl rfl k) ?_
  refine own_st (T' := s₁) (g' := (mkF m 8 #[rv ky, .val .null, .unset, .unset] [])) (fun _ k => XS.ifnonnullYes X0.here hx rfl (pc0 := 1) (pc' := 8) rfl (hb hby d24_1) rfl (by decide) (by decide) k) ?_
  refine own_st (T' := s₁) (g' := (mkF m 9 #[rv ky, .val .null, .unset, .unset] [(.ref ky)])) (fun _ k => XS.aloadN X0.here hx rfl (hb hby d24_8) rfl rfl k) ?_
  refine own_st (T' := s₁) (g' := (mkF m 10 #[rv ky, .val .null, .unset, .unset] [(.int kl)])) (fun _ k => (own_alen X0 hx hZ e0 Y_k (g := (mkF m 9 #[rv ky, .val .null, .unset, .unset] [(.ref ky)])) rfl rfl (hb hby d24_9)) _ k) ?_
  refine own_st (T' := s₁) (g' := (mkF m 11 #[rv ky, .val .null, iv kl, .unset] [])) (fun _ k => XS.istoreN X0.here hx rfl (hb hby d24_10) rfl (l' := #[rv ky, .val .null, iv kl, .unset]) rfl k) ?_
  refine own_st (T' := s₁) (g' := (mkF m 12 #[rv ky, .val .null, iv kl, .unset] [.null])) (fun _ k => XS.aloadN X0.here hx rfl (hb hby d24_11) rfl rfl k) ?_
  refine own_st (T' := s₁) (g' := (mkF m 15 #[rv ky, .val .null, iv kl, .unset] [])) (fun _ k => XS.ifnonnullNo X0.here hx rfl (hb hby d24_12) rfl k) ?_
  refine own_st (T' := s₁) (g' := (mkF m 16 #[rv ky, .val .null, iv kl, .unset] [(.int (0 : Int32))])) (fun _ k => XS.iconst X0.here hx rfl (hb hby d24_15) k) ?_
  refine own_st (T' := s₁) (g' := (mkF m 21 #[rv ky, .val .null, iv kl, .unset] [(.int (0 : Int32))])) (fun _ k => XS.goto X0.here hx rfl (pc0 := 16) (pc' := 21) rfl (hb hby d24_16) (by decide) (by decide) k) ?_
  refine own_st (T' := s₁) (g' := (mkF m 22 #[rv ky, .val .null, iv kl, iv (0 : Int32)] [])) (fun _ k => XS.istoreN X0.here hx rfl (hb hby d24_21) rfl (l' := #[rv ky, .val .null, iv kl, iv (0 : Int32)]) rfl k) ?_
  refine own_st (T' := s₁) (g' := (mkF m 24 #[rv ky, .val .null, iv kl, iv (0 : Int32)] [(.int (26 : Int32))])) (fun _ k => XS.bipush X0.here hx rfl (hb hby d24_22) k) ?_
  refine own_st (T' := s₁) (g' := (mkF m 25 #[rv ky, .val .null, iv kl, iv (0 : Int32)] [(.int kl), (.int (26 : Int32))])) (fun _ k => XS.iloadN X0.here hx rfl (hb hby d24_24) rfl k) ?_
  refine own_st (T' := s₁) (g' := (mkF m 26 #[rv ky, .val .null, iv kl, iv (0 : Int32)] [(.int ((26 : Int32) + kl))])) (fun _ k => XS.iadd X0.here hx rfl (hb hby d24_25) rfl k) ?_
  refine own_st (T' := s₁) (g' := (mkF m 27 #[rv ky, .val .null, iv kl, iv (0 : Int32)] [(.int (5 : Int32)), (.int ((26 : Int32) + kl))])) (fun _ k => XS.iconst X0.here hx rfl (hb hby d24_26) k) ?_
  refine own_st (T' := s₁) (g' := (mkF m 28 #[rv ky, .val .null, iv kl, iv (0 : Int32)] [(.int (((26 : Int32) + kl) + (5 : Int32)))])) (fun _ k => XS.iadd X0.here hx rfl (hb hby d24_27) rfl k) ?_
  refine own_st (T' := s₁) (g' := (mkF m 29 #[rv ky, .val .null, iv kl, iv (0 : Int32)] [(.int (0 : Int32)), (.int (((26 : Int32) + kl) + (5 : Int32)))])) (fun _ k => XS.iloadN X0.here hx rfl (hb hby d24_28) rfl k) ?_
  refine own_st (T' := s₁) (g' := (mkF m 30 #[rv ky, .val .null, iv kl, iv (0 : Int32)] [(.int ((((26 : Int32) + kl) + (5 : Int32)) + (0 : Int32)))])) (fun _ k => XS.iadd X0.here hx rfl (hb hby d24_29) rfl k) ?_
  refine own_st (T' := s₁) (g' := (mkF m 31 #[rv ky, .val .null, iv kl, iv (0 : Int32)] [(.int (1 : Int32)), (.int ((((26 : Int32) + kl) + (5 : Int32)) + (0 : Int32)))])) (fun _ k => XS.iconst X0.here hx rfl (hb hby d24_30) k) ?_
  refine own_st (T' := s₁) (g' := (mkF m 32 #[rv ky, .val .null, iv kl, iv (0 : Int32)] [(.int (((((26 : Int32) + kl) + (5 : Int32)) + (0 : Int32)) + (1 : Int32)))])) (fun _ k => XS.iadd X0.here hx rfl (hb hby d24_31) rfl k) ?_
  exact own_end (Q := Q24_01 Z ky kl h0 n0) (v := some (.int (((((26 : Int32) + kl) + (5 : Int32)) + (0 : Int32)) + (1 : Int32)))) X0 (fun h => by rw [Bd.returns] at h; cases h) (fun fs hr => retI X0 hx Bd.returns (hb hby d24_32) hr) (⟨rfl, N0, e0⟩) (by decide) (by decide)
theorem own_ef24_00 (m : MethodId) (x0 : Addr) (x1 : Addr) : entryFrame m #[(.ref x0), (.ref x1)] 4 = mkF m 0 #[rv x0, rv x1, .unset, .unset] [] := by first | (simp [entryFrame, mkF, argsToLocals, Value.category]; done) | rfl
def Q24_00 (Z : State) (ky : Addr) (vy : Addr) (kl : Int32) (vl : Int32) (h0 : Heap) (n0 : Nat) (v : Option Value) (h : Heap) (L : List Loc) : Prop := v = some (.int (((((26 : Int32) + kl) + (5 : Int32)) + vl) + (1 : Int32))) ∧ Fr n0 L ∧ h = h0
set_option maxRecDepth 65536 in
set_option maxHeartbeats 40000000 in
theorem rm24_00 (l : Launch) (Z : State) (a0 : Array Value) (hw : ∀ d ∈ tables_1, d.before a0 Z = true) (ws : List Jvm.Cond) (ky : Addr) (vy : Addr) (kl : Int32) (vl : Int32) (h0 : Heap) (n0 : Nat) (Z0 : n0 ≤ h0.size) (Y_k : own_Y Z h0 ky kl) (Y_v : own_Y Z h0 vy vl)   :
    MetFree l (⟨"com/example/millrace/millrace/wire/RecordBatchBuilder", "maxRecordSize", "([B[B)I"⟩ : MethodName) (head1 (Jvm.Cond.code (⟨"com/example/millrace/millrace/wire/RecordBatchBuilder", "maxRecordSize", "([B[B)I"⟩ : MethodName) prog_130_method_5_code 4 (some .int) :: ws) ({ frames := 0, cells := 0, slots := 0, locals := 0 } : Room)) (fun a U => a = #[(.ref ky), (.ref vy)] ∧ Z.Warmed39 U.vm ∧ U.heap = h0) (fun _ _ _ _ _ => True) (fun _ U o U' => ∃ v L, o = .returned v ∧ Q24_00 Z ky vy kl vl h0 n0 v U'.heap L ∧ FrameEnd U o U' L ({ frames := 0, cells := 0, slots := 0, locals := 0 } : Room).cells ({ frames := 0, cells := 0, slots := 0, locals := 0 } : Room).slots) := by
  refine MetFree.of_bodySF (plainFor_of_name own_pn24) hisR ?_
  intro p e s m args below meth c s₁ Bd hml0 hP hK
  obtain ⟨rfl, hZ, hh⟩ := hP
  have hx := Bd.exec
  have hby := Bd.bytes
  have hml : c.maxLocals = 4 := hml0
  have hown : s.vm.findClass "com/example/millrace/millrace/wire/RecordBatchBuilder" = some m.cls := findClass_of_methodNamed Bd.named
  have hnm := (name_of_methodNamed Bd.named Bd.method).1
  have hlk := Bd.notSynchronized
  have X0 : Stand p l e ({ frames := 0, cells := 0, slots := 0, locals := 0 } : Room) s m #[(.ref ky), (.ref vy)] below meth c s₁ [] 0 0 := Stand.of_body Bd
  have e0 : s₁.heap = h0 := by rw [← hh, Bd.state]; rfl
  have N0 := Fr.nil n0
  show own_Goes p e below (fun o U' => ∃ v L, o = .returned v ∧ Q24_00 Z ky vy kl vl h0 n0 v U'.heap L ∧ FrameEnd s o U' L ({ frames := 0, cells := 0, slots := 0, locals := 0 } : Room).cells ({ frames := 0, cells := 0, slots := 0, locals := 0 } : Room).slots) s₁ (entryFrame m #[(.ref ky), (.ref vy)] 4)
  refine own_st (T' := s₁) (g' := mkF m 0 #[rv ky, rv vy, .unset, .unset] []) (fun _ k => castTop (own_ef24_00 m ky vy) k) ?_
  refine own_st (T' := s₁) (g' := (mkF m 1 #[rv ky, rv vy, .unset, .unset] [(.ref ky)])) (fun _ k => XS.aloadN X0.here hx rfl (hb hby d24_0) rfl rfl k) ?_
  refine own_st (T' := s₁) (g' := (mkF m 8 #[rv ky, rv vy, .unset, .unset] [])) (fun _ k => XS.ifnonnullYes X0.here hx rfl (pc0 := 1) (pc' := 8) rfl (hb hby d24_1) rfl (by decide) (by decide) k) ?_
  refine own_st (T' := s₁) (g' := (mkF m 9 #[rv ky, rv vy, .unset, .unset] [(.ref ky)])) (fun _ k => XS.aloadN X0.here hx rfl (hb hby d24_8) rfl rfl k) ?_
  refine own_st (T' := s₁) (g' := (mkF m 10 #[rv ky, rv vy, .unset, .unset] [(.int kl)])) (fun _ k => (own_alen X0 hx hZ e0 Y_k (g := (mkF m 9 #[rv ky, rv vy, .unset, .unset] [(.ref ky)])) rfl rfl (hb hby d24_9)) _ k) ?_
  refine own_st (T' := s₁) (g' := (mkF m 11 #[rv ky, rv vy, iv kl, .unset] [])) (fun _ k => XS.istoreN X0.here hx rfl (hb hby d24_10) rfl (l' := #[rv ky, rv vy, iv kl, .unset]) rfl k) ?_
  refine own_st (T' := s₁) (g' := (mkF m 12 #[rv ky, rv vy, iv kl, .unset] [(.ref vy)])) (fun _ k => XS.aloadN X0.here hx rfl (hb hby d24_11) rfl rfl k) ?_
  refine own_st (T' := s₁) (g' := (mkF m 19 #[rv ky, rv vy, iv kl, .unset] [])) (fun _ k => XS.ifnonnullYes X0.here hx rfl (pc0 := 12) (pc' := 19) rfl (hb hby d24_12) rfl (by decide) (by decide) k) ?_
  refine own_st (T' := s₁) (g' := (mkF m 20 #[rv ky, rv vy, iv kl, .unset] [(.ref vy)])) (fun _ k => XS.aloadN X0.here hx rfl (hb hby d24_19) rfl rfl k) ?_
  refine own_st (T' := s₁) (g' := (mkF m 21 #[rv ky, rv vy, iv kl, .unset] [(.int vl)])) (fun _ k => (own_alen X0 hx hZ e0 Y_v (g := (mkF m 20 #[rv ky, rv vy, iv kl, .unset] [(.ref vy)])) rfl rfl (hb hby d24_20)) _ k) ?_
  refine own_st (T' := s₁) (g' := (mkF m 22 #[rv ky, rv vy, iv kl, iv vl] [])) (fun _ k => XS.istoreN X0.here hx rfl (hb hby d24_21) rfl (l' := #[rv ky, rv vy, iv kl, iv vl]) rfl k) ?_
  refine own_st (T' := s₁) (g' := (mkF m 24 #[rv ky, rv vy, iv kl, iv vl] [(.int (26 : Int32))])) (fun _ k => XS.bipush X0.here hx rfl (hb hby d24_22) k) ?_
  refine own_st (T' := s₁) (g' := (mkF m 25 #[rv ky, rv vy, iv kl, iv vl] [(.int kl), (.int (26 : Int32))])) (fun _ k => XS.iloadN X0.here hx rfl (hb hby d24_24) rfl k) ?_
  refine own_st (T' := s₁) (g' := (mkF m 26 #[rv ky, rv vy, iv kl, iv vl] [(.int ((26 : Int32) + kl))])) (fun _ k => XS.iadd X0.here hx rfl (hb hby d24_25) rfl k) ?_
  refine own_st (T' := s₁) (g' := (mkF m 27 #[rv ky, rv vy, iv kl, iv vl] [(.int (5 : Int32)), (.int ((26 : Int32) + kl))])) (fun _ k => XS.iconst X0.here hx rfl (hb hby d24_26) k) ?_
  refine own_st (T' := s₁) (g' := (mkF m 28 #[rv ky, rv vy, iv kl, iv vl] [(.int (((26 : Int32) + kl) + (5 : Int32)))])) (fun _ k => XS.iadd X0.here hx rfl (hb hby d24_27) rfl k) ?_
  refine own_st (T' := s₁) (g' := (mkF m 29 #[rv ky, rv vy, iv kl, iv vl] [(.int vl), (.int (((26 : Int32) + kl) + (5 : Int32)))])) (fun _ k => XS.iloadN X0.here hx rfl (hb hby d24_28) rfl k) ?_
  refine own_st (T' := s₁) (g' := (mkF m 30 #[rv ky, rv vy, iv kl, iv vl] [(.int ((((26 : Int32) + kl) + (5 : Int32)) + vl))])) (fun _ k => XS.iadd X0.here hx rfl (hb hby d24_29) rfl k) ?_
  refine own_st (T' := s₁) (g' := (mkF m 31 #[rv ky, rv vy, iv kl, iv vl] [(.int (1 : Int32)), (.int ((((26 : Int32) + kl) + (5 : Int32)) + vl))])) (fun _ k => XS.iconst X0.here hx rfl (hb hby d24_30) k) ?_
  refine own_st (T' := s₁) (g' := (mkF m 32 #[rv ky, rv vy, iv kl, iv vl] [(.int (((((26 : Int32) + kl) + (5 : Int32)) + vl) + (1 : Int32)))])) (fun _ k => XS.iadd X0.here hx rfl (hb hby d24_31) rfl k) ?_
  exact own_end (Q := Q24_00 Z ky vy kl vl h0 n0) (v := some (.int (((((26 : Int32) + kl) + (5 : Int32)) + vl) + (1 : Int32)))) X0 (fun h => by rw [Bd.returns] at h; cases h) (fun fs hr => retI X0 hx Bd.returns (hb hby d24_32) hr) (⟨rfl, N0, e0⟩) (by decide) (by decide)
def own_S (Z : State) (h : Heap) (a1 wo t : Addr) (bt mt : Int64) (c P n : Int32) : Prop := Exa Z h a1 "com/example/millrace/millrace/wire/RecordBatchBuilder" ∧ Fld Z h a1 "com/example/millrace/millrace/wire/RecordBatchBuilder" "out" "Lcom/example/millrace/millrace/wire/ProtocolWriter;" (.ref wo) ∧ Fld Z h a1 "com/example/millrace/millrace/wire/RecordBatchBuilder" "baseTimestamp" "J" (.long bt) ∧ Fld Z h a1 "com/example/millrace/millrace/wire/RecordBatchBuilder" "maxTimestamp" "J" (.long mt) ∧ Fld Z h a1 "com/example/millrace/millrace/wire/RecordBatchBuilder" "count" "I" (.int c) ∧ Exa Z h wo "com/example/millrace/millrace/wire/ProtocolWriter" ∧ Fld Z h wo "com/example/millrace/millrace/wire/ProtocolWriter" "bytes" "[B" (.ref t) ∧ Fld Z h wo "com/example/millrace/millrace/wire/ProtocolWriter" "position" "I" (.int P) ∧ own_Y Z h t n
theorem d1_0 : decode prog_130_method_1_code 0 = .ok (.aload_n 0, 1) := by decide +kernel
theorem d1_1 : decode prog_130_method_1_code 1 = .ok (.invokespecial 1, 3) := by decide +kernel
theorem d1_4 : decode prog_130_method_1_code 4 = .ok (.aload_n 0, 1) := by decide +kernel
theorem d1_5 : decode prog_130_method_1_code 5 = .ok (.new 7, 3) := by decide +kernel
theorem d1_8 : decode prog_130_method_1_code 8 = .ok (.dup, 1) := by decide +kernel
theorem d1_9 : decode prog_130_method_1_code 9 = .ok (.bipush 61, 2) := by decide +kernel
theorem d1_11 : decode prog_130_method_1_code 11 = .ok (.iconst 0, 1) := by decide +kernel
theorem d1_12 : decode prog_130_method_1_code 12 = .ok (.iload_n 1, 1) := by decide +kernel
theorem d1_13 : decode prog_130_method_1_code 13 = .ok (.invokestatic 11, 3) := by decide +kernel
theorem d1_16 : decode prog_130_method_1_code 16 = .ok (.iadd, 1) := by decide +kernel
theorem d1_17 : decode prog_130_method_1_code 17 = .ok (.invokespecial 17, 3) := by decide +kernel
theorem d1_20 : decode prog_130_method_1_code 20 = .ok (.putfield 20, 3) := by decide +kernel
theorem d1_23 : decode prog_130_method_1_code 23 = .ok (.aload_n 0, 1) := by decide +kernel
theorem d1_24 : decode prog_130_method_1_code 24 = .ok (.getfield 20, 3) := by decide +kernel
theorem d1_27 : decode prog_130_method_1_code 27 = .ok (.getstatic 24, 3) := by decide +kernel
theorem d1_30 : decode prog_130_method_1_code 30 = .ok (.invokevirtual 28, 3) := by decide +kernel
theorem d1_33 : decode prog_130_method_1_code 33 = .ok (.pop, 1) := by decide +kernel
theorem d1_34 : decode prog_130_method_1_code 34 = .ok (.return_, 1) := by decide +kernel
theorem own_pn1 : plainName "com/example/millrace/millrace/wire/RecordBatchBuilder" = true := by first | (simp [plainName, overriddenIn]; done) | decide +kernel
theorem own_pd1_0 : parseMethodDescriptor "(II)I" = some ⟨[.int, .int], some .int⟩ := by decide +kernel
theorem own_pd1_1 : parseMethodDescriptor "(I)V" = some ⟨[.int], none⟩ := by decide +kernel
theorem own_pd1_2 : parseMethodDescriptor "([B)Lcom/example/millrace/millrace/wire/ProtocolWriter;" = some ⟨[(.array .byte)], some (.object "com/example/millrace/millrace/wire/ProtocolWriter")⟩ := by decide +kernel
theorem own_ef1 (m : MethodId) (x0 : Addr) (x1 : Int32) : entryFrame m #[(.ref x0), (.int x1)] 2 = mkF m 0 #[rv x0, iv x1] [] := by first | (simp [entryFrame, mkF, argsToLocals, Value.category]; done) | rfl
def Q1 (Z : State) (a1 : Addr) (hd : Addr) (h0 : Heap) (n0 : Nat) (v : Option Value) (h : Heap) (L : List Loc) : Prop := v = none ∧ Fr n0 L ∧ Keep h0 h [a1] ∧ ∃ (wo t : Addr) (n : Int32), h0.size ≤ wo ∧ h0.size ≤ t ∧ n0 ≤ wo ∧ n0 ≤ t ∧ wo ≠ t ∧ 61 ≤ n.toInt ∧ n.toInt ≤ 122 ∧ own_S Z h a1 wo t (0 : Int64) (0 : Int64) (0 : Int32) (61 : Int32) n
set_option maxRecDepth 65536 in
set_option maxHeartbeats 40000000 in
theorem rm1 (l : Launch) (Z : State) (a0 : Array Value) (hw : ∀ d ∈ tables_1, d.before a0 Z = true) (ws : List Jvm.Cond) (a1 : Addr) (hd : Addr) (h0 : Heap) (n0 : Nat) (Z0 : n0 ≤ h0.size) (E_a1 : Exa Z h0 a1 "com/example/millrace/millrace/wire/RecordBatchBuilder") (F_o : Fld Z h0 a1 "com/example/millrace/millrace/wire/RecordBatchBuilder" "out" "Lcom/example/millrace/millrace/wire/ProtocolWriter;" .null) (F_bt : Fld Z h0 a1 "com/example/millrace/millrace/wire/RecordBatchBuilder" "baseTimestamp" "J" (.long (0 : Int64))) (F_mt : Fld Z h0 a1 "com/example/millrace/millrace/wire/RecordBatchBuilder" "maxTimestamp" "J" (.long (0 : Int64))) (F_c : Fld Z h0 a1 "com/example/millrace/millrace/wire/RecordBatchBuilder" "count" "I" (.int (0 : Int32))) (Y_hd : own_Y Z h0 hd (61 : Int32)) (S_h : Sta Z h0 "com/example/millrace/millrace/wire/RecordBatchBuilder" "HEADER" "[B" (.ref hd)) (gn_a1 : n0 ≤ a1) (hne : a1 ≠ hd) :
    MetFree l (⟨"com/example/millrace/millrace/wire/RecordBatchBuilder", "<init>", "(I)V"⟩ : MethodName) (head1 (Jvm.Cond.code (⟨"com/example/millrace/millrace/wire/RecordBatchBuilder", "<init>", "(I)V"⟩ : MethodName) prog_130_method_1_code 2 none :: ws) ({ frames := 6, cells := 3, slots := 2263, locals := 120 } : Room)) (fun a U => a = #[(.ref a1), (.int (0 : Int32))] ∧ Z.Warmed39 U.vm ∧ U.heap = h0) (fun _ _ _ _ _ => True) (fun _ U o U' => ∃ v L, o = .returned v ∧ Q1 Z a1 hd h0 n0 v U'.heap L ∧ FrameEnd U o U' L ({ frames := 6, cells := 3, slots := 2263, locals := 120 } : Room).cells ({ frames := 6, cells := 3, slots := 2263, locals := 120 } : Room).slots) := by
  refine MetFree.of_bodySF (plainFor_of_name own_pn1) hisR ?_
  intro p e s m args below meth c s₁ Bd hml0 hP hK
  obtain ⟨rfl, hZ, hh⟩ := hP
  have hx := Bd.exec
  have hby := Bd.bytes
  have hml : c.maxLocals = 2 := hml0
  have hown : s.vm.findClass "com/example/millrace/millrace/wire/RecordBatchBuilder" = some m.cls := findClass_of_methodNamed Bd.named
  have hnm := (name_of_methodNamed Bd.named Bd.method).1
  have hlk := Bd.notSynchronized
  have X0 : Stand p l e ({ frames := 6, cells := 3, slots := 2263, locals := 120 } : Room) s m #[(.ref a1), (.int (0 : Int32))] below meth c s₁ [] 0 0 := Stand.of_body Bd
  have e0 : s₁.heap = h0 := by rw [← hh, Bd.state]; rfl
  have N0 := Fr.nil n0
  show own_Goes p e below (fun o U' => ∃ v L, o = .returned v ∧ Q1 Z a1 hd h0 n0 v U'.heap L ∧ FrameEnd s o U' L ({ frames := 6, cells := 3, slots := 2263, locals := 120 } : Room).cells ({ frames := 6, cells := 3, slots := 2263, locals := 120 } : Room).slots) s₁ (entryFrame m #[(.ref a1), (.int (0 : Int32))] 2)
  refine own_st (T' := s₁) (g' := mkF m 0 #[rv a1, iv (0 : Int32)] []) (fun _ k => castTop (own_ef1 m a1 (0 : Int32)) k) ?_
  have ne_a1_hd := hne
  refine own_st (T' := s₁) (g' := (mkF m 1 #[rv a1, iv (0 : Int32)] [(.ref a1)])) (fun _ k => XS.aloadN X0.here hx rfl (hb hby d1_0) rfl rfl k) ?_
  obtain ⟨T1, X1, e1, st1⟩ := initO X0 hx hZ hown (hw _ (List.mem_of_getElem? (i := 7) rfl)) (hw _ (List.mem_of_getElem? (i := 8) rfl)) (hw _ (List.mem_of_getElem? (i := 9) rfl)) e0 (g := (mkF m 1 #[rv a1, iv (0 : Int32)] [(.ref a1)])) rfl (by rw [hml]; rfl) rfl (hb hby d1_1) (by decide) (W := 0) (by show 2 * 0 + _ ≤ _; exact Nat.le_of_eq rfl) (by decide)
  refine own_st (T' := T1) (g' := (mkF m 4 #[rv a1, iv (0 : Int32)] [])) (fun _ k => (st1) _ k) ?_
  refine own_st (T' := T1) (g' := (mkF m 5 #[rv a1, iv (0 : Int32)] [(.ref a1)])) (fun _ k => XS.aloadN X1.here hx rfl (hb hby d1_4) rfl rfl k) ?_
  obtain ⟨T2, h2, X2, e2, E2, A2, D2, -, st2⟩ := newO X1 hx hZ hown (hw _ (List.mem_of_getElem? (i := 10) rfl)) (hw _ (List.mem_of_getElem? (i := 11) rfl)) (hw _ (List.mem_of_getElem? (i := 12) rfl)) e1 (g := (mkF m 5 #[rv a1, iv (0 : Int32)] [(.ref a1)])) rfl (hb hby d1_5) (by decide) (by decide)
  obtain ⟨b2, g2⟩ : ∃ z, z = h0.size := ⟨_, rfl⟩
  rw [← g2] at A2 D2 st2
  have ne_a1_b2 : a1 ≠ b2 := Nat.ne_of_lt (Nat.lt_of_lt_of_le E_a1.lt (Nat.le_of_eq g2.symm))
  have ne_hd_b2 : hd ≠ b2 := Nat.ne_of_lt (Nat.lt_of_lt_of_le Y_hd.lt (Nat.le_of_eq g2.symm))
  have gn_b2 : n0 ≤ b2 := Nat.le_trans Z0 (Nat.le_of_eq g2.symm)
  have sz_b2 : h0.size ≤ b2 := Nat.le_trans (Keep.refl h0 [a1]).1 (Nat.le_of_eq g2.symm)
  have Zs2 : n0 ≤ h2.size := Nat.le_trans Z0 E2.1
  have Fa3 : Exa Z h2 a1 "com/example/millrace/millrace/wire/RecordBatchBuilder" := E_a1.ext E2
  have Fa4 : Fld Z h2 a1 "com/example/millrace/millrace/wire/RecordBatchBuilder" "out" "Lcom/example/millrace/millrace/wire/ProtocolWriter;" .null := F_o.ext E2
  have Fa5 : Fld Z h2 a1 "com/example/millrace/millrace/wire/RecordBatchBuilder" "baseTimestamp" "J" (.long (0 : Int64)) := F_bt.ext E2
  have Fa6 : Fld Z h2 a1 "com/example/millrace/millrace/wire/RecordBatchBuilder" "maxTimestamp" "J" (.long (0 : Int64)) := F_mt.ext E2
  have Fa7 : Fld Z h2 a1 "com/example/millrace/millrace/wire/RecordBatchBuilder" "count" "I" (.int (0 : Int32)) := F_c.ext E2
  have Fa8 : own_Y Z h2 hd (61 : Int32) := Y_hd.ext E2
  have Fa9 : Sta Z h2 "com/example/millrace/millrace/wire/RecordBatchBuilder" "HEADER" "[B" (.ref hd) := S_h.ext E2
  have Ke2 : Keep h0 h2 [a1] := (Keep.refl h0 [a1]).ext E2
  have F2_bytes : Fld Z h2 b2 "com/example/millrace/millrace/wire/ProtocolWriter" "bytes" "[B" .null := D2 (Or.inl (hw _ (List.mem_of_getElem? (i := 23) rfl))) (ty := (.array .byte)) (by decide)
  have F2_position : Fld Z h2 b2 "com/example/millrace/millrace/wire/ProtocolWriter" "position" "I" (.int (0 : Int32)) := D2 (Or.inl (hw _ (List.mem_of_getElem? (i := 43) rfl))) (ty := .int) (by decide)
  refine own_st (T' := T2) (g' := (mkF m 8 #[rv a1, iv (0 : Int32)] [(.ref b2), (.ref a1)])) (fun _ k => (st2) _ k) ?_
  refine own_st (T' := T2) (g' := (mkF m 9 #[rv a1, iv (0 : Int32)] [(.ref b2), (.ref b2), (.ref a1)])) (fun _ k => XS.dup X2.here hx rfl (hb hby d1_8) rfl rfl k) ?_
  refine own_st (T' := T2) (g' := (mkF m 11 #[rv a1, iv (0 : Int32)] [(.int (61 : Int32)), (.ref b2), (.ref b2), (.ref a1)])) (fun _ k => XS.bipush X2.here hx rfl (hb hby d1_9) k) ?_
  refine own_st (T' := T2) (g' := (mkF m 12 #[rv a1, iv (0 : Int32)] [(.int (0 : Int32)), (.int (61 : Int32)), (.ref b2), (.ref b2), (.ref a1)])) (fun _ k => XS.iconst X2.here hx rfl (hb hby d1_11) k) ?_
  refine own_st (T' := T2) (g' := (mkF m 13 #[rv a1, iv (0 : Int32)] [(.int (0 : Int32)), (.int (0 : Int32)), (.int (61 : Int32)), (.ref b2), (.ref b2), (.ref a1)])) (fun _ k => XS.iloadN X2.here hx rfl (hb hby d1_12) rfl k) ?_
  obtain ⟨v10, T10, L10, X10, hQ10, st10⟩ := own_packS (Jvm.LawKit.callS X2 hx (y := (⟨"java/lang/Math", "max", "(II)I"⟩ : MethodName)) hown (mvT hZ (hw _ (List.mem_of_getElem? (i := 13) rfl))) (mvT hZ (hw _ (List.mem_of_getElem? (i := 14) rfl))) (mvT hZ (hw _ (List.mem_of_getElem? (i := 15) rfl))) (mvT hZ (hw _ (List.mem_of_getElem? (i := 16) rfl))) (by decide) (backOf (W := 4) (rm3 l Z a0 hw [] (0 : Int32) (0 : Int32) h2 n0 Zs2 ) hZ (hw _ (List.mem_of_getElem? (i := 16) rfl)) (hw _ (List.mem_of_getElem? (i := 15) rfl)) (by decide) (by decide)) (g := (mkF m 13 #[rv a1, iv (0 : Int32)] [(.int (0 : Int32)), (.int (0 : Int32)), (.int (61 : Int32)), (.ref b2), (.ref b2), (.ref a1)])) rfl (by rw [hml]; rfl) (argsL := [(.int (0 : Int32)), (.int (0 : Int32))]) (rest := [(.int (61 : Int32)), (.ref b2), (.ref b2), (.ref a1)]) (lenOf own_pd1_0 rfl) rfl (by show 2 * 0 + _ ≤ _; exact Nat.le_of_eq rfl) (hb hby d1_13) (fun _ _ => ⟨rfl, e2, (by decide : 1 + 0 ≤ _), (by decide : 2 + 0 ≤ _)⟩))
  obtain ⟨hv10, N10q, e10⟩ := hQ10
  rw [show own_f3_0 (0 : Int32) (0 : Int32) = (0 : Int32) from by decide] at hv10
  subst hv10
  obtain ⟨lc10, X10, N10⟩ := own_loc X10 (Fr.app N0 N10q)
  refine own_st (T' := T10) (g' := (mkF m 16 #[rv a1, iv (0 : Int32)] [(.int (0 : Int32)), (.int (61 : Int32)), (.ref b2), (.ref b2), (.ref a1)])) (fun _ k => (st10) _ k) ?_
  refine own_st (T' := T10) (g' := (mkF m 17 #[rv a1, iv (0 : Int32)] [(.int (61 : Int32)), (.ref b2), (.ref b2), (.ref a1)])) (fun _ k => XS.iadd X10.here hx rfl (hb hby d1_16) rfl k) ?_
  obtain ⟨v11, T11, L11, X11, hQ11, st11⟩ := own_packV (X10.specialBack hx (y := (⟨"com/example/millrace/millrace/wire/ProtocolWriter", "<init>", "(I)V"⟩ : MethodName)) rfl hown (mvT hZ (hw _ (List.mem_of_getElem? (i := 17) rfl))) (mvT hZ (hw _ (List.mem_of_getElem? (i := 18) rfl))) (mvT hZ (hw _ (List.mem_of_getElem? (i := 19) rfl))) (by decide) (backOf (W := 2) (rm4 l Z a0 hw [] b2 h2 n0 Zs2 A2 F2_bytes F2_position gn_b2) hZ (hw _ (List.mem_of_getElem? (i := 19) rfl)) (hw _ (List.mem_of_getElem? (i := 12) rfl)) (by decide) (by decide)) (g := (mkF m 17 #[rv a1, iv (0 : Int32)] [(.int (61 : Int32)), (.ref b2), (.ref b2), (.ref a1)])) rfl (by rw [hml]; rfl) (Steps.refl _) (a := b2) (argsL := [(.int (61 : Int32))]) (rest := [(.ref b2), (.ref a1)]) (lenOf own_pd1_1 rfl) rfl (by show 2 * 0 + _ ≤ _; exact Nat.le_of_eq rfl) (hb hby d1_17) (fun _ _ => ⟨rfl, e10, (by decide : 1 + 1 ≤ _), (by decide : 2 + 61 ≤ _)⟩))
  obtain ⟨rfl, N11q, Kq11, Eq11, t11, hsz11, Fb11, Fp11, Yq11⟩ := hQ11
  obtain ⟨lc11, X11, N11⟩ := own_loc X11 (Fr.app N10 N11q)
  have ne_a1_t11 : a1 ≠ t11 := Nat.ne_of_lt (Nat.lt_of_lt_of_le Fa3.lt hsz11)
  have ne_hd_t11 : hd ≠ t11 := Nat.ne_of_lt (Nat.lt_of_lt_of_le Fa8.lt hsz11)
  have ne_b2_t11 : b2 ≠ t11 := Nat.ne_of_lt (Nat.lt_of_lt_of_le A2.lt hsz11)
  have gn_t11 : n0 ≤ t11 := Nat.le_trans Zs2 hsz11
  have sz_t11 : h0.size ≤ t11 := Nat.le_trans Ke2.1 hsz11
  have Zs11 : n0 ≤ T11.heap.size := Nat.le_trans Zs2 Kq11.1
  have Fa12 : Exa Z T11.heap a1 "com/example/millrace/millrace/wire/RecordBatchBuilder" := Fa3.keep Kq11
  have Fa13 : Fld Z T11.heap a1 "com/example/millrace/millrace/wire/RecordBatchBuilder" "out" "Lcom/example/millrace/millrace/wire/ProtocolWriter;" .null := Fa4.keep Kq11 (ninS ne_a1_b2 nin0)
  have Fa14 : Fld Z T11.heap a1 "com/example/millrace/millrace/wire/RecordBatchBuilder" "baseTimestamp" "J" (.long (0 : Int64)) := Fa5.keep Kq11 (ninS ne_a1_b2 nin0)
  have Fa15 : Fld Z T11.heap a1 "com/example/millrace/millrace/wire/RecordBatchBuilder" "maxTimestamp" "J" (.long (0 : Int64)) := Fa6.keep Kq11 (ninS ne_a1_b2 nin0)
  have Fa16 : Fld Z T11.heap a1 "com/example/millrace/millrace/wire/RecordBatchBuilder" "count" "I" (.int (0 : Int32)) := Fa7.keep Kq11 (ninS ne_a1_b2 nin0)
  have Fa17 : own_Y Z T11.heap hd (61 : Int32) := Fa8.keep Kq11 (ninS ne_hd_b2 nin0)
  have Fa18 : Sta Z T11.heap "com/example/millrace/millrace/wire/RecordBatchBuilder" "HEADER" "[B" (.ref hd) := own_sta_keep Fa9 Kq11 (nsS A2.nostat ns0)
  have Ke11 : Keep h0 T11.heap [a1] := Ke2.trans Kq11 (allS (Or.inr sz_b2) all0)
  refine own_st (T' := T11) (g' := (mkF m 20 #[rv a1, iv (0 : Int32)] [(.ref b2), (.ref a1)])) (fun _ k => (st11) _ k) ?_
  obtain ⟨T19, h19, X19, e19, W19, st19⟩ := putF X11 hx hZ hown (host := "") (Or.inl (hw _ (List.mem_of_getElem? (i := 24) rfl))) Via.refl rfl Fa13 Fa12 (Or.inr ⟨(hw _ (List.mem_of_getElem? (i := 25) rfl)), rfl, hnm⟩) (hw _ (List.mem_of_getElem? (i := 2) rfl)) (ty := (.object "com/example/millrace/millrace/wire/ProtocolWriter")) (by decide) rfl rfl (g := (mkF m 20 #[rv a1, iv (0 : Int32)] [(.ref b2), (.ref a1)])) rfl rfl (hb hby d1_20)
  have Fw19 := Fa13.same W19
  have Zs19 : n0 ≤ h19.size := Nat.le_trans Zs11 (Keep.of_wr W19).1
  obtain ⟨lc19, X19, N19⟩ := own_loc X19 (Fr.snoc X19 N11 gn_a1)
  have Fa20 : Exa Z h19 a1 "com/example/millrace/millrace/wire/RecordBatchBuilder" := Fa12.wr W19
  have Fa21 : Fld Z h19 a1 "com/example/millrace/millrace/wire/RecordBatchBuilder" "baseTimestamp" "J" (.long (0 : Int64)) := Fa14.other W19 (Or.inr (slot_ne (Or.inl (hw _ (List.mem_of_getElem? (i := 66) rfl))) (Or.inr (hw _ (List.mem_of_getElem? (i := 25) rfl))) (by decide) (t := .long) (t' := (.object "com/example/millrace/millrace/wire/ProtocolWriter")) (by decide) (by decide)))
  have Fa22 : Fld Z h19 a1 "com/example/millrace/millrace/wire/RecordBatchBuilder" "maxTimestamp" "J" (.long (0 : Int64)) := Fa15.other W19 (Or.inr (slot_ne (Or.inl (hw _ (List.mem_of_getElem? (i := 68) rfl))) (Or.inr (hw _ (List.mem_of_getElem? (i := 25) rfl))) (by decide) (t := .long) (t' := (.object "com/example/millrace/millrace/wire/ProtocolWriter")) (by decide) (by decide)))
  have Fa23 : Fld Z h19 a1 "com/example/millrace/millrace/wire/RecordBatchBuilder" "count" "I" (.int (0 : Int32)) := Fa16.other W19 (Or.inr (slot_ne (Or.inl (hw _ (List.mem_of_getElem? (i := 64) rfl))) (Or.inr (hw _ (List.mem_of_getElem? (i := 25) rfl))) (by decide) (t := .int) (t' := (.object "com/example/millrace/millrace/wire/ProtocolWriter")) (by decide) (by decide)))
  have Fa24 : own_Y Z h19 hd (61 : Int32) := Fa17.other W19 (Ne.symm ne_a1_hd)
  have Fa25 : Sta Z h19 "com/example/millrace/millrace/wire/RecordBatchBuilder" "HEADER" "[B" (.ref hd) := Fa18.wr W19
  have Fa26 : Exa Z h19 b2 "com/example/millrace/millrace/wire/ProtocolWriter" := Eq11.wr W19
  have Fa27 : Fld Z h19 b2 "com/example/millrace/millrace/wire/ProtocolWriter" "bytes" "[B" (.ref t11) := Fb11.other W19 (Or.inl (Ne.symm ne_a1_b2))
  have Fa28 : Fld Z h19 b2 "com/example/millrace/millrace/wire/ProtocolWriter" "position" "I" (.int (0 : Int32)) := Fp11.other W19 (Or.inl (Ne.symm ne_a1_b2))
  have Fa29 : own_Y Z h19 t11 (61 : Int32) := Yq11.other W19 (Ne.symm ne_a1_t11)
  have Ke19 : Keep h0 h19 [a1] := Ke11.wr W19 (Or.inl (List.mem_of_getElem? (i := 0) rfl))
  refine own_st (T' := T19) (g' := (mkF m 23 #[rv a1, iv (0 : Int32)] [])) (fun _ k => (st19) _ k) ?_
  refine own_st (T' := T19) (g' := (mkF m 24 #[rv a1, iv (0 : Int32)] [(.ref a1)])) (fun _ k => XS.aloadN X19.here hx rfl (hb hby d1_23) rfl rfl k) ?_
  obtain ⟨T30, X30, e30, st30⟩ := getF X19 hx hZ hown (host := "") (Or.inl (hw _ (List.mem_of_getElem? (i := 24) rfl))) Via.refl e19 Fw19 (g := (mkF m 24 #[rv a1, iv (0 : Int32)] [(.ref a1)])) rfl rfl (hb hby d1_24)
  refine own_st (T' := T30) (g' := (mkF m 27 #[rv a1, iv (0 : Int32)] [(.ref b2)])) (fun _ k => (st30) _ k) ?_
  obtain ⟨T31, X31, e31, st31⟩ := getS2 X30 hx hZ hown (host := "") (Or.inl (hw _ (List.mem_of_getElem? (i := 26) rfl))) Via.refl e30 Fa25 (g := (mkF m 27 #[rv a1, iv (0 : Int32)] [(.ref b2)])) rfl (hb hby d1_27)
  refine own_st (T' := T31) (g' := (mkF m 30 #[rv a1, iv (0 : Int32)] [(.ref hd), (.ref b2)])) (fun _ k => (st31) _ k) ?_
  obtain ⟨cq32, kq32, q32a, q32b, q32c⟩ := isOf hZ e31 Fa26
  obtain ⟨v32, T32, L32, X32, hQ32, st32⟩ := own_packV (X31.virtualBack hx (y := (⟨"com/example/millrace/millrace/wire/ProtocolWriter", "writeBytes", "([B)Lcom/example/millrace/millrace/wire/ProtocolWriter;"⟩ : MethodName)) (z := (⟨"com/example/millrace/millrace/wire/ProtocolWriter", "writeBytes", "([B)Lcom/example/millrace/millrace/wire/ProtocolWriter;"⟩ : MethodName)) hown (mvT hZ (hw _ (List.mem_of_getElem? (i := 28) rfl))) (mvT hZ (hw _ (List.mem_of_getElem? (i := 29) rfl))) (notFace_of_selects (args := #[]) (mvT hZ (hw _ (List.mem_of_getElem? (i := 31) rfl)))) (mvT hZ (hw _ (List.mem_of_getElem? (i := 31) rfl))) (mvT hZ (hw _ (List.mem_of_getElem? (i := 30) rfl))) (by decide) (backOf (W := 0) (rm5 l Z a0 hw [] b2 hd t11 h19 n0 Zs19 Fa26 Fa27 Fa28 Fa29 Fa24 gn_b2 gn_t11 ne_b2_t11 (Ne.symm ne_hd_b2) (Ne.symm ne_hd_t11)) hZ (hw _ (List.mem_of_getElem? (i := 32) rfl)) (hw _ (List.mem_of_getElem? (i := 12) rfl)) (by decide) (by decide)) q32a q32c (g := (mkF m 30 #[rv a1, iv (0 : Int32)] [(.ref hd), (.ref b2)])) rfl (by rw [hml]; rfl) (Steps.refl _) (argsL := [(.ref hd)]) (rest := []) (lenOf own_pd1_2 rfl) rfl (by show 2 * 0 + _ ≤ _; exact Nat.le_of_eq rfl) (hb hby d1_30) (fun _ _ => ⟨rfl, e31, (by decide : 2 + 1 ≤ _), (by decide : 63 + 2190 ≤ _)⟩))
  obtain ⟨rfl, N32q, Kq32, Eq32, t32, nn32, ht32, gn_t32, Fb32, Fp32, Yq32, hA32, hB32⟩ := hQ32
  obtain ⟨lc32, X32, N32⟩ := own_loc X32 (Fr.app N19 N32q)
  have ne_a1_t32 : a1 ≠ t32 := own_sep ht32 ne_a1_t11 Fa20.lt
  have ne_hd_t32 : hd ≠ t32 := own_sep ht32 ne_hd_t11 Fa24.lt
  have ne_b2_t32 : b2 ≠ t32 := own_sep ht32 ne_b2_t11 Fa26.lt
  have Zs32 : n0 ≤ T32.heap.size := Nat.le_trans Zs19 Kq32.1
  have ws_t32 : t32 ∈ [a1] ∨ h0.size ≤ t32 := ht32.elim (fun q => by rw [q]; exact (Or.inr sz_t11)) (fun q => Or.inr (Nat.le_trans Ke19.1 q))
  have Fa33 : Exa Z T32.heap a1 "com/example/millrace/millrace/wire/RecordBatchBuilder" := Fa20.keep Kq32
  have Fa34 : Fld Z T32.heap a1 "com/example/millrace/millrace/wire/RecordBatchBuilder" "baseTimestamp" "J" (.long (0 : Int64)) := Fa21.keep Kq32 (ninS ne_a1_b2 (ninS ne_a1_t11 nin0))
  have Fa35 : Fld Z T32.heap a1 "com/example/millrace/millrace/wire/RecordBatchBuilder" "maxTimestamp" "J" (.long (0 : Int64)) := Fa22.keep Kq32 (ninS ne_a1_b2 (ninS ne_a1_t11 nin0))
  have Fa36 : Fld Z T32.heap a1 "com/example/millrace/millrace/wire/RecordBatchBuilder" "count" "I" (.int (0 : Int32)) := Fa23.keep Kq32 (ninS ne_a1_b2 (ninS ne_a1_t11 nin0))
  have Fa37 : own_Y Z T32.heap hd (61 : Int32) := Fa24.keep Kq32 (ninS ne_hd_b2 (ninS ne_hd_t11 nin0))
  have Fa38 : Fld Z T32.heap a1 "com/example/millrace/millrace/wire/RecordBatchBuilder" "out" "Lcom/example/millrace/millrace/wire/ProtocolWriter;" (.ref b2) := Fw19.keep Kq32 (ninS ne_a1_b2 (ninS ne_a1_t11 nin0))
  have Ke32 : Keep h0 T32.heap [a1] := Ke19.trans Kq32 (allS (Or.inr sz_b2) (allS (Or.inr sz_t11) all0))
  refine own_st (T' := T32) (g' := (mkF m 33 #[rv a1, iv (0 : Int32)] [(.ref b2)])) (fun _ k => (st32) _ k) ?_
  refine own_st (T' := T32) (g' := (mkF m 34 #[rv a1, iv (0 : Int32)] [])) (fun _ k => XS.pop X32.here hx rfl (hb hby d1_33) rfl rfl k) ?_
  exact own_end (Q := Q1 Z a1 hd h0 n0) (v := none) X32 (fun _ => rfl) (fun fs hr => X32.returnOut hx Bd.returns (hb hby d1_34) hr) (⟨rfl, N32, Ke32, ⟨b2, t32, nn32, sz_b2, (ws_t32.elim (fun q => absurd (List.mem_singleton.mp q) (Ne.symm ne_a1_t32)) id), gn_b2, gn_t32, ne_b2_t32, hA32, hB32, ⟨Fa33, Fa38, Fa34, Fa35, Fa36, Eq32, Fb32, Fp32, Yq32⟩⟩⟩) (by decide) (by decide)
theorem own_sv (x : Int32) (h1 : -1 ≤ x.toInt) (h2 : x.toInt ≤ 8191) : 1 ≤ (own_f12_0 x).toInt ∧ (own_f12_0 x).toInt ≤ 2 := by
  have z := own_zi x h1 h2
  have s := own_su _ z.1 z.2
  have e : own_f12_0 x = own_f13_0 ((((x <<< ((1 : Int32) &&& 31))) ^^^ ((x >>> ((31 : Int32) &&& 31)))) : Int32) := rfl
  rw [e, s]
  split <;> omega
theorem own_maxI (a : Int32) (h : 0 ≤ a.toInt) : own_f3_0 a (0 : Int32) = a := (if_neg (own_pos h)).trans rfl
theorem own_body (a b c k d v e : Int32) (ha : 0 ≤ a.toInt ∧ a.toInt ≤ 5000) (hb : 0 ≤ b.toInt ∧ b.toInt ≤ 5000) (hc : 0 ≤ c.toInt ∧ c.toInt ≤ 5000) (hk : 0 ≤ k.toInt ∧ k.toInt ≤ 5000) (hd : 0 ≤ d.toInt ∧ d.toInt ≤ 5000) (hv : 0 ≤ v.toInt ∧ v.toInt ≤ 5000) (he : 0 ≤ e.toInt ∧ e.toInt ≤ 5000) :
    (((((((((1 : Int32) + a) + b) + c) + k) + d) + v) + e)).toInt = 1 + a.toInt + b.toInt + c.toInt + k.toInt + d.toInt + v.toInt + e.toInt := by
  have i1 := own_i1
  have s1 := own_add 1 a (by omega) (by omega)
  have s2 := own_add (1 + a) b (by omega) (by omega)
  have s3 := own_add (1 + a + b) c (by omega) (by omega)
  have s4 := own_add (1 + a + b + c) k (by omega) (by omega)
  have s5 := own_add (1 + a + b + c + k) d (by omega) (by omega)
  have s6 := own_add (1 + a + b + c + k + d) v (by omega) (by omega)
  have s7 := own_add (1 + a + b + c + k + d + v) e (by omega) (by omega)
  omega
theorem d10_0 : decode prog_130_method_6_code 0 = .ok (.aload_n 0, 1) := by decide +kernel
theorem d10_1 : decode prog_130_method_6_code 1 = .ok (.getfield 62, 3) := by decide +kernel
theorem d10_4 : decode prog_130_method_6_code 4 = .ok (.ifCond .ne 13, 3) := by decide +kernel
theorem d10_7 : decode prog_130_method_6_code 7 = .ok (.aload_n 0, 1) := by decide +kernel
theorem d10_8 : decode prog_130_method_6_code 8 = .ok (.lload_n 1, 1) := by decide +kernel
theorem d10_9 : decode prog_130_method_6_code 9 = .ok (.putfield 66, 3) := by decide +kernel
theorem d10_12 : decode prog_130_method_6_code 12 = .ok (.aload_n 0, 1) := by decide +kernel
theorem d10_13 : decode prog_130_method_6_code 13 = .ok (.lload_n 1, 1) := by decide +kernel
theorem d10_14 : decode prog_130_method_6_code 14 = .ok (.putfield 70, 3) := by decide +kernel
theorem d10_17 : decode prog_130_method_6_code 17 = .ok (.lload_n 1, 1) := by decide +kernel
theorem d10_18 : decode prog_130_method_6_code 18 = .ok (.aload_n 0, 1) := by decide +kernel
theorem d10_19 : decode prog_130_method_6_code 19 = .ok (.getfield 66, 3) := by decide +kernel
theorem d10_22 : decode prog_130_method_6_code 22 = .ok (.lsub, 1) := by decide +kernel
theorem d10_23 : decode prog_130_method_6_code 23 = .ok (.lstore 5, 2) := by decide +kernel
theorem d10_25 : decode prog_130_method_6_code 25 = .ok (.aload_n 0, 1) := by decide +kernel
theorem d10_26 : decode prog_130_method_6_code 26 = .ok (.getfield 62, 3) := by decide +kernel
theorem d10_29 : decode prog_130_method_6_code 29 = .ok (.istore 7, 2) := by decide +kernel
theorem d10_31 : decode prog_130_method_6_code 31 = .ok (.aload_n 3, 1) := by decide +kernel
theorem d10_32 : decode prog_130_method_6_code 32 = .ok (.ifnonnull 7, 3) := by decide +kernel
theorem d10_35 : decode prog_130_method_6_code 35 = .ok (.iconst (-1), 1) := by decide +kernel
theorem d10_36 : decode prog_130_method_6_code 36 = .ok (.goto 5, 3) := by decide +kernel
theorem d10_39 : decode prog_130_method_6_code 39 = .ok (.aload_n 3, 1) := by decide +kernel
theorem d10_40 : decode prog_130_method_6_code 40 = .ok (.arraylength, 1) := by decide +kernel
theorem d10_41 : decode prog_130_method_6_code 41 = .ok (.istore 8, 2) := by decide +kernel
theorem d10_43 : decode prog_130_method_6_code 43 = .ok (.aload 4, 2) := by decide +kernel
theorem d10_45 : decode prog_130_method_6_code 45 = .ok (.ifnonnull 7, 3) := by decide +kernel
theorem d10_48 : decode prog_130_method_6_code 48 = .ok (.iconst (-1), 1) := by decide +kernel
theorem d10_49 : decode prog_130_method_6_code 49 = .ok (.goto 6, 3) := by decide +kernel
theorem d10_52 : decode prog_130_method_6_code 52 = .ok (.aload 4, 2) := by decide +kernel
theorem d10_54 : decode prog_130_method_6_code 54 = .ok (.arraylength, 1) := by decide +kernel
theorem d10_55 : decode prog_130_method_6_code 55 = .ok (.istore 9, 2) := by decide +kernel
theorem d10_57 : decode prog_130_method_6_code 57 = .ok (.iconst 1, 1) := by decide +kernel
theorem d10_58 : decode prog_130_method_6_code 58 = .ok (.lload 5, 2) := by decide +kernel
theorem d10_60 : decode prog_130_method_6_code 60 = .ok (.invokestatic 73, 3) := by decide +kernel
theorem d10_63 : decode prog_130_method_6_code 63 = .ok (.iadd, 1) := by decide +kernel
theorem d10_64 : decode prog_130_method_6_code 64 = .ok (.iload 7, 2) := by decide +kernel
theorem d10_66 : decode prog_130_method_6_code 66 = .ok (.invokestatic 77, 3) := by decide +kernel
theorem d10_69 : decode prog_130_method_6_code 69 = .ok (.iadd, 1) := by decide +kernel
theorem d10_70 : decode prog_130_method_6_code 70 = .ok (.iload 8, 2) := by decide +kernel
theorem d10_72 : decode prog_130_method_6_code 72 = .ok (.invokestatic 77, 3) := by decide +kernel
theorem d10_75 : decode prog_130_method_6_code 75 = .ok (.iadd, 1) := by decide +kernel
theorem d10_76 : decode prog_130_method_6_code 76 = .ok (.iload 8, 2) := by decide +kernel
theorem d10_78 : decode prog_130_method_6_code 78 = .ok (.iconst 0, 1) := by decide +kernel
theorem d10_79 : decode prog_130_method_6_code 79 = .ok (.invokestatic 11, 3) := by decide +kernel
theorem d10_82 : decode prog_130_method_6_code 82 = .ok (.iadd, 1) := by decide +kernel
theorem d10_83 : decode prog_130_method_6_code 83 = .ok (.iload 9, 2) := by decide +kernel
theorem d10_85 : decode prog_130_method_6_code 85 = .ok (.invokestatic 77, 3) := by decide +kernel
theorem d10_88 : decode prog_130_method_6_code 88 = .ok (.iadd, 1) := by decide +kernel
theorem d10_89 : decode prog_130_method_6_code 89 = .ok (.iload 9, 2) := by decide +kernel
theorem d10_91 : decode prog_130_method_6_code 91 = .ok (.iconst 0, 1) := by decide +kernel
theorem d10_92 : decode prog_130_method_6_code 92 = .ok (.invokestatic 11, 3) := by decide +kernel
theorem d10_95 : decode prog_130_method_6_code 95 = .ok (.iadd, 1) := by decide +kernel
theorem d10_96 : decode prog_130_method_6_code 96 = .ok (.iconst 0, 1) := by decide +kernel
theorem d10_97 : decode prog_130_method_6_code 97 = .ok (.invokestatic 77, 3) := by decide +kernel
theorem d10_100 : decode prog_130_method_6_code 100 = .ok (.iadd, 1) := by decide +kernel
theorem d10_101 : decode prog_130_method_6_code 101 = .ok (.istore 10, 2) := by decide +kernel
theorem d10_103 : decode prog_130_method_6_code 103 = .ok (.aload_n 0, 1) := by decide +kernel
theorem d10_104 : decode prog_130_method_6_code 104 = .ok (.getfield 20, 3) := by decide +kernel
theorem d10_107 : decode prog_130_method_6_code 107 = .ok (.iload 10, 2) := by decide +kernel
theorem d10_109 : decode prog_130_method_6_code 109 = .ok (.invokestatic 77, 3) := by decide +kernel
theorem d10_112 : decode prog_130_method_6_code 112 = .ok (.iload 10, 2) := by decide +kernel
theorem d10_114 : decode prog_130_method_6_code 114 = .ok (.iadd, 1) := by decide +kernel
theorem d10_115 : decode prog_130_method_6_code 115 = .ok (.invokevirtual 81, 3) := by decide +kernel
theorem d10_118 : decode prog_130_method_6_code 118 = .ok (.astore 11, 2) := by decide +kernel
theorem d10_120 : decode prog_130_method_6_code 120 = .ok (.aload 11, 2) := by decide +kernel
theorem d10_122 : decode prog_130_method_6_code 122 = .ok (.aload_n 0, 1) := by decide +kernel
theorem d10_123 : decode prog_130_method_6_code 123 = .ok (.getfield 20, 3) := by decide +kernel
theorem d10_126 : decode prog_130_method_6_code 126 = .ok (.invokevirtual 58, 3) := by decide +kernel
theorem d10_129 : decode prog_130_method_6_code 129 = .ok (.iload 10, 2) := by decide +kernel
theorem d10_131 : decode prog_130_method_6_code 131 = .ok (.invokestatic 85, 3) := by decide +kernel
theorem d10_134 : decode prog_130_method_6_code 134 = .ok (.istore 12, 2) := by decide +kernel
theorem d10_136 : decode prog_130_method_6_code 136 = .ok (.aload 11, 2) := by decide +kernel
theorem d10_138 : decode prog_130_method_6_code 138 = .ok (.iload 12, 2) := by decide +kernel
theorem d10_140 : decode prog_130_method_6_code 140 = .ok (.iinc 12 1, 3) := by decide +kernel
theorem d10_143 : decode prog_130_method_6_code 143 = .ok (.iconst 0, 1) := by decide +kernel
theorem d10_144 : decode prog_130_method_6_code 144 = .ok (.bastore, 1) := by decide +kernel
theorem d10_145 : decode prog_130_method_6_code 145 = .ok (.aload 11, 2) := by decide +kernel
theorem d10_147 : decode prog_130_method_6_code 147 = .ok (.iload 12, 2) := by decide +kernel
theorem d10_149 : decode prog_130_method_6_code 149 = .ok (.lload 5, 2) := by decide +kernel
theorem d10_151 : decode prog_130_method_6_code 151 = .ok (.invokestatic 89, 3) := by decide +kernel
theorem d10_154 : decode prog_130_method_6_code 154 = .ok (.istore 12, 2) := by decide +kernel
theorem d10_156 : decode prog_130_method_6_code 156 = .ok (.aload 11, 2) := by decide +kernel
theorem d10_158 : decode prog_130_method_6_code 158 = .ok (.iload 12, 2) := by decide +kernel
theorem d10_160 : decode prog_130_method_6_code 160 = .ok (.iload 7, 2) := by decide +kernel
theorem d10_162 : decode prog_130_method_6_code 162 = .ok (.invokestatic 85, 3) := by decide +kernel
theorem d10_165 : decode prog_130_method_6_code 165 = .ok (.istore 12, 2) := by decide +kernel
theorem d10_167 : decode prog_130_method_6_code 167 = .ok (.aload 11, 2) := by decide +kernel
theorem d10_169 : decode prog_130_method_6_code 169 = .ok (.iload 12, 2) := by decide +kernel
theorem d10_171 : decode prog_130_method_6_code 171 = .ok (.iload 8, 2) := by decide +kernel
theorem d10_173 : decode prog_130_method_6_code 173 = .ok (.invokestatic 85, 3) := by decide +kernel
theorem d10_176 : decode prog_130_method_6_code 176 = .ok (.istore 12, 2) := by decide +kernel
theorem d10_178 : decode prog_130_method_6_code 178 = .ok (.aload_n 3, 1) := by decide +kernel
theorem d10_179 : decode prog_130_method_6_code 179 = .ok (.ifnull 21, 3) := by decide +kernel
theorem d10_182 : decode prog_130_method_6_code 182 = .ok (.aload_n 3, 1) := by decide +kernel
theorem d10_183 : decode prog_130_method_6_code 183 = .ok (.iconst 0, 1) := by decide +kernel
theorem d10_184 : decode prog_130_method_6_code 184 = .ok (.aload 11, 2) := by decide +kernel
theorem d10_186 : decode prog_130_method_6_code 186 = .ok (.iload 12, 2) := by decide +kernel
theorem d10_188 : decode prog_130_method_6_code 188 = .ok (.aload_n 3, 1) := by decide +kernel
theorem d10_189 : decode prog_130_method_6_code 189 = .ok (.arraylength, 1) := by decide +kernel
theorem d10_190 : decode prog_130_method_6_code 190 = .ok (.invokestatic 93, 3) := by decide +kernel
theorem d10_193 : decode prog_130_method_6_code 193 = .ok (.iload 12, 2) := by decide +kernel
theorem d10_195 : decode prog_130_method_6_code 195 = .ok (.aload_n 3, 1) := by decide +kernel
theorem d10_196 : decode prog_130_method_6_code 196 = .ok (.arraylength, 1) := by decide +kernel
theorem d10_197 : decode prog_130_method_6_code 197 = .ok (.iadd, 1) := by decide +kernel
theorem d10_198 : decode prog_130_method_6_code 198 = .ok (.istore 12, 2) := by decide +kernel
theorem d10_200 : decode prog_130_method_6_code 200 = .ok (.aload 11, 2) := by decide +kernel
theorem d10_202 : decode prog_130_method_6_code 202 = .ok (.iload 12, 2) := by decide +kernel
theorem d10_204 : decode prog_130_method_6_code 204 = .ok (.iload 9, 2) := by decide +kernel
theorem d10_206 : decode prog_130_method_6_code 206 = .ok (.invokestatic 85, 3) := by decide +kernel
theorem d10_209 : decode prog_130_method_6_code 209 = .ok (.istore 12, 2) := by decide +kernel
theorem d10_211 : decode prog_130_method_6_code 211 = .ok (.aload 4, 2) := by decide +kernel
theorem d10_213 : decode prog_130_method_6_code 213 = .ok (.ifnull 24, 3) := by decide +kernel
theorem d10_216 : decode prog_130_method_6_code 216 = .ok (.aload 4, 2) := by decide +kernel
theorem d10_218 : decode prog_130_method_6_code 218 = .ok (.iconst 0, 1) := by decide +kernel
theorem d10_219 : decode prog_130_method_6_code 219 = .ok (.aload 11, 2) := by decide +kernel
theorem d10_221 : decode prog_130_method_6_code 221 = .ok (.iload 12, 2) := by decide +kernel
theorem d10_223 : decode prog_130_method_6_code 223 = .ok (.aload 4, 2) := by decide +kernel
theorem d10_225 : decode prog_130_method_6_code 225 = .ok (.arraylength, 1) := by decide +kernel
theorem d10_226 : decode prog_130_method_6_code 226 = .ok (.invokestatic 93, 3) := by decide +kernel
theorem d10_229 : decode prog_130_method_6_code 229 = .ok (.iload 12, 2) := by decide +kernel
theorem d10_231 : decode prog_130_method_6_code 231 = .ok (.aload 4, 2) := by decide +kernel
theorem d10_233 : decode prog_130_method_6_code 233 = .ok (.arraylength, 1) := by decide +kernel
theorem d10_234 : decode prog_130_method_6_code 234 = .ok (.iadd, 1) := by decide +kernel
theorem d10_235 : decode prog_130_method_6_code 235 = .ok (.istore 12, 2) := by decide +kernel
theorem d10_237 : decode prog_130_method_6_code 237 = .ok (.aload 11, 2) := by decide +kernel
theorem d10_239 : decode prog_130_method_6_code 239 = .ok (.iload 12, 2) := by decide +kernel
theorem d10_241 : decode prog_130_method_6_code 241 = .ok (.iconst 0, 1) := by decide +kernel
theorem d10_242 : decode prog_130_method_6_code 242 = .ok (.invokestatic 85, 3) := by decide +kernel
theorem d10_245 : decode prog_130_method_6_code 245 = .ok (.istore 12, 2) := by decide +kernel
theorem d10_247 : decode prog_130_method_6_code 247 = .ok (.aload_n 0, 1) := by decide +kernel
theorem d10_248 : decode prog_130_method_6_code 248 = .ok (.getfield 20, 3) := by decide +kernel
theorem d10_251 : decode prog_130_method_6_code 251 = .ok (.iload 12, 2) := by decide +kernel
theorem d10_253 : decode prog_130_method_6_code 253 = .ok (.invokevirtual 99, 3) := by decide +kernel
theorem d10_256 : decode prog_130_method_6_code 256 = .ok (.aload_n 0, 1) := by decide +kernel
theorem d10_257 : decode prog_130_method_6_code 257 = .ok (.aload_n 0, 1) := by decide +kernel
theorem d10_258 : decode prog_130_method_6_code 258 = .ok (.getfield 70, 3) := by decide +kernel
theorem d10_261 : decode prog_130_method_6_code 261 = .ok (.lload_n 1, 1) := by decide +kernel
theorem d10_262 : decode prog_130_method_6_code 262 = .ok (.invokestatic 102, 3) := by decide +kernel
theorem d10_265 : decode prog_130_method_6_code 265 = .ok (.putfield 70, 3) := by decide +kernel
theorem d10_268 : decode prog_130_method_6_code 268 = .ok (.aload_n 0, 1) := by decide +kernel
theorem d10_269 : decode prog_130_method_6_code 269 = .ok (.dup, 1) := by decide +kernel
theorem d10_270 : decode prog_130_method_6_code 270 = .ok (.getfield 62, 3) := by decide +kernel
theorem d10_273 : decode prog_130_method_6_code 273 = .ok (.iconst 1, 1) := by decide +kernel
theorem d10_274 : decode prog_130_method_6_code 274 = .ok (.iadd, 1) := by decide +kernel
theorem d10_275 : decode prog_130_method_6_code 275 = .ok (.putfield 62, 3) := by decide +kernel
theorem d10_278 : decode prog_130_method_6_code 278 = .ok (.return_, 1) := by decide +kernel
theorem own_pn10 : plainName "com/example/millrace/millrace/wire/RecordBatchBuilder" = true := by first | (simp [plainName, overriddenIn]; done) | decide +kernel
theorem own_pd10_0 : parseMethodDescriptor "(J)I" = some ⟨[.long], some .int⟩ := by decide +kernel
theorem own_pd10_1 : parseMethodDescriptor "(I)I" = some ⟨[.int], some .int⟩ := by decide +kernel
theorem own_pd10_2 : parseMethodDescriptor "(II)I" = some ⟨[.int, .int], some .int⟩ := by decide +kernel
theorem own_pd10_3 : parseMethodDescriptor "(I)[B" = some ⟨[.int], some (.array .byte)⟩ := by decide +kernel
theorem own_pd10_4 : parseMethodDescriptor "()I" = some ⟨[], some .int⟩ := by decide +kernel
theorem own_pd10_5 : parseMethodDescriptor "([BII)I" = some ⟨[(.array .byte), .int, .int], some .int⟩ := by decide +kernel
theorem own_pd10_6 : parseMethodDescriptor "([BIJ)I" = some ⟨[(.array .byte), .int, .long], some .int⟩ := by decide +kernel
theorem own_pd10_7 : parseMethodDescriptor "(I)V" = some ⟨[.int], none⟩ := by decide +kernel
theorem own_pd10_8 : parseMethodDescriptor "(JJ)J" = some ⟨[.long, .long], some .long⟩ := by decide +kernel
theorem own_ef10_11 (m : MethodId) (x0 : Addr) (x1 : Int64) : entryFrame m #[(.ref x0), (.long x1), .null, .null] 13 = mkF m 0 #[rv x0, own_jv x1, .second, .val .null, .val .null, .unset, .unset, .unset, .unset, .unset, .unset, .unset, .unset] [] := by first | (simp [entryFrame, mkF, argsToLocals, Value.category]; done) | rfl
def Q10_11 (Z : State) (a1 : Addr) (p2 : Int64) (wo t : Addr) (bt mt : Int64) (cn P n : Int32) (h0 : Heap) (n0 : Nat) (v : Option Value) (h : Heap) (L : List Loc) : Prop := v = none ∧ Fr n0 L ∧ Keep h0 h [a1, wo, t] ∧ ∃ (t' : Addr) (n' P' : Int32) (bt' mt' : Int64), (t' = t ∨ h0.size ≤ t') ∧ n0 ≤ t' ∧ P.toInt ≤ P'.toInt ∧ P'.toInt ≤ P.toInt + 21 ∧ (n'.toInt ≤ P.toInt + 21 ∨ n'.toInt ≤ 2 * n.toInt) ∧ 0 < n'.toInt ∧ own_S Z h a1 wo t' bt' mt' (cn + (1 : Int32)) P' n'
set_option maxRecDepth 65536 in
set_option maxHeartbeats 40000000 in
theorem rm10_11 (l : Launch) (Z : State) (a0 : Array Value) (hw : ∀ d ∈ tables_1, d.before a0 Z = true) (ws : List Jvm.Cond) (a1 : Addr) (p2 : Int64) (wo t : Addr) (bt mt : Int64) (cn P n : Int32) (h0 : Heap) (n0 : Nat) (Z0 : n0 ≤ h0.size) (E_a1 : Exa Z h0 a1 "com/example/millrace/millrace/wire/RecordBatchBuilder") (F_o : Fld Z h0 a1 "com/example/millrace/millrace/wire/RecordBatchBuilder" "out" "Lcom/example/millrace/millrace/wire/ProtocolWriter;" (.ref wo)) (F_bt : Fld Z h0 a1 "com/example/millrace/millrace/wire/RecordBatchBuilder" "baseTimestamp" "J" (.long bt)) (F_mt : Fld Z h0 a1 "com/example/millrace/millrace/wire/RecordBatchBuilder" "maxTimestamp" "J" (.long mt)) (F_c : Fld Z h0 a1 "com/example/millrace/millrace/wire/RecordBatchBuilder" "count" "I" (.int cn)) (E_wo : Exa Z h0 wo "com/example/millrace/millrace/wire/ProtocolWriter") (F_b : Fld Z h0 wo "com/example/millrace/millrace/wire/ProtocolWriter" "bytes" "[B" (.ref t)) (F_p : Fld Z h0 wo "com/example/millrace/millrace/wire/ProtocolWriter" "position" "I" (.int P)) (Y_t : own_Y Z h0 t n) (gn_a1 : n0 ≤ a1) (gn_wo : n0 ≤ wo) (gn_t : n0 ≤ t) (ne_a1_wo : a1 ≠ wo) (ne_a1_t : a1 ≠ t) (ne_wo_t : wo ≠ t) (hc0 : 0 ≤ cn.toInt) (hc1 : cn.toInt ≤ 100) (hP0 : 0 ≤ P.toInt) (hP : P.toInt ≤ 90) (hn0 : 0 < n.toInt) (hn : n.toInt ≤ 300) :
    MetFree l (⟨"com/example/millrace/millrace/wire/RecordBatchBuilder", "append", "(J[B[B)V"⟩ : MethodName) (head1 (Jvm.Cond.code (⟨"com/example/millrace/millrace/wire/RecordBatchBuilder", "append", "(J[B[B)V"⟩ : MethodName) prog_130_method_6_code 13 none :: ws) ({ frames := 5, cells := 1, slots := 2190, locals := 110 } : Room)) (fun a U => a = #[(.ref a1), (.long p2), .null, .null] ∧ Z.Warmed39 U.vm ∧ U.heap = h0) (fun _ _ _ _ _ => True) (fun _ U o U' => ∃ v L, o = .returned v ∧ Q10_11 Z a1 p2 wo t bt mt cn P n h0 n0 v U'.heap L ∧ FrameEnd U o U' L ({ frames := 5, cells := 1, slots := 2190, locals := 110 } : Room).cells ({ frames := 5, cells := 1, slots := 2190, locals := 110 } : Room).slots) := by
  refine MetFree.of_bodySF (plainFor_of_name own_pn10) hisR ?_
  intro p e s m args below meth c s₁ Bd hml0 hP hK
  obtain ⟨rfl, hZ, hh⟩ := hP
  have hx := Bd.exec
  have hby := Bd.bytes
  have hml : c.maxLocals = 13 := hml0
  have hown : s.vm.findClass "com/example/millrace/millrace/wire/RecordBatchBuilder" = some m.cls := findClass_of_methodNamed Bd.named
  have hnm := (name_of_methodNamed Bd.named Bd.method).1
  have hlk := Bd.notSynchronized
  have X0 : Stand p l e ({ frames := 5, cells := 1, slots := 2190, locals := 110 } : Room) s m #[(.ref a1), (.long p2), .null, .null] below meth c s₁ [] 0 0 := Stand.of_body Bd
  have e0 : s₁.heap = h0 := by rw [← hh, Bd.state]; rfl
  have N0 := Fr.nil n0
  show own_Goes p e below (fun o U' => ∃ v L, o = .returned v ∧ Q10_11 Z a1 p2 wo t bt mt cn P n h0 n0 v U'.heap L ∧ FrameEnd s o U' L ({ frames := 5, cells := 1, slots := 2190, locals := 110 } : Room).cells ({ frames := 5, cells := 1, slots := 2190, locals := 110 } : Room).slots) s₁ (entryFrame m #[(.ref a1), (.long p2), .null, .null] 13)
  refine own_st (T' := s₁) (g' := mkF m 0 #[rv a1, own_jv p2, .second, .val .null, .val .null, .unset, .unset, .unset, .unset, .unset, .unset, .unset, .unset] []) (fun _ k => castTop (own_ef10_11 m a1 p2) k) ?_
  suffices J17 : ∀ (T' : State) (h' : Heap) (lc' : List Loc) (bt1 mt1 : Int64) (X' : Stand p l e ({ frames := 5, cells := 1, slots := 2190, locals := 110 } : Room) s m #[(.ref a1), (.long p2), .null, .null] below meth c T' lc' 0 0) (e' : T'.heap = h') (N' : Fr n0 lc') (Zh' : n0 ≤ h'.size) (Kp' : Keep h0 h' [a1, wo, t]) (Fj0 : Exa Z h' a1 "com/example/millrace/millrace/wire/RecordBatchBuilder") (Fj1 : Fld Z h' a1 "com/example/millrace/millrace/wire/RecordBatchBuilder" "out" "Lcom/example/millrace/millrace/wire/ProtocolWriter;" (.ref wo)) (Fj2 : Fld Z h' a1 "com/example/millrace/millrace/wire/RecordBatchBuilder" "baseTimestamp" "J" (.long bt1)) (Fj3 : Fld Z h' a1 "com/example/millrace/millrace/wire/RecordBatchBuilder" "maxTimestamp" "J" (.long mt1)) (Fj4 : Fld Z h' a1 "com/example/millrace/millrace/wire/RecordBatchBuilder" "count" "I" (.int cn)) (Fj5 : Exa Z h' wo "com/example/millrace/millrace/wire/ProtocolWriter") (Fj6 : Fld Z h' wo "com/example/millrace/millrace/wire/ProtocolWriter" "bytes" "[B" (.ref t)) (Fj7 : Fld Z h' wo "com/example/millrace/millrace/wire/ProtocolWriter" "position" "I" (.int P)) (Fj8 : own_Y Z h' t n), own_Goes p e below (fun o U' => ∃ v L, o = .returned v ∧ Q10_11 Z a1 p2 wo t bt mt cn P n h0 n0 v U'.heap L ∧ FrameEnd s o U' L ({ frames := 5, cells := 1, slots := 2190, locals := 110 } : Room).cells ({ frames := 5, cells := 1, slots := 2190, locals := 110 } : Room).slots) T' (mkF m 17 #[rv a1, own_jv p2, .second, .val .null, .val .null, .unset, .unset, .unset, .unset, .unset, .unset, .unset, .unset] []) by
    refine own_st (T' := s₁) (g' := (mkF m 1 #[rv a1, own_jv p2, .second, .val .null, .val .null, .unset, .unset, .unset, .unset, .unset, .unset, .unset, .unset] [(.ref a1)])) (fun _ k => XS.aloadN X0.here hx rfl (hb hby d10_0) rfl rfl k) ?_
    obtain ⟨T1, X1, e1, st1⟩ := getF X0 hx hZ hown (host := "") (Or.inl (hw _ (List.mem_of_getElem? (i := 63) rfl))) Via.refl e0 F_c (g := (mkF m 1 #[rv a1, own_jv p2, .second, .val .null, .val .null, .unset, .unset, .unset, .unset, .unset, .unset, .unset, .unset] [(.ref a1)])) rfl rfl (hb hby d10_1)
    refine own_st (T' := T1) (g' := (mkF m 4 #[rv a1, own_jv p2, .second, .val .null, .val .null, .unset, .unset, .unset, .unset, .unset, .unset, .unset, .unset] [(.int cn)])) (fun _ k => (st1) _ k) ?_
    by_cases hc4 : cn = (0 : Int32)
    · refine own_st (T' := T1) (g' := (mkF m 7 #[rv a1, own_jv p2, .second, .val .null, .val .null, .unset, .unset, .unset, .unset, .unset, .unset, .unset, .unset] [])) (fun _ k => XS.ifNo X1.here hx rfl (hb hby d10_4) rfl ((if0 _ _).trans (teq hc4).2) k) ?_
      refine own_st (T' := T1) (g' := (mkF m 8 #[rv a1, own_jv p2, .second, .val .null, .val .null, .unset, .unset, .unset, .unset, .unset, .unset, .unset, .unset] [(.ref a1)])) (fun _ k => XS.aloadN X1.here hx rfl (hb hby d10_7) rfl rfl k) ?_
      refine own_st (T' := T1) (g' := (mkF m 9 #[rv a1, own_jv p2, .second, .val .null, .val .null, .unset, .unset, .unset, .unset, .unset, .unset, .unset, .unset] [(.long p2), (.ref a1)])) (fun _ k => XS.lloadN X1.here hx rfl (hb hby d10_8) rfl k) ?_
      obtain ⟨T2, h2, X2, e2, W2, st2⟩ := putF X1 hx hZ hown (host := "") (Or.inl (hw _ (List.mem_of_getElem? (i := 65) rfl))) Via.refl e1 F_bt E_a1 (Or.inl (hw _ (List.mem_of_getElem? (i := 66) rfl))) (hw _ (List.mem_of_getElem? (i := 2) rfl)) (ty := .long) (by decide) rfl rfl (g := (mkF m 9 #[rv a1, own_jv p2, .second, .val .null, .val .null, .unset, .unset, .unset, .unset, .unset, .unset, .unset, .unset] [(.long p2), (.ref a1)])) rfl rfl (hb hby d10_9)
      have Fw2 := F_bt.same W2
      have Zs2 : n0 ≤ h2.size := Nat.le_trans Z0 (Keep.of_wr W2).1
      obtain ⟨lc2, X2, N2⟩ := own_loc X2 (Fr.snoc X2 N0 gn_a1)
      have Fa3 : Exa Z h2 a1 "com/example/millrace/millrace/wire/RecordBatchBuilder" := E_a1.wr W2
      have Fa4 : Fld Z h2 a1 "com/example/millrace/millrace/wire/RecordBatchBuilder" "out" "Lcom/example/millrace/millrace/wire/ProtocolWriter;" (.ref wo) := F_o.other W2 (Or.inr (slot_ne (Or.inr (hw _ (List.mem_of_getElem? (i := 25) rfl))) (Or.inl (hw _ (List.mem_of_getElem? (i := 66) rfl))) (by decide) (t := (.object "com/example/millrace/millrace/wire/ProtocolWriter")) (t' := .long) (by decide) (by decide)))
      have Fa5 : Fld Z h2 a1 "com/example/millrace/millrace/wire/RecordBatchBuilder" "maxTimestamp" "J" (.long mt) := F_mt.other W2 (Or.inr (slot_ne (Or.inl (hw _ (List.mem_of_getElem? (i := 68) rfl))) (Or.inl (hw _ (List.mem_of_getElem? (i := 66) rfl))) (by decide) (t := .long) (t' := .long) (by decide) (by decide)))
      have Fa6 : Fld Z h2 a1 "com/example/millrace/millrace/wire/RecordBatchBuilder" "count" "I" (.int cn) := F_c.other W2 (Or.inr (slot_ne (Or.inl (hw _ (List.mem_of_getElem? (i := 64) rfl))) (Or.inl (hw _ (List.mem_of_getElem? (i := 66) rfl))) (by decide) (t := .int) (t' := .long) (by decide) (by decide)))
      have Fa7 : Exa Z h2 wo "com/example/millrace/millrace/wire/ProtocolWriter" := E_wo.wr W2
      have Fa8 : Fld Z h2 wo "com/example/millrace/millrace/wire/ProtocolWriter" "bytes" "[B" (.ref t) := F_b.other W2 (Or.inl (Ne.symm ne_a1_wo))
      have Fa9 : Fld Z h2 wo "com/example/millrace/millrace/wire/ProtocolWriter" "position" "I" (.int P) := F_p.other W2 (Or.inl (Ne.symm ne_a1_wo))
      have Fa10 : own_Y Z h2 t n := Y_t.other W2 (Ne.symm ne_a1_t)
      have Ke2 : Keep h0 h2 [a1, wo, t] := (Keep.refl h0 [a1, wo, t]).wr W2 (Or.inl (List.mem_of_getElem? (i := 0) rfl))
      refine own_st (T' := T2) (g' := (mkF m 12 #[rv a1, own_jv p2, .second, .val .null, .val .null, .unset, .unset, .unset, .unset, .unset, .unset, .unset, .unset] [])) (fun _ k => (st2) _ k) ?_
      refine own_st (T' := T2) (g' := (mkF m 13 #[rv a1, own_jv p2, .second, .val .null, .val .null, .unset, .unset, .unset, .unset, .unset, .unset, .unset, .unset] [(.ref a1)])) (fun _ k => XS.aloadN X2.here hx rfl (hb hby d10_12) rfl rfl k) ?_
      refine own_st (T' := T2) (g' := (mkF m 14 #[rv a1, own_jv p2, .second, .val .null, .val .null, .unset, .unset, .unset, .unset, .unset, .unset, .unset, .unset] [(.long p2), (.ref a1)])) (fun _ k => XS.lloadN X2.here hx rfl (hb hby d10_13) rfl k) ?_
      obtain ⟨T11, h11, X11, e11, W11, st11⟩ := putF X2 hx hZ hown (host := "") (Or.inl (hw _ (List.mem_of_getElem? (i := 67) rfl))) Via.refl e2 Fa5 Fa3 (Or.inl (hw _ (List.mem_of_getElem? (i := 68) rfl))) (hw _ (List.mem_of_getElem? (i := 2) rfl)) (ty := .long) (by decide) rfl rfl (g := (mkF m 14 #[rv a1, own_jv p2, .second, .val .null, .val .null, .unset, .unset, .unset, .unset, .unset, .unset, .unset, .unset] [(.long p2), (.ref a1)])) rfl rfl (hb hby d10_14)
      have Fw11 := Fa5.same W11
      have Zs11 : n0 ≤ h11.size := Nat.le_trans Zs2 (Keep.of_wr W11).1
      obtain ⟨lc11, X11, N11⟩ := own_loc X11 (Fr.snoc X11 N2 gn_a1)
      have Fa12 : Exa Z h11 a1 "com/example/millrace/millrace/wire/RecordBatchBuilder" := Fa3.wr W11
      have Fa13 : Fld Z h11 a1 "com/example/millrace/millrace/wire/RecordBatchBuilder" "out" "Lcom/example/millrace/millrace/wire/ProtocolWriter;" (.ref wo) := Fa4.other W11 (Or.inr (slot_ne (Or.inr (hw _ (List.mem_of_getElem? (i := 25) rfl))) (Or.inl (hw _ (List.mem_of_getElem? (i := 68) rfl))) (by decide) (t := (.object "com/example/millrace/millrace/wire/ProtocolWriter")) (t' := .long) (by decide) (by decide)))
      have Fa14 : Fld Z h11 a1 "com/example/millrace/millrace/wire/RecordBatchBuilder" "count" "I" (.int cn) := Fa6.other W11 (Or.inr (slot_ne (Or.inl (hw _ (List.mem_of_getElem? (i := 64) rfl))) (Or.inl (hw _ (List.mem_of_getElem? (i := 68) rfl))) (by decide) (t := .int) (t' := .long) (by decide) (by decide)))
      have Fa15 : Exa Z h11 wo "com/example/millrace/millrace/wire/ProtocolWriter" := Fa7.wr W11
      have Fa16 : Fld Z h11 wo "com/example/millrace/millrace/wire/ProtocolWriter" "bytes" "[B" (.ref t) := Fa8.other W11 (Or.inl (Ne.symm ne_a1_wo))
      have Fa17 : Fld Z h11 wo "com/example/millrace/millrace/wire/ProtocolWriter" "position" "I" (.int P) := Fa9.other W11 (Or.inl (Ne.symm ne_a1_wo))
      have Fa18 : own_Y Z h11 t n := Fa10.other W11 (Ne.symm ne_a1_t)
      have Fa19 : Fld Z h11 a1 "com/example/millrace/millrace/wire/RecordBatchBuilder" "baseTimestamp" "J" (.long p2) := Fw2.other W11 (Or.inr (slot_ne (Or.inl (hw _ (List.mem_of_getElem? (i := 66) rfl))) (Or.inl (hw _ (List.mem_of_getElem? (i := 68) rfl))) (by decide) (t := .long) (t' := .long) (by decide) (by decide)))
      have Ke11 : Keep h0 h11 [a1, wo, t] := Ke2.wr W11 (Or.inl (List.mem_of_getElem? (i := 0) rfl))
      refine own_st (T' := T11) (g' := (mkF m 17 #[rv a1, own_jv p2, .second, .val .null, .val .null, .unset, .unset, .unset, .unset, .unset, .unset, .unset, .unset] [])) (fun _ k => (st11) _ k) ?_
      exact J17 _ _ _ _ _ X11 e11 N11 Zs11 Ke11 Fa12 Fa13 Fa19 Fw11 Fa14 Fa15 Fa16 Fa17 Fa18
    · refine own_st (T' := T1) (g' := (mkF m 17 #[rv a1, own_jv p2, .second, .val .null, .val .null, .unset, .unset, .unset, .unset, .unset, .unset, .unset, .unset] [])) (fun _ k => XS.ifYes X1.here hx rfl (pc0 := 4) (pc' := 17) rfl (hb hby d10_4) rfl ((if0 _ _).trans (feq hc4).2) (by decide) (by decide) k) ?_
      exact J17 _ _ _ _ _ X1 e1 N0 Z0 (Keep.refl h0 [a1, wo, t]) E_a1 F_o F_bt F_mt F_c E_wo F_b F_p Y_t
  intro TJ hJ lcJ bt1 mt1 XJ eJ NJ ZJ KJ Fj0 Fj1 Fj2 Fj3 Fj4 Fj5 Fj6 Fj7 Fj8
  refine own_st (T' := TJ) (g' := (mkF m 18 #[rv a1, own_jv p2, .second, .val .null, .val .null, .unset, .unset, .unset, .unset, .unset, .unset, .unset, .unset] [(.long p2)])) (fun _ k => XS.lloadN XJ.here hx rfl (hb hby d10_17) rfl k) ?_
  refine own_st (T' := TJ) (g' := (mkF m 19 #[rv a1, own_jv p2, .second, .val .null, .val .null, .unset, .unset, .unset, .unset, .unset, .unset, .unset, .unset] [(.ref a1), (.long p2)])) (fun _ k => XS.aloadN XJ.here hx rfl (hb hby d10_18) rfl rfl k) ?_
  obtain ⟨T20, X20, e20, st20⟩ := getF XJ hx hZ hown (host := "") (Or.inl (hw _ (List.mem_of_getElem? (i := 65) rfl))) Via.refl eJ Fj2 (g := (mkF m 19 #[rv a1, own_jv p2, .second, .val .null, .val .null, .unset, .unset, .unset, .unset, .unset, .unset, .unset, .unset] [(.ref a1), (.long p2)])) rfl rfl (hb hby d10_19)
  refine own_st (T' := T20) (g' := (mkF m 22 #[rv a1, own_jv p2, .second, .val .null, .val .null, .unset, .unset, .unset, .unset, .unset, .unset, .unset, .unset] [(.long bt1), (.long p2)])) (fun _ k => (st20) _ k) ?_
  refine own_st (T' := T20) (g' := (mkF m 23 #[rv a1, own_jv p2, .second, .val .null, .val .null, .unset, .unset, .unset, .unset, .unset, .unset, .unset, .unset] [(.long (p2 - bt1))])) (fun _ k => XS.lsub X20.here hx rfl (hb hby d10_22) rfl k) ?_
  generalize hz23 : (p2 - bt1) = z23
  refine own_st (T' := T20) (g' := (mkF m 25 #[rv a1, own_jv p2, .second, .val .null, .val .null, own_jv z23, .second, .unset, .unset, .unset, .unset, .unset, .unset] [])) (fun _ k => XS.lstore X20.here hx rfl (hb hby d10_23) rfl (l' := #[rv a1, own_jv p2, .second, .val .null, .val .null, own_jv z23, .second, .unset, .unset, .unset, .unset, .unset, .unset]) rfl k) ?_
  refine own_st (T' := T20) (g' := (mkF m 26 #[rv a1, own_jv p2, .second, .val .null, .val .null, own_jv z23, .second, .unset, .unset, .unset, .unset, .unset, .unset] [(.ref a1)])) (fun _ k => XS.aloadN X20.here hx rfl (hb hby d10_25) rfl rfl k) ?_
  obtain ⟨T21, X21, e21, st21⟩ := getF X20 hx hZ hown (host := "") (Or.inl (hw _ (List.mem_of_getElem? (i := 63) rfl))) Via.refl e20 Fj4 (g := (mkF m 26 #[rv a1, own_jv p2, .second, .val .null, .val .null, own_jv z23, .second, .unset, .unset, .unset, .unset, .unset, .unset] [(.ref a1)])) rfl rfl (hb hby d10_26)
  refine own_st (T' := T21) (g' := (mkF m 29 #[rv a1, own_jv p2, .second, .val .null, .val .null, own_jv z23, .second, .unset, .unset, .unset, .unset, .unset, .unset] [(.int cn)])) (fun _ k => (st21) _ k) ?_
  refine own_st (T' := T21) (g' := (mkF m 31 #[rv a1, own_jv p2, .second, .val .null, .val .null, own_jv z23, .second, iv cn, .unset, .unset, .unset, .unset, .unset] [])) (fun _ k => XS.istore X21.here hx rfl (hb hby d10_29) rfl (l' := #[rv a1, own_jv p2, .second, .val .null, .val .null, own_jv z23, .second, iv cn, .unset, .unset, .unset, .unset, .unset]) rfl k) ?_
  refine own_st (T' := T21) (g' := (mkF m 32 #[rv a1, own_jv p2, .second, .val .null, .val .null, own_jv z23, .second, iv cn, .unset, .unset, .unset, .unset, .unset] [.null])) (fun _ k => XS.aloadN X21.here hx rfl (hb hby d10_31) rfl rfl k) ?_
  refine own_st (T' := T21) (g' := (mkF m 35 #[rv a1, own_jv p2, .second, .val .null, .val .null, own_jv z23, .second, iv cn, .unset, .unset, .unset, .unset, .unset] [])) (fun _ k => XS.ifnonnullNo X21.here hx rfl (hb hby d10_32) rfl k) ?_
  refine own_st (T' := T21) (g' := (mkF m 36 #[rv a1, own_jv p2, .second, .val .null, .val .null, own_jv z23, .second, iv cn, .unset, .unset, .unset, .unset, .unset] [(.int (-1 : Int32))])) (fun _ k => XS.iconst X21.here hx rfl (hb hby d10_35) k) ?_
  refine own_st (T' := T21) (g' := (mkF m 41 #[rv a1, own_jv p2, .second, .val .null, .val .null, own_jv z23, .second, iv cn, .unset, .unset, .unset, .unset, .unset] [(.int (-1 : Int32))])) (fun _ k => XS.goto X21.here hx rfl (pc0 := 36) (pc' := 41) rfl (hb hby d10_36) (by decide) (by decide) k) ?_
  refine own_st (T' := T21) (g' := (mkF m 43 #[rv a1, own_jv p2, .second, .val .null, .val .null, own_jv z23, .second, iv cn, iv (-1 : Int32), .unset, .unset, .unset, .unset] [])) (fun _ k => XS.istore X21.here hx rfl (hb hby d10_41) rfl (l' := #[rv a1, own_jv p2, .second, .val .null, .val .null, own_jv z23, .second, iv cn, iv (-1 : Int32), .unset, .unset, .unset, .unset]) rfl k) ?_
  refine own_st (T' := T21) (g' := (mkF m 45 #[rv a1, own_jv p2, .second, .val .null, .val .null, own_jv z23, .second, iv cn, iv (-1 : Int32), .unset, .unset, .unset, .unset] [.null])) (fun _ k => XS.aload X21.here hx rfl (hb hby d10_43) rfl rfl k) ?_
  refine own_st (T' := T21) (g' := (mkF m 48 #[rv a1, own_jv p2, .second, .val .null, .val .null, own_jv z23, .second, iv cn, iv (-1 : Int32), .unset, .unset, .unset, .unset] [])) (fun _ k => XS.ifnonnullNo X21.here hx rfl (hb hby d10_45) rfl k) ?_
  refine own_st (T' := T21) (g' := (mkF m 49 #[rv a1, own_jv p2, .second, .val .null, .val .null, own_jv z23, .second, iv cn, iv (-1 : Int32), .unset, .unset, .unset, .unset] [(.int (-1 : Int32))])) (fun _ k => XS.iconst X21.here hx rfl (hb hby d10_48) k) ?_
  refine own_st (T' := T21) (g' := (mkF m 55 #[rv a1, own_jv p2, .second, .val .null, .val .null, own_jv z23, .second, iv cn, iv (-1 : Int32), .unset, .unset, .unset, .unset] [(.int (-1 : Int32))])) (fun _ k => XS.goto X21.here hx rfl (pc0 := 49) (pc' := 55) rfl (hb hby d10_49) (by decide) (by decide) k) ?_
  refine own_st (T' := T21) (g' := (mkF m 57 #[rv a1, own_jv p2, .second, .val .null, .val .null, own_jv z23, .second, iv cn, iv (-1 : Int32), iv (-1 : Int32), .unset, .unset, .unset] [])) (fun _ k => XS.istore X21.here hx rfl (hb hby d10_55) rfl (l' := #[rv a1, own_jv p2, .second, .val .null, .val .null, own_jv z23, .second, iv cn, iv (-1 : Int32), iv (-1 : Int32), .unset, .unset, .unset]) rfl k) ?_
  refine own_st (T' := T21) (g' := (mkF m 58 #[rv a1, own_jv p2, .second, .val .null, .val .null, own_jv z23, .second, iv cn, iv (-1 : Int32), iv (-1 : Int32), .unset, .unset, .unset] [(.int (1 : Int32))])) (fun _ k => XS.iconst X21.here hx rfl (hb hby d10_57) k) ?_
  refine own_st (T' := T21) (g' := (mkF m 60 #[rv a1, own_jv p2, .second, .val .null, .val .null, own_jv z23, .second, iv cn, iv (-1 : Int32), iv (-1 : Int32), .unset, .unset, .unset] [(.long z23), (.int (1 : Int32))])) (fun _ k => XS.lload X21.here hx rfl (hb hby d10_58) rfl k) ?_
  obtain ⟨v22, T22, L22, X22, hQ22, st22⟩ := own_packS (Jvm.LawKit.callS X21 hx (y := (⟨"com/example/millrace/millrace/wire/ProtocolWriter", "sizeOfVarlong", "(J)I"⟩ : MethodName)) hown (mvT hZ (hw _ (List.mem_of_getElem? (i := 69) rfl))) (mvT hZ (hw _ (List.mem_of_getElem? (i := 70) rfl))) (mvT hZ (hw _ (List.mem_of_getElem? (i := 12) rfl))) (mvT hZ (hw _ (List.mem_of_getElem? (i := 71) rfl))) (by decide) (backOf (W := 1) (rm11 l Z a0 hw [] z23 hJ n0 ZJ ) hZ (hw _ (List.mem_of_getElem? (i := 71) rfl)) (hw _ (List.mem_of_getElem? (i := 12) rfl)) (by decide) (by decide)) (g := (mkF m 60 #[rv a1, own_jv p2, .second, .val .null, .val .null, own_jv z23, .second, iv cn, iv (-1 : Int32), iv (-1 : Int32), .unset, .unset, .unset] [(.long z23), (.int (1 : Int32))])) rfl (by rw [hml]; rfl) (argsL := [(.long z23)]) (rest := [(.int (1 : Int32))]) (lenOf own_pd10_0 rfl) rfl (by show 2 * 0 + _ ≤ _; exact Nat.le_of_eq rfl) (hb hby d10_60) (fun _ _ => ⟨rfl, e21, (by decide : 0 + 0 ≤ _), (by decide : 0 + 0 ≤ _)⟩))
  obtain ⟨rfl, N22q, e22⟩ := hQ22
  obtain ⟨lc22, X22, N22⟩ := own_loc X22 (Fr.app NJ N22q)
  obtain ⟨s22, hs22⟩ : ∃ z, z = own_f11_0 z23 := ⟨_, rfl⟩
  have hb22 := own_vl z23
  rw [← hs22] at hb22
  rw [← hs22] at st22
  refine own_st (T' := T22) (g' := (mkF m 63 #[rv a1, own_jv p2, .second, .val .null, .val .null, own_jv z23, .second, iv cn, iv (-1 : Int32), iv (-1 : Int32), .unset, .unset, .unset] [(.int s22), (.int (1 : Int32))])) (fun _ k => (st22) _ k) ?_
  refine own_st (T' := T22) (g' := (mkF m 64 #[rv a1, own_jv p2, .second, .val .null, .val .null, own_jv z23, .second, iv cn, iv (-1 : Int32), iv (-1 : Int32), .unset, .unset, .unset] [(.int ((1 : Int32) + s22))])) (fun _ k => XS.iadd X22.here hx rfl (hb hby d10_63) rfl k) ?_
  refine own_st (T' := T22) (g' := (mkF m 66 #[rv a1, own_jv p2, .second, .val .null, .val .null, own_jv z23, .second, iv cn, iv (-1 : Int32), iv (-1 : Int32), .unset, .unset, .unset] [(.int cn), (.int ((1 : Int32) + s22))])) (fun _ k => XS.iload X22.here hx rfl (hb hby d10_64) rfl k) ?_
  obtain ⟨v23, T23, L23, X23, hQ23, st23⟩ := own_packS (Jvm.LawKit.callS X22 hx (y := (⟨"com/example/millrace/millrace/wire/ProtocolWriter", "sizeOfVarint", "(I)I"⟩ : MethodName)) hown (mvT hZ (hw _ (List.mem_of_getElem? (i := 73) rfl))) (mvT hZ (hw _ (List.mem_of_getElem? (i := 74) rfl))) (mvT hZ (hw _ (List.mem_of_getElem? (i := 12) rfl))) (mvT hZ (hw _ (List.mem_of_getElem? (i := 75) rfl))) (by decide) (backOf (W := 1) (rm12 l Z a0 hw [] cn hJ n0 ZJ ) hZ (hw _ (List.mem_of_getElem? (i := 75) rfl)) (hw _ (List.mem_of_getElem? (i := 12) rfl)) (by decide) (by decide)) (g := (mkF m 66 #[rv a1, own_jv p2, .second, .val .null, .val .null, own_jv z23, .second, iv cn, iv (-1 : Int32), iv (-1 : Int32), .unset, .unset, .unset] [(.int cn), (.int ((1 : Int32) + s22))])) rfl (by rw [hml]; rfl) (argsL := [(.int cn)]) (rest := [(.int ((1 : Int32) + s22))]) (lenOf own_pd10_1 rfl) rfl (by show 2 * 0 + _ ≤ _; exact Nat.le_of_eq rfl) (hb hby d10_66) (fun _ _ => ⟨rfl, e22, (by decide : 0 + 0 ≤ _), (by decide : 0 + 0 ≤ _)⟩))
  obtain ⟨rfl, N23q, e23⟩ := hQ23
  obtain ⟨lc23, X23, N23⟩ := own_loc X23 (Fr.app N22 N23q)
  obtain ⟨s23, hs23⟩ : ∃ z, z = own_f12_0 cn := ⟨_, rfl⟩
  have hb23 := own_sv cn (by omega) (by omega)
  rw [← hs23] at hb23
  rw [← hs23] at st23
  refine own_st (T' := T23) (g' := (mkF m 69 #[rv a1, own_jv p2, .second, .val .null, .val .null, own_jv z23, .second, iv cn, iv (-1 : Int32), iv (-1 : Int32), .unset, .unset, .unset] [(.int s23), (.int ((1 : Int32) + s22))])) (fun _ k => (st23) _ k) ?_
  refine own_st (T' := T23) (g' := (mkF m 70 #[rv a1, own_jv p2, .second, .val .null, .val .null, own_jv z23, .second, iv cn, iv (-1 : Int32), iv (-1 : Int32), .unset, .unset, .unset] [(.int (((1 : Int32) + s22) + s23))])) (fun _ k => XS.iadd X23.here hx rfl (hb hby d10_69) rfl k) ?_
  refine own_st (T' := T23) (g' := (mkF m 72 #[rv a1, own_jv p2, .second, .val .null, .val .null, own_jv z23, .second, iv cn, iv (-1 : Int32), iv (-1 : Int32), .unset, .unset, .unset] [(.int (-1 : Int32)), (.int (((1 : Int32) + s22) + s23))])) (fun _ k => XS.iload X23.here hx rfl (hb hby d10_70) rfl k) ?_
  obtain ⟨v24, T24, L24, X24, hQ24, st24⟩ := own_packS (Jvm.LawKit.callS X23 hx (y := (⟨"com/example/millrace/millrace/wire/ProtocolWriter", "sizeOfVarint", "(I)I"⟩ : MethodName)) hown (mvT hZ (hw _ (List.mem_of_getElem? (i := 73) rfl))) (mvT hZ (hw _ (List.mem_of_getElem? (i := 74) rfl))) (mvT hZ (hw _ (List.mem_of_getElem? (i := 12) rfl))) (mvT hZ (hw _ (List.mem_of_getElem? (i := 75) rfl))) (by decide) (backOf (W := 1) (rm12 l Z a0 hw [] (-1 : Int32) hJ n0 ZJ ) hZ (hw _ (List.mem_of_getElem? (i := 75) rfl)) (hw _ (List.mem_of_getElem? (i := 12) rfl)) (by decide) (by decide)) (g := (mkF m 72 #[rv a1, own_jv p2, .second, .val .null, .val .null, own_jv z23, .second, iv cn, iv (-1 : Int32), iv (-1 : Int32), .unset, .unset, .unset] [(.int (-1 : Int32)), (.int (((1 : Int32) + s22) + s23))])) rfl (by rw [hml]; rfl) (argsL := [(.int (-1 : Int32))]) (rest := [(.int (((1 : Int32) + s22) + s23))]) (lenOf own_pd10_1 rfl) rfl (by show 2 * 0 + _ ≤ _; exact Nat.le_of_eq rfl) (hb hby d10_72) (fun _ _ => ⟨rfl, e23, (by decide : 0 + 0 ≤ _), (by decide : 0 + 0 ≤ _)⟩))
  obtain ⟨rfl, N24q, e24⟩ := hQ24
  obtain ⟨lc24, X24, N24⟩ := own_loc X24 (Fr.app N23 N24q)
  obtain ⟨s24, hs24⟩ : ∃ z, z = own_f12_0 (-1 : Int32) := ⟨_, rfl⟩
  have hb24 := own_sv (-1 : Int32) (by decide) (by decide)
  rw [← hs24] at hb24
  rw [← hs24] at st24
  refine own_st (T' := T24) (g' := (mkF m 75 #[rv a1, own_jv p2, .second, .val .null, .val .null, own_jv z23, .second, iv cn, iv (-1 : Int32), iv (-1 : Int32), .unset, .unset, .unset] [(.int s24), (.int (((1 : Int32) + s22) + s23))])) (fun _ k => (st24) _ k) ?_
  refine own_st (T' := T24) (g' := (mkF m 76 #[rv a1, own_jv p2, .second, .val .null, .val .null, own_jv z23, .second, iv cn, iv (-1 : Int32), iv (-1 : Int32), .unset, .unset, .unset] [(.int ((((1 : Int32) + s22) + s23) + s24))])) (fun _ k => XS.iadd X24.here hx rfl (hb hby d10_75) rfl k) ?_
  refine own_st (T' := T24) (g' := (mkF m 78 #[rv a1, own_jv p2, .second, .val .null, .val .null, own_jv z23, .second, iv cn, iv (-1 : Int32), iv (-1 : Int32), .unset, .unset, .unset] [(.int (-1 : Int32)), (.int ((((1 : Int32) + s22) + s23) + s24))])) (fun _ k => XS.iload X24.here hx rfl (hb hby d10_76) rfl k) ?_
  refine own_st (T' := T24) (g' := (mkF m 79 #[rv a1, own_jv p2, .second, .val .null, .val .null, own_jv z23, .second, iv cn, iv (-1 : Int32), iv (-1 : Int32), .unset, .unset, .unset] [(.int (0 : Int32)), (.int (-1 : Int32)), (.int ((((1 : Int32) + s22) + s23) + s24))])) (fun _ k => XS.iconst X24.here hx rfl (hb hby d10_78) k) ?_
  obtain ⟨v25, T25, L25, X25, hQ25, st25⟩ := own_packS (Jvm.LawKit.callS X24 hx (y := (⟨"java/lang/Math", "max", "(II)I"⟩ : MethodName)) hown (mvT hZ (hw _ (List.mem_of_getElem? (i := 13) rfl))) (mvT hZ (hw _ (List.mem_of_getElem? (i := 14) rfl))) (mvT hZ (hw _ (List.mem_of_getElem? (i := 15) rfl))) (mvT hZ (hw _ (List.mem_of_getElem? (i := 16) rfl))) (by decide) (backOf (W := 1) (rm3 l Z a0 hw [] (-1 : Int32) (0 : Int32) hJ n0 ZJ ) hZ (hw _ (List.mem_of_getElem? (i := 16) rfl)) (hw _ (List.mem_of_getElem? (i := 15) rfl)) (by decide) (by decide)) (g := (mkF m 79 #[rv a1, own_jv p2, .second, .val .null, .val .null, own_jv z23, .second, iv cn, iv (-1 : Int32), iv (-1 : Int32), .unset, .unset, .unset] [(.int (0 : Int32)), (.int (-1 : Int32)), (.int ((((1 : Int32) + s22) + s23) + s24))])) rfl (by rw [hml]; rfl) (argsL := [(.int (-1 : Int32)), (.int (0 : Int32))]) (rest := [(.int ((((1 : Int32) + s22) + s23) + s24))]) (lenOf own_pd10_2 rfl) rfl (by show 2 * 0 + _ ≤ _; exact Nat.le_of_eq rfl) (hb hby d10_79) (fun _ _ => ⟨rfl, e24, (by decide : 0 + 0 ≤ _), (by decide : 0 + 0 ≤ _)⟩))
  obtain ⟨hv25, N25q, e25⟩ := hQ25
  rw [show own_f3_0 (-1 : Int32) (0 : Int32) = (0 : Int32) from by decide] at hv25
  subst hv25
  obtain ⟨lc25, X25, N25⟩ := own_loc X25 (Fr.app N24 N25q)
  refine own_st (T' := T25) (g' := (mkF m 82 #[rv a1, own_jv p2, .second, .val .null, .val .null, own_jv z23, .second, iv cn, iv (-1 : Int32), iv (-1 : Int32), .unset, .unset, .unset] [(.int (0 : Int32)), (.int ((((1 : Int32) + s22) + s23) + s24))])) (fun _ k => (st25) _ k) ?_
  refine own_st (T' := T25) (g' := (mkF m 83 #[rv a1, own_jv p2, .second, .val .null, .val .null, own_jv z23, .second, iv cn, iv (-1 : Int32), iv (-1 : Int32), .unset, .unset, .unset] [(.int (((((1 : Int32) + s22) + s23) + s24) + (0 : Int32)))])) (fun _ k => XS.iadd X25.here hx rfl (hb hby d10_82) rfl k) ?_
  refine own_st (T' := T25) (g' := (mkF m 85 #[rv a1, own_jv p2, .second, .val .null, .val .null, own_jv z23, .second, iv cn, iv (-1 : Int32), iv (-1 : Int32), .unset, .unset, .unset] [(.int (-1 : Int32)), (.int (((((1 : Int32) + s22) + s23) + s24) + (0 : Int32)))])) (fun _ k => XS.iload X25.here hx rfl (hb hby d10_83) rfl k) ?_
  obtain ⟨v26, T26, L26, X26, hQ26, st26⟩ := own_packS (Jvm.LawKit.callS X25 hx (y := (⟨"com/example/millrace/millrace/wire/ProtocolWriter", "sizeOfVarint", "(I)I"⟩ : MethodName)) hown (mvT hZ (hw _ (List.mem_of_getElem? (i := 73) rfl))) (mvT hZ (hw _ (List.mem_of_getElem? (i := 74) rfl))) (mvT hZ (hw _ (List.mem_of_getElem? (i := 12) rfl))) (mvT hZ (hw _ (List.mem_of_getElem? (i := 75) rfl))) (by decide) (backOf (W := 1) (rm12 l Z a0 hw [] (-1 : Int32) hJ n0 ZJ ) hZ (hw _ (List.mem_of_getElem? (i := 75) rfl)) (hw _ (List.mem_of_getElem? (i := 12) rfl)) (by decide) (by decide)) (g := (mkF m 85 #[rv a1, own_jv p2, .second, .val .null, .val .null, own_jv z23, .second, iv cn, iv (-1 : Int32), iv (-1 : Int32), .unset, .unset, .unset] [(.int (-1 : Int32)), (.int (((((1 : Int32) + s22) + s23) + s24) + (0 : Int32)))])) rfl (by rw [hml]; rfl) (argsL := [(.int (-1 : Int32))]) (rest := [(.int (((((1 : Int32) + s22) + s23) + s24) + (0 : Int32)))]) (lenOf own_pd10_1 rfl) rfl (by show 2 * 0 + _ ≤ _; exact Nat.le_of_eq rfl) (hb hby d10_85) (fun _ _ => ⟨rfl, e25, (by decide : 0 + 0 ≤ _), (by decide : 0 + 0 ≤ _)⟩))
  obtain ⟨rfl, N26q, e26⟩ := hQ26
  obtain ⟨lc26, X26, N26⟩ := own_loc X26 (Fr.app N25 N26q)
  rw [← hs24] at st26
  refine own_st (T' := T26) (g' := (mkF m 88 #[rv a1, own_jv p2, .second, .val .null, .val .null, own_jv z23, .second, iv cn, iv (-1 : Int32), iv (-1 : Int32), .unset, .unset, .unset] [(.int s24), (.int (((((1 : Int32) + s22) + s23) + s24) + (0 : Int32)))])) (fun _ k => (st26) _ k) ?_
  refine own_st (T' := T26) (g' := (mkF m 89 #[rv a1, own_jv p2, .second, .val .null, .val .null, own_jv z23, .second, iv cn, iv (-1 : Int32), iv (-1 : Int32), .unset, .unset, .unset] [(.int ((((((1 : Int32) + s22) + s23) + s24) + (0 : Int32)) + s24))])) (fun _ k => XS.iadd X26.here hx rfl (hb hby d10_88) rfl k) ?_
  refine own_st (T' := T26) (g' := (mkF m 91 #[rv a1, own_jv p2, .second, .val .null, .val .null, own_jv z23, .second, iv cn, iv (-1 : Int32), iv (-1 : Int32), .unset, .unset, .unset] [(.int (-1 : Int32)), (.int ((((((1 : Int32) + s22) + s23) + s24) + (0 : Int32)) + s24))])) (fun _ k => XS.iload X26.here hx rfl (hb hby d10_89) rfl k) ?_
  refine own_st (T' := T26) (g' := (mkF m 92 #[rv a1, own_jv p2, .second, .val .null, .val .null, own_jv z23, .second, iv cn, iv (-1 : Int32), iv (-1 : Int32), .unset, .unset, .unset] [(.int (0 : Int32)), (.int (-1 : Int32)), (.int ((((((1 : Int32) + s22) + s23) + s24) + (0 : Int32)) + s24))])) (fun _ k => XS.iconst X26.here hx rfl (hb hby d10_91) k) ?_
  obtain ⟨v27, T27, L27, X27, hQ27, st27⟩ := own_packS (Jvm.LawKit.callS X26 hx (y := (⟨"java/lang/Math", "max", "(II)I"⟩ : MethodName)) hown (mvT hZ (hw _ (List.mem_of_getElem? (i := 13) rfl))) (mvT hZ (hw _ (List.mem_of_getElem? (i := 14) rfl))) (mvT hZ (hw _ (List.mem_of_getElem? (i := 15) rfl))) (mvT hZ (hw _ (List.mem_of_getElem? (i := 16) rfl))) (by decide) (backOf (W := 1) (rm3 l Z a0 hw [] (-1 : Int32) (0 : Int32) hJ n0 ZJ ) hZ (hw _ (List.mem_of_getElem? (i := 16) rfl)) (hw _ (List.mem_of_getElem? (i := 15) rfl)) (by decide) (by decide)) (g := (mkF m 92 #[rv a1, own_jv p2, .second, .val .null, .val .null, own_jv z23, .second, iv cn, iv (-1 : Int32), iv (-1 : Int32), .unset, .unset, .unset] [(.int (0 : Int32)), (.int (-1 : Int32)), (.int ((((((1 : Int32) + s22) + s23) + s24) + (0 : Int32)) + s24))])) rfl (by rw [hml]; rfl) (argsL := [(.int (-1 : Int32)), (.int (0 : Int32))]) (rest := [(.int ((((((1 : Int32) + s22) + s23) + s24) + (0 : Int32)) + s24))]) (lenOf own_pd10_2 rfl) rfl (by show 2 * 0 + _ ≤ _; exact Nat.le_of_eq rfl) (hb hby d10_92) (fun _ _ => ⟨rfl, e26, (by decide : 0 + 0 ≤ _), (by decide : 0 + 0 ≤ _)⟩))
  obtain ⟨hv27, N27q, e27⟩ := hQ27
  rw [show own_f3_0 (-1 : Int32) (0 : Int32) = (0 : Int32) from by decide] at hv27
  subst hv27
  obtain ⟨lc27, X27, N27⟩ := own_loc X27 (Fr.app N26 N27q)
  refine own_st (T' := T27) (g' := (mkF m 95 #[rv a1, own_jv p2, .second, .val .null, .val .null, own_jv z23, .second, iv cn, iv (-1 : Int32), iv (-1 : Int32), .unset, .unset, .unset] [(.int (0 : Int32)), (.int ((((((1 : Int32) + s22) + s23) + s24) + (0 : Int32)) + s24))])) (fun _ k => (st27) _ k) ?_
  refine own_st (T' := T27) (g' := (mkF m 96 #[rv a1, own_jv p2, .second, .val .null, .val .null, own_jv z23, .second, iv cn, iv (-1 : Int32), iv (-1 : Int32), .unset, .unset, .unset] [(.int (((((((1 : Int32) + s22) + s23) + s24) + (0 : Int32)) + s24) + (0 : Int32)))])) (fun _ k => XS.iadd X27.here hx rfl (hb hby d10_95) rfl k) ?_
  refine own_st (T' := T27) (g' := (mkF m 97 #[rv a1, own_jv p2, .second, .val .null, .val .null, own_jv z23, .second, iv cn, iv (-1 : Int32), iv (-1 : Int32), .unset, .unset, .unset] [(.int (0 : Int32)), (.int (((((((1 : Int32) + s22) + s23) + s24) + (0 : Int32)) + s24) + (0 : Int32)))])) (fun _ k => XS.iconst X27.here hx rfl (hb hby d10_96) k) ?_
  obtain ⟨v28, T28, L28, X28, hQ28, st28⟩ := own_packS (Jvm.LawKit.callS X27 hx (y := (⟨"com/example/millrace/millrace/wire/ProtocolWriter", "sizeOfVarint", "(I)I"⟩ : MethodName)) hown (mvT hZ (hw _ (List.mem_of_getElem? (i := 73) rfl))) (mvT hZ (hw _ (List.mem_of_getElem? (i := 74) rfl))) (mvT hZ (hw _ (List.mem_of_getElem? (i := 12) rfl))) (mvT hZ (hw _ (List.mem_of_getElem? (i := 75) rfl))) (by decide) (backOf (W := 1) (rm12 l Z a0 hw [] (0 : Int32) hJ n0 ZJ ) hZ (hw _ (List.mem_of_getElem? (i := 75) rfl)) (hw _ (List.mem_of_getElem? (i := 12) rfl)) (by decide) (by decide)) (g := (mkF m 97 #[rv a1, own_jv p2, .second, .val .null, .val .null, own_jv z23, .second, iv cn, iv (-1 : Int32), iv (-1 : Int32), .unset, .unset, .unset] [(.int (0 : Int32)), (.int (((((((1 : Int32) + s22) + s23) + s24) + (0 : Int32)) + s24) + (0 : Int32)))])) rfl (by rw [hml]; rfl) (argsL := [(.int (0 : Int32))]) (rest := [(.int (((((((1 : Int32) + s22) + s23) + s24) + (0 : Int32)) + s24) + (0 : Int32)))]) (lenOf own_pd10_1 rfl) rfl (by show 2 * 0 + _ ≤ _; exact Nat.le_of_eq rfl) (hb hby d10_97) (fun _ _ => ⟨rfl, e27, (by decide : 0 + 0 ≤ _), (by decide : 0 + 0 ≤ _)⟩))
  obtain ⟨rfl, N28q, e28⟩ := hQ28
  obtain ⟨lc28, X28, N28⟩ := own_loc X28 (Fr.app N27 N28q)
  obtain ⟨s28, hs28⟩ : ∃ z, z = own_f12_0 (0 : Int32) := ⟨_, rfl⟩
  have hb28 := own_sv (0 : Int32) (by decide) (by decide)
  rw [← hs28] at hb28
  rw [← hs28] at st28
  refine own_st (T' := T28) (g' := (mkF m 100 #[rv a1, own_jv p2, .second, .val .null, .val .null, own_jv z23, .second, iv cn, iv (-1 : Int32), iv (-1 : Int32), .unset, .unset, .unset] [(.int s28), (.int (((((((1 : Int32) + s22) + s23) + s24) + (0 : Int32)) + s24) + (0 : Int32)))])) (fun _ k => (st28) _ k) ?_
  refine own_st (T' := T28) (g' := (mkF m 101 #[rv a1, own_jv p2, .second, .val .null, .val .null, own_jv z23, .second, iv cn, iv (-1 : Int32), iv (-1 : Int32), .unset, .unset, .unset] [(.int ((((((((1 : Int32) + s22) + s23) + s24) + (0 : Int32)) + s24) + (0 : Int32)) + s28))])) (fun _ k => XS.iadd X28.here hx rfl (hb hby d10_100) rfl k) ?_
  generalize hz101 : ((((((((1 : Int32) + s22) + s23) + s24) + (0 : Int32)) + s24) + (0 : Int32)) + s28) = z101
  refine own_st (T' := T28) (g' := (mkF m 103 #[rv a1, own_jv p2, .second, .val .null, .val .null, own_jv z23, .second, iv cn, iv (-1 : Int32), iv (-1 : Int32), iv z101, .unset, .unset] [])) (fun _ k => XS.istore X28.here hx rfl (hb hby d10_101) rfl (l' := #[rv a1, own_jv p2, .second, .val .null, .val .null, own_jv z23, .second, iv cn, iv (-1 : Int32), iv (-1 : Int32), iv z101, .unset, .unset]) rfl k) ?_
  have e00 : (0 : Int32).toInt = 0 := rfl
  have hB := own_body s22 s23 s24 (0 : Int32) s24 (0 : Int32) s28 (by omega) (by omega) (by omega) (by omega) (by omega) (by omega) (by omega)
  rw [hz101] at hB
  refine own_st (T' := T28) (g' := (mkF m 104 #[rv a1, own_jv p2, .second, .val .null, .val .null, own_jv z23, .second, iv cn, iv (-1 : Int32), iv (-1 : Int32), iv z101, .unset, .unset] [(.ref a1)])) (fun _ k => XS.aloadN X28.here hx rfl (hb hby d10_103) rfl rfl k) ?_
  obtain ⟨T29, X29, e29, st29⟩ := getF X28 hx hZ hown (host := "") (Or.inl (hw _ (List.mem_of_getElem? (i := 24) rfl))) Via.refl e28 Fj1 (g := (mkF m 104 #[rv a1, own_jv p2, .second, .val .null, .val .null, own_jv z23, .second, iv cn, iv (-1 : Int32), iv (-1 : Int32), iv z101, .unset, .unset] [(.ref a1)])) rfl rfl (hb hby d10_104)
  refine own_st (T' := T29) (g' := (mkF m 107 #[rv a1, own_jv p2, .second, .val .null, .val .null, own_jv z23, .second, iv cn, iv (-1 : Int32), iv (-1 : Int32), iv z101, .unset, .unset] [(.ref wo)])) (fun _ k => (st29) _ k) ?_
  refine own_st (T' := T29) (g' := (mkF m 109 #[rv a1, own_jv p2, .second, .val .null, .val .null, own_jv z23, .second, iv cn, iv (-1 : Int32), iv (-1 : Int32), iv z101, .unset, .unset] [(.int z101), (.ref wo)])) (fun _ k => XS.iload X29.here hx rfl (hb hby d10_107) rfl k) ?_
  obtain ⟨v30, T30, L30, X30, hQ30, st30⟩ := own_packS (Jvm.LawKit.callS X29 hx (y := (⟨"com/example/millrace/millrace/wire/ProtocolWriter", "sizeOfVarint", "(I)I"⟩ : MethodName)) hown (mvT hZ (hw _ (List.mem_of_getElem? (i := 73) rfl))) (mvT hZ (hw _ (List.mem_of_getElem? (i := 74) rfl))) (mvT hZ (hw _ (List.mem_of_getElem? (i := 12) rfl))) (mvT hZ (hw _ (List.mem_of_getElem? (i := 75) rfl))) (by decide) (backOf (W := 1) (rm12 l Z a0 hw [] z101 hJ n0 ZJ ) hZ (hw _ (List.mem_of_getElem? (i := 75) rfl)) (hw _ (List.mem_of_getElem? (i := 12) rfl)) (by decide) (by decide)) (g := (mkF m 109 #[rv a1, own_jv p2, .second, .val .null, .val .null, own_jv z23, .second, iv cn, iv (-1 : Int32), iv (-1 : Int32), iv z101, .unset, .unset] [(.int z101), (.ref wo)])) rfl (by rw [hml]; rfl) (argsL := [(.int z101)]) (rest := [(.ref wo)]) (lenOf own_pd10_1 rfl) rfl (by show 2 * 0 + _ ≤ _; exact Nat.le_of_eq rfl) (hb hby d10_109) (fun _ _ => ⟨rfl, e29, (by decide : 0 + 0 ≤ _), (by decide : 0 + 0 ≤ _)⟩))
  obtain ⟨rfl, N30q, e30⟩ := hQ30
  obtain ⟨lc30, X30, N30⟩ := own_loc X30 (Fr.app N28 N30q)
  obtain ⟨s30, hs30⟩ : ∃ z, z = own_f12_0 z101 := ⟨_, rfl⟩
  have hb30 := own_sv z101 (by omega) (by omega)
  rw [← hs30] at hb30
  rw [← hs30] at st30
  refine own_st (T' := T30) (g' := (mkF m 112 #[rv a1, own_jv p2, .second, .val .null, .val .null, own_jv z23, .second, iv cn, iv (-1 : Int32), iv (-1 : Int32), iv z101, .unset, .unset] [(.int s30), (.ref wo)])) (fun _ k => (st30) _ k) ?_
  refine own_st (T' := T30) (g' := (mkF m 114 #[rv a1, own_jv p2, .second, .val .null, .val .null, own_jv z23, .second, iv cn, iv (-1 : Int32), iv (-1 : Int32), iv z101, .unset, .unset] [(.int z101), (.int s30), (.ref wo)])) (fun _ k => XS.iload X30.here hx rfl (hb hby d10_112) rfl k) ?_
  refine own_st (T' := T30) (g' := (mkF m 115 #[rv a1, own_jv p2, .second, .val .null, .val .null, own_jv z23, .second, iv cn, iv (-1 : Int32), iv (-1 : Int32), iv z101, .unset, .unset] [(.int (s30 + z101)), (.ref wo)])) (fun _ k => XS.iadd X30.here hx rfl (hb hby d10_114) rfl k) ?_
  generalize hz115 : (s30 + z101) = z115
  have hm115 := own_add s30 z101 (by omega) (by omega)
  rw [hz115] at hm115
  obtain ⟨cq31, kq31, q31a, q31b, q31c⟩ := isOf hZ e30 Fj5
  obtain ⟨v31, T31, L31, X31, hQ31, st31⟩ := own_packV (X30.virtualBack hx (y := (⟨"com/example/millrace/millrace/wire/ProtocolWriter", "reserve", "(I)[B"⟩ : MethodName)) (z := (⟨"com/example/millrace/millrace/wire/ProtocolWriter", "reserve", "(I)[B"⟩ : MethodName)) hown (mvT hZ (hw _ (List.mem_of_getElem? (i := 79) rfl))) (mvT hZ (hw _ (List.mem_of_getElem? (i := 80) rfl))) (notFace_of_selects (args := #[]) (mvT hZ (hw _ (List.mem_of_getElem? (i := 82) rfl)))) (mvT hZ (hw _ (List.mem_of_getElem? (i := 82) rfl))) (mvT hZ (hw _ (List.mem_of_getElem? (i := 81) rfl))) (by decide) (backOf (W := 0) (rm14 l Z a0 hw [] wo z115 t P n hJ n0 ZJ Fj5 Fj6 Fj7 Fj8 gn_wo ne_wo_t gn_t hP0 hP (by omega) (by omega) hn0 hn) hZ (hw _ (List.mem_of_getElem? (i := 83) rfl)) (hw _ (List.mem_of_getElem? (i := 12) rfl)) (by decide) (by decide)) q31a q31c (g := (mkF m 115 #[rv a1, own_jv p2, .second, .val .null, .val .null, own_jv z23, .second, iv cn, iv (-1 : Int32), iv (-1 : Int32), iv z101, .unset, .unset] [(.int z115), (.ref wo)])) rfl (by rw [hml]; rfl) (Steps.refl _) (argsL := [(.int z115)]) (rest := []) (lenOf own_pd10_3 rfl) rfl (by show 2 * 0 + _ ≤ _; exact Nat.le_of_eq rfl) (hb hby d10_115) (fun _ _ => ⟨rfl, e30, (by decide : 0 + 1 ≤ _), (by decide : 0 + 2190 ≤ _)⟩))
  obtain ⟨N31q, Kq31, Eq31, t31, nn31, rfl, ht31, gn_t31, Fb31, Fp31, Yq31, hA31, hB31⟩ := hQ31
  obtain ⟨lc31, X31, N31⟩ := own_loc X31 (Fr.app N30 N31q)
  have ne_a1_t31 : a1 ≠ t31 := own_sep ht31 ne_a1_t Fj0.lt
  have ne_wo_t31 : wo ≠ t31 := own_sep ht31 ne_wo_t Fj5.lt
  have Zs31 : n0 ≤ T31.heap.size := Nat.le_trans ZJ Kq31.1
  have ws_t31 : t31 ∈ [a1, wo, t] ∨ h0.size ≤ t31 := ht31.elim (fun q => by rw [q]; exact (Or.inl (List.mem_of_getElem? (i := 2) rfl))) (fun q => Or.inr (Nat.le_trans KJ.1 q))
  have hto31 : t31 = t ∨ h0.size ≤ t31 := ht31.imp id (fun q => Nat.le_trans KJ.1 q)
  have Fa32 : Exa Z T31.heap a1 "com/example/millrace/millrace/wire/RecordBatchBuilder" := Fj0.keep Kq31
  have Fa33 : Fld Z T31.heap a1 "com/example/millrace/millrace/wire/RecordBatchBuilder" "out" "Lcom/example/millrace/millrace/wire/ProtocolWriter;" (.ref wo) := Fj1.keep Kq31 (ninS ne_a1_wo nin0)
  have Fa34 : Fld Z T31.heap a1 "com/example/millrace/millrace/wire/RecordBatchBuilder" "baseTimestamp" "J" (.long bt1) := Fj2.keep Kq31 (ninS ne_a1_wo nin0)
  have Fa35 : Fld Z T31.heap a1 "com/example/millrace/millrace/wire/RecordBatchBuilder" "maxTimestamp" "J" (.long mt1) := Fj3.keep Kq31 (ninS ne_a1_wo nin0)
  have Fa36 : Fld Z T31.heap a1 "com/example/millrace/millrace/wire/RecordBatchBuilder" "count" "I" (.int cn) := Fj4.keep Kq31 (ninS ne_a1_wo nin0)
  have Ke31 : Keep h0 T31.heap [a1, wo, t] := KJ.trans Kq31 (allS (Or.inl (List.mem_of_getElem? (i := 1) rfl)) all0)
  refine own_st (T' := T31) (g' := (mkF m 118 #[rv a1, own_jv p2, .second, .val .null, .val .null, own_jv z23, .second, iv cn, iv (-1 : Int32), iv (-1 : Int32), iv z101, .unset, .unset] [(.ref t31)])) (fun _ k => (st31) _ k) ?_
  refine own_st (T' := T31) (g' := (mkF m 120 #[rv a1, own_jv p2, .second, .val .null, .val .null, own_jv z23, .second, iv cn, iv (-1 : Int32), iv (-1 : Int32), iv z101, rv t31, .unset] [])) (fun _ k => XS.astore X31.here hx rfl (hb hby d10_118) rfl rfl (l' := #[rv a1, own_jv p2, .second, .val .null, .val .null, own_jv z23, .second, iv cn, iv (-1 : Int32), iv (-1 : Int32), iv z101, rv t31, .unset]) rfl k) ?_
  refine own_st (T' := T31) (g' := (mkF m 122 #[rv a1, own_jv p2, .second, .val .null, .val .null, own_jv z23, .second, iv cn, iv (-1 : Int32), iv (-1 : Int32), iv z101, rv t31, .unset] [(.ref t31)])) (fun _ k => XS.aload X31.here hx rfl (hb hby d10_120) rfl rfl k) ?_
  refine own_st (T' := T31) (g' := (mkF m 123 #[rv a1, own_jv p2, .second, .val .null, .val .null, own_jv z23, .second, iv cn, iv (-1 : Int32), iv (-1 : Int32), iv z101, rv t31, .unset] [(.ref a1), (.ref t31)])) (fun _ k => XS.aloadN X31.here hx rfl (hb hby d10_122) rfl rfl k) ?_
  obtain ⟨T37, X37, e37, st37⟩ := getF X31 hx hZ hown (host := "") (Or.inl (hw _ (List.mem_of_getElem? (i := 24) rfl))) Via.refl rfl Fa33 (g := (mkF m 123 #[rv a1, own_jv p2, .second, .val .null, .val .null, own_jv z23, .second, iv cn, iv (-1 : Int32), iv (-1 : Int32), iv z101, rv t31, .unset] [(.ref a1), (.ref t31)])) rfl rfl (hb hby d10_123)
  refine own_st (T' := T37) (g' := (mkF m 126 #[rv a1, own_jv p2, .second, .val .null, .val .null, own_jv z23, .second, iv cn, iv (-1 : Int32), iv (-1 : Int32), iv z101, rv t31, .unset] [(.ref wo), (.ref t31)])) (fun _ k => (st37) _ k) ?_
  obtain ⟨cq38, kq38, q38a, q38b, q38c⟩ := isOf hZ e37 Eq31
  obtain ⟨v38, T38, L38, X38, hQ38, st38⟩ := own_packV (X37.virtualBack hx (y := (⟨"com/example/millrace/millrace/wire/ProtocolWriter", "position", "()I"⟩ : MethodName)) (z := (⟨"com/example/millrace/millrace/wire/ProtocolWriter", "position", "()I"⟩ : MethodName)) hown (mvT hZ (hw _ (List.mem_of_getElem? (i := 53) rfl))) (mvT hZ (hw _ (List.mem_of_getElem? (i := 54) rfl))) (notFace_of_selects (args := #[]) (mvT hZ (hw _ (List.mem_of_getElem? (i := 56) rfl)))) (mvT hZ (hw _ (List.mem_of_getElem? (i := 56) rfl))) (mvT hZ (hw _ (List.mem_of_getElem? (i := 55) rfl))) (by decide) (backOf (W := 1) (rm9 l Z a0 hw [] wo P T31.heap n0 Zs31 Fp31) hZ (hw _ (List.mem_of_getElem? (i := 57) rfl)) (hw _ (List.mem_of_getElem? (i := 12) rfl)) (by decide) (by decide)) q38a q38c (g := (mkF m 126 #[rv a1, own_jv p2, .second, .val .null, .val .null, own_jv z23, .second, iv cn, iv (-1 : Int32), iv (-1 : Int32), iv z101, rv t31, .unset] [(.ref wo), (.ref t31)])) rfl (by rw [hml]; rfl) (Steps.refl _) (argsL := []) (rest := [(.ref t31)]) (lenOf own_pd10_4 rfl) rfl (by show 2 * 0 + _ ≤ _; exact Nat.le_of_eq rfl) (hb hby d10_126) (fun _ _ => ⟨rfl, e37, (by decide : 1 + 0 ≤ _), (by decide : 2190 + 0 ≤ _)⟩))
  obtain ⟨rfl, N38q, e38⟩ := hQ38
  obtain ⟨lc38, X38, N38⟩ := own_loc X38 (Fr.app N31 N38q)
  refine own_st (T' := T38) (g' := (mkF m 129 #[rv a1, own_jv p2, .second, .val .null, .val .null, own_jv z23, .second, iv cn, iv (-1 : Int32), iv (-1 : Int32), iv z101, rv t31, .unset] [(.int P), (.ref t31)])) (fun _ k => (st38) _ k) ?_
  refine own_st (T' := T38) (g' := (mkF m 131 #[rv a1, own_jv p2, .second, .val .null, .val .null, own_jv z23, .second, iv cn, iv (-1 : Int32), iv (-1 : Int32), iv z101, rv t31, .unset] [(.int z101), (.int P), (.ref t31)])) (fun _ k => XS.iload X38.here hx rfl (hb hby d10_129) rfl k) ?_
  obtain ⟨v39, T39, L39, X39, hQ39, st39⟩ := own_packS (Jvm.LawKit.callS X38 hx (y := (⟨"com/example/millrace/millrace/wire/ProtocolWriter", "putVarint", "([BII)I"⟩ : MethodName)) hown (mvT hZ (hw _ (List.mem_of_getElem? (i := 104) rfl))) (mvT hZ (hw _ (List.mem_of_getElem? (i := 105) rfl))) (mvT hZ (hw _ (List.mem_of_getElem? (i := 12) rfl))) (mvT hZ (hw _ (List.mem_of_getElem? (i := 106) rfl))) (by decide) (backOf (W := 0) (rm20 l Z a0 hw [] t31 P z101 nn31 T31.heap n0 Zs31 Yq31 gn_t31 (by omega) (by omega) (by omega) (by rw [← hs30]; omega)) hZ (hw _ (List.mem_of_getElem? (i := 106) rfl)) (hw _ (List.mem_of_getElem? (i := 12) rfl)) (by decide) (by decide)) (g := (mkF m 131 #[rv a1, own_jv p2, .second, .val .null, .val .null, own_jv z23, .second, iv cn, iv (-1 : Int32), iv (-1 : Int32), iv z101, rv t31, .unset] [(.int z101), (.int P), (.ref t31)])) rfl (by rw [hml]; rfl) (argsL := [(.ref t31), (.int P), (.int z101)]) (rest := []) (lenOf own_pd10_5 rfl) rfl (by show 2 * 0 + _ ≤ _; exact Nat.le_of_eq rfl) (hb hby d10_131) (fun _ _ => ⟨rfl, e38, (by decide : 1 + 0 ≤ _), (by decide : 2190 + 0 ≤ _)⟩))
  obtain ⟨r39, rfl, hr39, N39q, Kq39, Yq39⟩ := hQ39
  obtain ⟨lc39, X39, N39⟩ := own_loc X39 (Fr.app N38 N39q)
  have Zs39 : n0 ≤ T39.heap.size := Nat.le_trans Zs31 Kq39.1
  have Fa40 : Exa Z T39.heap a1 "com/example/millrace/millrace/wire/RecordBatchBuilder" := Fa32.keep Kq39
  have Fa41 : Fld Z T39.heap a1 "com/example/millrace/millrace/wire/RecordBatchBuilder" "out" "Lcom/example/millrace/millrace/wire/ProtocolWriter;" (.ref wo) := Fa33.keep Kq39 (ninS ne_a1_t31 nin0)
  have Fa42 : Fld Z T39.heap a1 "com/example/millrace/millrace/wire/RecordBatchBuilder" "baseTimestamp" "J" (.long bt1) := Fa34.keep Kq39 (ninS ne_a1_t31 nin0)
  have Fa43 : Fld Z T39.heap a1 "com/example/millrace/millrace/wire/RecordBatchBuilder" "maxTimestamp" "J" (.long mt1) := Fa35.keep Kq39 (ninS ne_a1_t31 nin0)
  have Fa44 : Fld Z T39.heap a1 "com/example/millrace/millrace/wire/RecordBatchBuilder" "count" "I" (.int cn) := Fa36.keep Kq39 (ninS ne_a1_t31 nin0)
  have Fa45 : Exa Z T39.heap wo "com/example/millrace/millrace/wire/ProtocolWriter" := Eq31.keep Kq39
  have Fa46 : Fld Z T39.heap wo "com/example/millrace/millrace/wire/ProtocolWriter" "bytes" "[B" (.ref t31) := Fb31.keep Kq39 (ninS ne_wo_t31 nin0)
  have Fa47 : Fld Z T39.heap wo "com/example/millrace/millrace/wire/ProtocolWriter" "position" "I" (.int P) := Fp31.keep Kq39 (ninS ne_wo_t31 nin0)
  have Ke39 : Keep h0 T39.heap [a1, wo, t] := Ke31.trans Kq39 (allS ws_t31 all0)
  rw [← hs30] at hr39
  refine own_st (T' := T39) (g' := (mkF m 134 #[rv a1, own_jv p2, .second, .val .null, .val .null, own_jv z23, .second, iv cn, iv (-1 : Int32), iv (-1 : Int32), iv z101, rv t31, .unset] [(.int r39)])) (fun _ k => (st39) _ k) ?_
  refine own_st (T' := T39) (g' := (mkF m 136 #[rv a1, own_jv p2, .second, .val .null, .val .null, own_jv z23, .second, iv cn, iv (-1 : Int32), iv (-1 : Int32), iv z101, rv t31, iv r39] [])) (fun _ k => XS.istore X39.here hx rfl (hb hby d10_134) rfl (l' := #[rv a1, own_jv p2, .second, .val .null, .val .null, own_jv z23, .second, iv cn, iv (-1 : Int32), iv (-1 : Int32), iv z101, rv t31, iv r39]) rfl k) ?_
  refine own_st (T' := T39) (g' := (mkF m 138 #[rv a1, own_jv p2, .second, .val .null, .val .null, own_jv z23, .second, iv cn, iv (-1 : Int32), iv (-1 : Int32), iv z101, rv t31, iv r39] [(.ref t31)])) (fun _ k => XS.aload X39.here hx rfl (hb hby d10_136) rfl rfl k) ?_
  refine own_st (T' := T39) (g' := (mkF m 140 #[rv a1, own_jv p2, .second, .val .null, .val .null, own_jv z23, .second, iv cn, iv (-1 : Int32), iv (-1 : Int32), iv z101, rv t31, iv r39] [(.int r39), (.ref t31)])) (fun _ k => XS.iload X39.here hx rfl (hb hby d10_138) rfl k) ?_
  refine own_st (T' := T39) (g' := (mkF m 143 #[rv a1, own_jv p2, .second, .val .null, .val .null, own_jv z23, .second, iv cn, iv (-1 : Int32), iv (-1 : Int32), iv z101, rv t31, iv (r39 + (1 : Int32))] [(.int r39), (.ref t31)])) (fun _ k => XS.iinc X39.here hx rfl (hb hby d10_140) rfl (l' := #[rv a1, own_jv p2, .second, .val .null, .val .null, own_jv z23, .second, iv cn, iv (-1 : Int32), iv (-1 : Int32), iv z101, rv t31, iv (r39 + (1 : Int32))]) rfl k) ?_
  have hi143 := own_add r39 1 (by rw [own_i1]; omega) (by rw [own_i1]; have := rng32 nn31; omega)
  rw [own_i1] at hi143
  have i1 := own_i1
  refine own_st (T' := T39) (g' := (mkF m 144 #[rv a1, own_jv p2, .second, .val .null, .val .null, own_jv z23, .second, iv cn, iv (-1 : Int32), iv (-1 : Int32), iv z101, rv t31, iv (r39 + (1 : Int32))] [(.int (0 : Int32)), (.int r39), (.ref t31)])) (fun _ k => XS.iconst X39.here hx rfl (hb hby d10_143) k) ?_
  obtain ⟨T48, h48, lc48, X48, e48, N48, ⟨sl48, vv48, W48⟩, Yn48, st48⟩ := own_stB X39 hx hZ rfl Yq39 (j := r39) (x := (0 : Int32)) (own_in r39 nn31 (by omega) (by omega)) N39 gn_t31 (g := (mkF m 144 #[rv a1, own_jv p2, .second, .val .null, .val .null, own_jv z23, .second, iv cn, iv (-1 : Int32), iv (-1 : Int32), iv z101, rv t31, iv (r39 + (1 : Int32))] [(.int (0 : Int32)), (.int r39), (.ref t31)])) rfl rfl (hb hby d10_144)
  have Zs48 : n0 ≤ h48.size := Nat.le_trans Zs39 (Keep.of_wr W48).1
  have Fa49 : Exa Z h48 a1 "com/example/millrace/millrace/wire/RecordBatchBuilder" := Fa40.wr W48
  have Fa50 : Fld Z h48 a1 "com/example/millrace/millrace/wire/RecordBatchBuilder" "out" "Lcom/example/millrace/millrace/wire/ProtocolWriter;" (.ref wo) := Fa41.other W48 (Or.inl ne_a1_t31)
  have Fa51 : Fld Z h48 a1 "com/example/millrace/millrace/wire/RecordBatchBuilder" "baseTimestamp" "J" (.long bt1) := Fa42.other W48 (Or.inl ne_a1_t31)
  have Fa52 : Fld Z h48 a1 "com/example/millrace/millrace/wire/RecordBatchBuilder" "maxTimestamp" "J" (.long mt1) := Fa43.other W48 (Or.inl ne_a1_t31)
  have Fa53 : Fld Z h48 a1 "com/example/millrace/millrace/wire/RecordBatchBuilder" "count" "I" (.int cn) := Fa44.other W48 (Or.inl ne_a1_t31)
  have Fa54 : Exa Z h48 wo "com/example/millrace/millrace/wire/ProtocolWriter" := Fa45.wr W48
  have Fa55 : Fld Z h48 wo "com/example/millrace/millrace/wire/ProtocolWriter" "bytes" "[B" (.ref t31) := Fa46.other W48 (Or.inl ne_wo_t31)
  have Fa56 : Fld Z h48 wo "com/example/millrace/millrace/wire/ProtocolWriter" "position" "I" (.int P) := Fa47.other W48 (Or.inl ne_wo_t31)
  have Ke48 : Keep h0 h48 [a1, wo, t] := Ke39.wr W48 ws_t31
  refine own_st (T' := T48) (g' := (mkF m 145 #[rv a1, own_jv p2, .second, .val .null, .val .null, own_jv z23, .second, iv cn, iv (-1 : Int32), iv (-1 : Int32), iv z101, rv t31, iv (r39 + (1 : Int32))] [])) (fun _ k => (st48) _ k) ?_
  refine own_st (T' := T48) (g' := (mkF m 147 #[rv a1, own_jv p2, .second, .val .null, .val .null, own_jv z23, .second, iv cn, iv (-1 : Int32), iv (-1 : Int32), iv z101, rv t31, iv (r39 + (1 : Int32))] [(.ref t31)])) (fun _ k => XS.aload X48.here hx rfl (hb hby d10_145) rfl rfl k) ?_
  refine own_st (T' := T48) (g' := (mkF m 149 #[rv a1, own_jv p2, .second, .val .null, .val .null, own_jv z23, .second, iv cn, iv (-1 : Int32), iv (-1 : Int32), iv z101, rv t31, iv (r39 + (1 : Int32))] [(.int (r39 + (1 : Int32))), (.ref t31)])) (fun _ k => XS.iload X48.here hx rfl (hb hby d10_147) rfl k) ?_
  refine own_st (T' := T48) (g' := (mkF m 151 #[rv a1, own_jv p2, .second, .val .null, .val .null, own_jv z23, .second, iv cn, iv (-1 : Int32), iv (-1 : Int32), iv z101, rv t31, iv (r39 + (1 : Int32))] [(.long z23), (.int (r39 + (1 : Int32))), (.ref t31)])) (fun _ k => XS.lload X48.here hx rfl (hb hby d10_149) rfl k) ?_
  obtain ⟨v57, T57, L57, X57, hQ57, st57⟩ := own_packS (Jvm.LawKit.callS X48 hx (y := (⟨"com/example/millrace/millrace/wire/ProtocolWriter", "putVarlong", "([BIJ)I"⟩ : MethodName)) hown (mvT hZ (hw _ (List.mem_of_getElem? (i := 110) rfl))) (mvT hZ (hw _ (List.mem_of_getElem? (i := 111) rfl))) (mvT hZ (hw _ (List.mem_of_getElem? (i := 12) rfl))) (mvT hZ (hw _ (List.mem_of_getElem? (i := 112) rfl))) (by decide) (backOf (W := 0) (rm22 l Z a0 hw [] t31 (r39 + (1 : Int32)) z23 nn31 h48 n0 Zs48 Yn48 gn_t31 (by omega) (by have := hb22; omega)) hZ (hw _ (List.mem_of_getElem? (i := 112) rfl)) (hw _ (List.mem_of_getElem? (i := 12) rfl)) (by decide) (by decide)) (g := (mkF m 151 #[rv a1, own_jv p2, .second, .val .null, .val .null, own_jv z23, .second, iv cn, iv (-1 : Int32), iv (-1 : Int32), iv z101, rv t31, iv (r39 + (1 : Int32))] [(.long z23), (.int (r39 + (1 : Int32))), (.ref t31)])) rfl (by rw [hml]; rfl) (argsL := [(.ref t31), (.int (r39 + (1 : Int32))), (.long z23)]) (rest := []) (lenOf own_pd10_6 rfl) rfl (by show 2 * 0 + _ ≤ _; exact Nat.le_of_eq rfl) (hb hby d10_151) (fun _ _ => ⟨rfl, e48, (by decide : 1 + 0 ≤ _), (by decide : 2190 + 0 ≤ _)⟩))
  obtain ⟨r57, rfl, hr57, N57q, Kq57, Yq57⟩ := hQ57
  obtain ⟨lc57, X57, N57⟩ := own_loc X57 (Fr.app N48 N57q)
  have Zs57 : n0 ≤ T57.heap.size := Nat.le_trans Zs48 Kq57.1
  have Fa58 : Exa Z T57.heap a1 "com/example/millrace/millrace/wire/RecordBatchBuilder" := Fa49.keep Kq57
  have Fa59 : Fld Z T57.heap a1 "com/example/millrace/millrace/wire/RecordBatchBuilder" "out" "Lcom/example/millrace/millrace/wire/ProtocolWriter;" (.ref wo) := Fa50.keep Kq57 (ninS ne_a1_t31 nin0)
  have Fa60 : Fld Z T57.heap a1 "com/example/millrace/millrace/wire/RecordBatchBuilder" "baseTimestamp" "J" (.long bt1) := Fa51.keep Kq57 (ninS ne_a1_t31 nin0)
  have Fa61 : Fld Z T57.heap a1 "com/example/millrace/millrace/wire/RecordBatchBuilder" "maxTimestamp" "J" (.long mt1) := Fa52.keep Kq57 (ninS ne_a1_t31 nin0)
  have Fa62 : Fld Z T57.heap a1 "com/example/millrace/millrace/wire/RecordBatchBuilder" "count" "I" (.int cn) := Fa53.keep Kq57 (ninS ne_a1_t31 nin0)
  have Fa63 : Exa Z T57.heap wo "com/example/millrace/millrace/wire/ProtocolWriter" := Fa54.keep Kq57
  have Fa64 : Fld Z T57.heap wo "com/example/millrace/millrace/wire/ProtocolWriter" "bytes" "[B" (.ref t31) := Fa55.keep Kq57 (ninS ne_wo_t31 nin0)
  have Fa65 : Fld Z T57.heap wo "com/example/millrace/millrace/wire/ProtocolWriter" "position" "I" (.int P) := Fa56.keep Kq57 (ninS ne_wo_t31 nin0)
  have Ke57 : Keep h0 T57.heap [a1, wo, t] := Ke48.trans Kq57 (allS ws_t31 all0)
  refine own_st (T' := T57) (g' := (mkF m 154 #[rv a1, own_jv p2, .second, .val .null, .val .null, own_jv z23, .second, iv cn, iv (-1 : Int32), iv (-1 : Int32), iv z101, rv t31, iv (r39 + (1 : Int32))] [(.int r57)])) (fun _ k => (st57) _ k) ?_
  refine own_st (T' := T57) (g' := (mkF m 156 #[rv a1, own_jv p2, .second, .val .null, .val .null, own_jv z23, .second, iv cn, iv (-1 : Int32), iv (-1 : Int32), iv z101, rv t31, iv r57] [])) (fun _ k => XS.istore X57.here hx rfl (hb hby d10_154) rfl (l' := #[rv a1, own_jv p2, .second, .val .null, .val .null, own_jv z23, .second, iv cn, iv (-1 : Int32), iv (-1 : Int32), iv z101, rv t31, iv r57]) rfl k) ?_
  refine own_st (T' := T57) (g' := (mkF m 158 #[rv a1, own_jv p2, .second, .val .null, .val .null, own_jv z23, .second, iv cn, iv (-1 : Int32), iv (-1 : Int32), iv z101, rv t31, iv r57] [(.ref t31)])) (fun _ k => XS.aload X57.here hx rfl (hb hby d10_156) rfl rfl k) ?_
  refine own_st (T' := T57) (g' := (mkF m 160 #[rv a1, own_jv p2, .second, .val .null, .val .null, own_jv z23, .second, iv cn, iv (-1 : Int32), iv (-1 : Int32), iv z101, rv t31, iv r57] [(.int r57), (.ref t31)])) (fun _ k => XS.iload X57.here hx rfl (hb hby d10_158) rfl k) ?_
  refine own_st (T' := T57) (g' := (mkF m 162 #[rv a1, own_jv p2, .second, .val .null, .val .null, own_jv z23, .second, iv cn, iv (-1 : Int32), iv (-1 : Int32), iv z101, rv t31, iv r57] [(.int cn), (.int r57), (.ref t31)])) (fun _ k => XS.iload X57.here hx rfl (hb hby d10_160) rfl k) ?_
  obtain ⟨v66, T66, L66, X66, hQ66, st66⟩ := own_packS (Jvm.LawKit.callS X57 hx (y := (⟨"com/example/millrace/millrace/wire/ProtocolWriter", "putVarint", "([BII)I"⟩ : MethodName)) hown (mvT hZ (hw _ (List.mem_of_getElem? (i := 104) rfl))) (mvT hZ (hw _ (List.mem_of_getElem? (i := 105) rfl))) (mvT hZ (hw _ (List.mem_of_getElem? (i := 12) rfl))) (mvT hZ (hw _ (List.mem_of_getElem? (i := 106) rfl))) (by decide) (backOf (W := 0) (rm20 l Z a0 hw [] t31 r57 cn nn31 T57.heap n0 Zs57 Yq57 gn_t31 (by omega) (by omega) (by omega) (by rw [← hs23]; omega)) hZ (hw _ (List.mem_of_getElem? (i := 106) rfl)) (hw _ (List.mem_of_getElem? (i := 12) rfl)) (by decide) (by decide)) (g := (mkF m 162 #[rv a1, own_jv p2, .second, .val .null, .val .null, own_jv z23, .second, iv cn, iv (-1 : Int32), iv (-1 : Int32), iv z101, rv t31, iv r57] [(.int cn), (.int r57), (.ref t31)])) rfl (by rw [hml]; rfl) (argsL := [(.ref t31), (.int r57), (.int cn)]) (rest := []) (lenOf own_pd10_5 rfl) rfl (by show 2 * 0 + _ ≤ _; exact Nat.le_of_eq rfl) (hb hby d10_162) (fun _ _ => ⟨rfl, rfl, (by decide : 1 + 0 ≤ _), (by decide : 2190 + 0 ≤ _)⟩))
  obtain ⟨r66, rfl, hr66, N66q, Kq66, Yq66⟩ := hQ66
  obtain ⟨lc66, X66, N66⟩ := own_loc X66 (Fr.app N57 N66q)
  have Zs66 : n0 ≤ T66.heap.size := Nat.le_trans Zs57 Kq66.1
  have Fa67 : Exa Z T66.heap a1 "com/example/millrace/millrace/wire/RecordBatchBuilder" := Fa58.keep Kq66
  have Fa68 : Fld Z T66.heap a1 "com/example/millrace/millrace/wire/RecordBatchBuilder" "out" "Lcom/example/millrace/millrace/wire/ProtocolWriter;" (.ref wo) := Fa59.keep Kq66 (ninS ne_a1_t31 nin0)
  have Fa69 : Fld Z T66.heap a1 "com/example/millrace/millrace/wire/RecordBatchBuilder" "baseTimestamp" "J" (.long bt1) := Fa60.keep Kq66 (ninS ne_a1_t31 nin0)
  have Fa70 : Fld Z T66.heap a1 "com/example/millrace/millrace/wire/RecordBatchBuilder" "maxTimestamp" "J" (.long mt1) := Fa61.keep Kq66 (ninS ne_a1_t31 nin0)
  have Fa71 : Fld Z T66.heap a1 "com/example/millrace/millrace/wire/RecordBatchBuilder" "count" "I" (.int cn) := Fa62.keep Kq66 (ninS ne_a1_t31 nin0)
  have Fa72 : Exa Z T66.heap wo "com/example/millrace/millrace/wire/ProtocolWriter" := Fa63.keep Kq66
  have Fa73 : Fld Z T66.heap wo "com/example/millrace/millrace/wire/ProtocolWriter" "bytes" "[B" (.ref t31) := Fa64.keep Kq66 (ninS ne_wo_t31 nin0)
  have Fa74 : Fld Z T66.heap wo "com/example/millrace/millrace/wire/ProtocolWriter" "position" "I" (.int P) := Fa65.keep Kq66 (ninS ne_wo_t31 nin0)
  have Ke66 : Keep h0 T66.heap [a1, wo, t] := Ke57.trans Kq66 (allS ws_t31 all0)
  rw [← hs23] at hr66
  refine own_st (T' := T66) (g' := (mkF m 165 #[rv a1, own_jv p2, .second, .val .null, .val .null, own_jv z23, .second, iv cn, iv (-1 : Int32), iv (-1 : Int32), iv z101, rv t31, iv r57] [(.int r66)])) (fun _ k => (st66) _ k) ?_
  refine own_st (T' := T66) (g' := (mkF m 167 #[rv a1, own_jv p2, .second, .val .null, .val .null, own_jv z23, .second, iv cn, iv (-1 : Int32), iv (-1 : Int32), iv z101, rv t31, iv r66] [])) (fun _ k => XS.istore X66.here hx rfl (hb hby d10_165) rfl (l' := #[rv a1, own_jv p2, .second, .val .null, .val .null, own_jv z23, .second, iv cn, iv (-1 : Int32), iv (-1 : Int32), iv z101, rv t31, iv r66]) rfl k) ?_
  refine own_st (T' := T66) (g' := (mkF m 169 #[rv a1, own_jv p2, .second, .val .null, .val .null, own_jv z23, .second, iv cn, iv (-1 : Int32), iv (-1 : Int32), iv z101, rv t31, iv r66] [(.ref t31)])) (fun _ k => XS.aload X66.here hx rfl (hb hby d10_167) rfl rfl k) ?_
  refine own_st (T' := T66) (g' := (mkF m 171 #[rv a1, own_jv p2, .second, .val .null, .val .null, own_jv z23, .second, iv cn, iv (-1 : Int32), iv (-1 : Int32), iv z101, rv t31, iv r66] [(.int r66), (.ref t31)])) (fun _ k => XS.iload X66.here hx rfl (hb hby d10_169) rfl k) ?_
  refine own_st (T' := T66) (g' := (mkF m 173 #[rv a1, own_jv p2, .second, .val .null, .val .null, own_jv z23, .second, iv cn, iv (-1 : Int32), iv (-1 : Int32), iv z101, rv t31, iv r66] [(.int (-1 : Int32)), (.int r66), (.ref t31)])) (fun _ k => XS.iload X66.here hx rfl (hb hby d10_171) rfl k) ?_
  obtain ⟨v75, T75, L75, X75, hQ75, st75⟩ := own_packS (Jvm.LawKit.callS X66 hx (y := (⟨"com/example/millrace/millrace/wire/ProtocolWriter", "putVarint", "([BII)I"⟩ : MethodName)) hown (mvT hZ (hw _ (List.mem_of_getElem? (i := 104) rfl))) (mvT hZ (hw _ (List.mem_of_getElem? (i := 105) rfl))) (mvT hZ (hw _ (List.mem_of_getElem? (i := 12) rfl))) (mvT hZ (hw _ (List.mem_of_getElem? (i := 106) rfl))) (by decide) (backOf (W := 0) (rm20 l Z a0 hw [] t31 r66 (-1 : Int32) nn31 T66.heap n0 Zs66 Yq66 gn_t31 (by omega) (by decide) (by decide) (by rw [← hs24]; omega)) hZ (hw _ (List.mem_of_getElem? (i := 106) rfl)) (hw _ (List.mem_of_getElem? (i := 12) rfl)) (by decide) (by decide)) (g := (mkF m 173 #[rv a1, own_jv p2, .second, .val .null, .val .null, own_jv z23, .second, iv cn, iv (-1 : Int32), iv (-1 : Int32), iv z101, rv t31, iv r66] [(.int (-1 : Int32)), (.int r66), (.ref t31)])) rfl (by rw [hml]; rfl) (argsL := [(.ref t31), (.int r66), (.int (-1 : Int32))]) (rest := []) (lenOf own_pd10_5 rfl) rfl (by show 2 * 0 + _ ≤ _; exact Nat.le_of_eq rfl) (hb hby d10_173) (fun _ _ => ⟨rfl, rfl, (by decide : 1 + 0 ≤ _), (by decide : 2190 + 0 ≤ _)⟩))
  obtain ⟨r75, rfl, hr75, N75q, Kq75, Yq75⟩ := hQ75
  obtain ⟨lc75, X75, N75⟩ := own_loc X75 (Fr.app N66 N75q)
  have Zs75 : n0 ≤ T75.heap.size := Nat.le_trans Zs66 Kq75.1
  have Fa76 : Exa Z T75.heap a1 "com/example/millrace/millrace/wire/RecordBatchBuilder" := Fa67.keep Kq75
  have Fa77 : Fld Z T75.heap a1 "com/example/millrace/millrace/wire/RecordBatchBuilder" "out" "Lcom/example/millrace/millrace/wire/ProtocolWriter;" (.ref wo) := Fa68.keep Kq75 (ninS ne_a1_t31 nin0)
  have Fa78 : Fld Z T75.heap a1 "com/example/millrace/millrace/wire/RecordBatchBuilder" "baseTimestamp" "J" (.long bt1) := Fa69.keep Kq75 (ninS ne_a1_t31 nin0)
  have Fa79 : Fld Z T75.heap a1 "com/example/millrace/millrace/wire/RecordBatchBuilder" "maxTimestamp" "J" (.long mt1) := Fa70.keep Kq75 (ninS ne_a1_t31 nin0)
  have Fa80 : Fld Z T75.heap a1 "com/example/millrace/millrace/wire/RecordBatchBuilder" "count" "I" (.int cn) := Fa71.keep Kq75 (ninS ne_a1_t31 nin0)
  have Fa81 : Exa Z T75.heap wo "com/example/millrace/millrace/wire/ProtocolWriter" := Fa72.keep Kq75
  have Fa82 : Fld Z T75.heap wo "com/example/millrace/millrace/wire/ProtocolWriter" "bytes" "[B" (.ref t31) := Fa73.keep Kq75 (ninS ne_wo_t31 nin0)
  have Fa83 : Fld Z T75.heap wo "com/example/millrace/millrace/wire/ProtocolWriter" "position" "I" (.int P) := Fa74.keep Kq75 (ninS ne_wo_t31 nin0)
  have Ke75 : Keep h0 T75.heap [a1, wo, t] := Ke66.trans Kq75 (allS ws_t31 all0)
  rw [← hs24] at hr75
  refine own_st (T' := T75) (g' := (mkF m 176 #[rv a1, own_jv p2, .second, .val .null, .val .null, own_jv z23, .second, iv cn, iv (-1 : Int32), iv (-1 : Int32), iv z101, rv t31, iv r66] [(.int r75)])) (fun _ k => (st75) _ k) ?_
  refine own_st (T' := T75) (g' := (mkF m 178 #[rv a1, own_jv p2, .second, .val .null, .val .null, own_jv z23, .second, iv cn, iv (-1 : Int32), iv (-1 : Int32), iv z101, rv t31, iv r75] [])) (fun _ k => XS.istore X75.here hx rfl (hb hby d10_176) rfl (l' := #[rv a1, own_jv p2, .second, .val .null, .val .null, own_jv z23, .second, iv cn, iv (-1 : Int32), iv (-1 : Int32), iv z101, rv t31, iv r75]) rfl k) ?_
  refine own_st (T' := T75) (g' := (mkF m 179 #[rv a1, own_jv p2, .second, .val .null, .val .null, own_jv z23, .second, iv cn, iv (-1 : Int32), iv (-1 : Int32), iv z101, rv t31, iv r75] [.null])) (fun _ k => XS.aloadN X75.here hx rfl (hb hby d10_178) rfl rfl k) ?_
  refine own_st (T' := T75) (g' := (mkF m 200 #[rv a1, own_jv p2, .second, .val .null, .val .null, own_jv z23, .second, iv cn, iv (-1 : Int32), iv (-1 : Int32), iv z101, rv t31, iv r75] [])) (fun _ k => XS.ifnullYes X75.here hx rfl (pc0 := 179) (pc' := 200) rfl (hb hby d10_179) rfl (by decide) (by decide) k) ?_
  refine own_st (T' := T75) (g' := (mkF m 202 #[rv a1, own_jv p2, .second, .val .null, .val .null, own_jv z23, .second, iv cn, iv (-1 : Int32), iv (-1 : Int32), iv z101, rv t31, iv r75] [(.ref t31)])) (fun _ k => XS.aload X75.here hx rfl (hb hby d10_200) rfl rfl k) ?_
  refine own_st (T' := T75) (g' := (mkF m 204 #[rv a1, own_jv p2, .second, .val .null, .val .null, own_jv z23, .second, iv cn, iv (-1 : Int32), iv (-1 : Int32), iv z101, rv t31, iv r75] [(.int r75), (.ref t31)])) (fun _ k => XS.iload X75.here hx rfl (hb hby d10_202) rfl k) ?_
  refine own_st (T' := T75) (g' := (mkF m 206 #[rv a1, own_jv p2, .second, .val .null, .val .null, own_jv z23, .second, iv cn, iv (-1 : Int32), iv (-1 : Int32), iv z101, rv t31, iv r75] [(.int (-1 : Int32)), (.int r75), (.ref t31)])) (fun _ k => XS.iload X75.here hx rfl (hb hby d10_204) rfl k) ?_
  obtain ⟨v84, T84, L84, X84, hQ84, st84⟩ := own_packS (Jvm.LawKit.callS X75 hx (y := (⟨"com/example/millrace/millrace/wire/ProtocolWriter", "putVarint", "([BII)I"⟩ : MethodName)) hown (mvT hZ (hw _ (List.mem_of_getElem? (i := 104) rfl))) (mvT hZ (hw _ (List.mem_of_getElem? (i := 105) rfl))) (mvT hZ (hw _ (List.mem_of_getElem? (i := 12) rfl))) (mvT hZ (hw _ (List.mem_of_getElem? (i := 106) rfl))) (by decide) (backOf (W := 0) (rm20 l Z a0 hw [] t31 r75 (-1 : Int32) nn31 T75.heap n0 Zs75 Yq75 gn_t31 (by omega) (by decide) (by decide) (by rw [← hs24]; omega)) hZ (hw _ (List.mem_of_getElem? (i := 106) rfl)) (hw _ (List.mem_of_getElem? (i := 12) rfl)) (by decide) (by decide)) (g := (mkF m 206 #[rv a1, own_jv p2, .second, .val .null, .val .null, own_jv z23, .second, iv cn, iv (-1 : Int32), iv (-1 : Int32), iv z101, rv t31, iv r75] [(.int (-1 : Int32)), (.int r75), (.ref t31)])) rfl (by rw [hml]; rfl) (argsL := [(.ref t31), (.int r75), (.int (-1 : Int32))]) (rest := []) (lenOf own_pd10_5 rfl) rfl (by show 2 * 0 + _ ≤ _; exact Nat.le_of_eq rfl) (hb hby d10_206) (fun _ _ => ⟨rfl, rfl, (by decide : 1 + 0 ≤ _), (by decide : 2190 + 0 ≤ _)⟩))
  obtain ⟨r84, rfl, hr84, N84q, Kq84, Yq84⟩ := hQ84
  obtain ⟨lc84, X84, N84⟩ := own_loc X84 (Fr.app N75 N84q)
  have Zs84 : n0 ≤ T84.heap.size := Nat.le_trans Zs75 Kq84.1
  have Fa85 : Exa Z T84.heap a1 "com/example/millrace/millrace/wire/RecordBatchBuilder" := Fa76.keep Kq84
  have Fa86 : Fld Z T84.heap a1 "com/example/millrace/millrace/wire/RecordBatchBuilder" "out" "Lcom/example/millrace/millrace/wire/ProtocolWriter;" (.ref wo) := Fa77.keep Kq84 (ninS ne_a1_t31 nin0)
  have Fa87 : Fld Z T84.heap a1 "com/example/millrace/millrace/wire/RecordBatchBuilder" "baseTimestamp" "J" (.long bt1) := Fa78.keep Kq84 (ninS ne_a1_t31 nin0)
  have Fa88 : Fld Z T84.heap a1 "com/example/millrace/millrace/wire/RecordBatchBuilder" "maxTimestamp" "J" (.long mt1) := Fa79.keep Kq84 (ninS ne_a1_t31 nin0)
  have Fa89 : Fld Z T84.heap a1 "com/example/millrace/millrace/wire/RecordBatchBuilder" "count" "I" (.int cn) := Fa80.keep Kq84 (ninS ne_a1_t31 nin0)
  have Fa90 : Exa Z T84.heap wo "com/example/millrace/millrace/wire/ProtocolWriter" := Fa81.keep Kq84
  have Fa91 : Fld Z T84.heap wo "com/example/millrace/millrace/wire/ProtocolWriter" "bytes" "[B" (.ref t31) := Fa82.keep Kq84 (ninS ne_wo_t31 nin0)
  have Fa92 : Fld Z T84.heap wo "com/example/millrace/millrace/wire/ProtocolWriter" "position" "I" (.int P) := Fa83.keep Kq84 (ninS ne_wo_t31 nin0)
  have Ke84 : Keep h0 T84.heap [a1, wo, t] := Ke75.trans Kq84 (allS ws_t31 all0)
  rw [← hs24] at hr84
  refine own_st (T' := T84) (g' := (mkF m 209 #[rv a1, own_jv p2, .second, .val .null, .val .null, own_jv z23, .second, iv cn, iv (-1 : Int32), iv (-1 : Int32), iv z101, rv t31, iv r75] [(.int r84)])) (fun _ k => (st84) _ k) ?_
  refine own_st (T' := T84) (g' := (mkF m 211 #[rv a1, own_jv p2, .second, .val .null, .val .null, own_jv z23, .second, iv cn, iv (-1 : Int32), iv (-1 : Int32), iv z101, rv t31, iv r84] [])) (fun _ k => XS.istore X84.here hx rfl (hb hby d10_209) rfl (l' := #[rv a1, own_jv p2, .second, .val .null, .val .null, own_jv z23, .second, iv cn, iv (-1 : Int32), iv (-1 : Int32), iv z101, rv t31, iv r84]) rfl k) ?_
  refine own_st (T' := T84) (g' := (mkF m 213 #[rv a1, own_jv p2, .second, .val .null, .val .null, own_jv z23, .second, iv cn, iv (-1 : Int32), iv (-1 : Int32), iv z101, rv t31, iv r84] [.null])) (fun _ k => XS.aload X84.here hx rfl (hb hby d10_211) rfl rfl k) ?_
  refine own_st (T' := T84) (g' := (mkF m 237 #[rv a1, own_jv p2, .second, .val .null, .val .null, own_jv z23, .second, iv cn, iv (-1 : Int32), iv (-1 : Int32), iv z101, rv t31, iv r84] [])) (fun _ k => XS.ifnullYes X84.here hx rfl (pc0 := 213) (pc' := 237) rfl (hb hby d10_213) rfl (by decide) (by decide) k) ?_
  refine own_st (T' := T84) (g' := (mkF m 239 #[rv a1, own_jv p2, .second, .val .null, .val .null, own_jv z23, .second, iv cn, iv (-1 : Int32), iv (-1 : Int32), iv z101, rv t31, iv r84] [(.ref t31)])) (fun _ k => XS.aload X84.here hx rfl (hb hby d10_237) rfl rfl k) ?_
  refine own_st (T' := T84) (g' := (mkF m 241 #[rv a1, own_jv p2, .second, .val .null, .val .null, own_jv z23, .second, iv cn, iv (-1 : Int32), iv (-1 : Int32), iv z101, rv t31, iv r84] [(.int r84), (.ref t31)])) (fun _ k => XS.iload X84.here hx rfl (hb hby d10_239) rfl k) ?_
  refine own_st (T' := T84) (g' := (mkF m 242 #[rv a1, own_jv p2, .second, .val .null, .val .null, own_jv z23, .second, iv cn, iv (-1 : Int32), iv (-1 : Int32), iv z101, rv t31, iv r84] [(.int (0 : Int32)), (.int r84), (.ref t31)])) (fun _ k => XS.iconst X84.here hx rfl (hb hby d10_241) k) ?_
  obtain ⟨v93, T93, L93, X93, hQ93, st93⟩ := own_packS (Jvm.LawKit.callS X84 hx (y := (⟨"com/example/millrace/millrace/wire/ProtocolWriter", "putVarint", "([BII)I"⟩ : MethodName)) hown (mvT hZ (hw _ (List.mem_of_getElem? (i := 104) rfl))) (mvT hZ (hw _ (List.mem_of_getElem? (i := 105) rfl))) (mvT hZ (hw _ (List.mem_of_getElem? (i := 12) rfl))) (mvT hZ (hw _ (List.mem_of_getElem? (i := 106) rfl))) (by decide) (backOf (W := 0) (rm20 l Z a0 hw [] t31 r84 (0 : Int32) nn31 T84.heap n0 Zs84 Yq84 gn_t31 (by omega) (by decide) (by decide) (by rw [← hs28]; omega)) hZ (hw _ (List.mem_of_getElem? (i := 106) rfl)) (hw _ (List.mem_of_getElem? (i := 12) rfl)) (by decide) (by decide)) (g := (mkF m 242 #[rv a1, own_jv p2, .second, .val .null, .val .null, own_jv z23, .second, iv cn, iv (-1 : Int32), iv (-1 : Int32), iv z101, rv t31, iv r84] [(.int (0 : Int32)), (.int r84), (.ref t31)])) rfl (by rw [hml]; rfl) (argsL := [(.ref t31), (.int r84), (.int (0 : Int32))]) (rest := []) (lenOf own_pd10_5 rfl) rfl (by show 2 * 0 + _ ≤ _; exact Nat.le_of_eq rfl) (hb hby d10_242) (fun _ _ => ⟨rfl, rfl, (by decide : 1 + 0 ≤ _), (by decide : 2190 + 0 ≤ _)⟩))
  obtain ⟨r93, rfl, hr93, N93q, Kq93, Yq93⟩ := hQ93
  obtain ⟨lc93, X93, N93⟩ := own_loc X93 (Fr.app N84 N93q)
  have Zs93 : n0 ≤ T93.heap.size := Nat.le_trans Zs84 Kq93.1
  have Fa94 : Exa Z T93.heap a1 "com/example/millrace/millrace/wire/RecordBatchBuilder" := Fa85.keep Kq93
  have Fa95 : Fld Z T93.heap a1 "com/example/millrace/millrace/wire/RecordBatchBuilder" "out" "Lcom/example/millrace/millrace/wire/ProtocolWriter;" (.ref wo) := Fa86.keep Kq93 (ninS ne_a1_t31 nin0)
  have Fa96 : Fld Z T93.heap a1 "com/example/millrace/millrace/wire/RecordBatchBuilder" "baseTimestamp" "J" (.long bt1) := Fa87.keep Kq93 (ninS ne_a1_t31 nin0)
  have Fa97 : Fld Z T93.heap a1 "com/example/millrace/millrace/wire/RecordBatchBuilder" "maxTimestamp" "J" (.long mt1) := Fa88.keep Kq93 (ninS ne_a1_t31 nin0)
  have Fa98 : Fld Z T93.heap a1 "com/example/millrace/millrace/wire/RecordBatchBuilder" "count" "I" (.int cn) := Fa89.keep Kq93 (ninS ne_a1_t31 nin0)
  have Fa99 : Exa Z T93.heap wo "com/example/millrace/millrace/wire/ProtocolWriter" := Fa90.keep Kq93
  have Fa100 : Fld Z T93.heap wo "com/example/millrace/millrace/wire/ProtocolWriter" "bytes" "[B" (.ref t31) := Fa91.keep Kq93 (ninS ne_wo_t31 nin0)
  have Fa101 : Fld Z T93.heap wo "com/example/millrace/millrace/wire/ProtocolWriter" "position" "I" (.int P) := Fa92.keep Kq93 (ninS ne_wo_t31 nin0)
  have Ke93 : Keep h0 T93.heap [a1, wo, t] := Ke84.trans Kq93 (allS ws_t31 all0)
  rw [← hs28] at hr93
  refine own_st (T' := T93) (g' := (mkF m 245 #[rv a1, own_jv p2, .second, .val .null, .val .null, own_jv z23, .second, iv cn, iv (-1 : Int32), iv (-1 : Int32), iv z101, rv t31, iv r84] [(.int r93)])) (fun _ k => (st93) _ k) ?_
  refine own_st (T' := T93) (g' := (mkF m 247 #[rv a1, own_jv p2, .second, .val .null, .val .null, own_jv z23, .second, iv cn, iv (-1 : Int32), iv (-1 : Int32), iv z101, rv t31, iv r93] [])) (fun _ k => XS.istore X93.here hx rfl (hb hby d10_245) rfl (l' := #[rv a1, own_jv p2, .second, .val .null, .val .null, own_jv z23, .second, iv cn, iv (-1 : Int32), iv (-1 : Int32), iv z101, rv t31, iv r93]) rfl k) ?_
  refine own_st (T' := T93) (g' := (mkF m 248 #[rv a1, own_jv p2, .second, .val .null, .val .null, own_jv z23, .second, iv cn, iv (-1 : Int32), iv (-1 : Int32), iv z101, rv t31, iv r93] [(.ref a1)])) (fun _ k => XS.aloadN X93.here hx rfl (hb hby d10_247) rfl rfl k) ?_
  obtain ⟨T102, X102, e102, st102⟩ := getF X93 hx hZ hown (host := "") (Or.inl (hw _ (List.mem_of_getElem? (i := 24) rfl))) Via.refl rfl Fa95 (g := (mkF m 248 #[rv a1, own_jv p2, .second, .val .null, .val .null, own_jv z23, .second, iv cn, iv (-1 : Int32), iv (-1 : Int32), iv z101, rv t31, iv r93] [(.ref a1)])) rfl rfl (hb hby d10_248)
  refine own_st (T' := T102) (g' := (mkF m 251 #[rv a1, own_jv p2, .second, .val .null, .val .null, own_jv z23, .second, iv cn, iv (-1 : Int32), iv (-1 : Int32), iv z101, rv t31, iv r93] [(.ref wo)])) (fun _ k => (st102) _ k) ?_
  refine own_st (T' := T102) (g' := (mkF m 253 #[rv a1, own_jv p2, .second, .val .null, .val .null, own_jv z23, .second, iv cn, iv (-1 : Int32), iv (-1 : Int32), iv z101, rv t31, iv r93] [(.int r93), (.ref wo)])) (fun _ k => XS.iload X102.here hx rfl (hb hby d10_251) rfl k) ?_
  obtain ⟨cq103, kq103, q103a, q103b, q103c⟩ := isOf hZ e102 Fa99
  obtain ⟨v103, T103, L103, X103, hQ103, st103⟩ := own_packV (X102.virtualBack hx (y := (⟨"com/example/millrace/millrace/wire/ProtocolWriter", "advanceTo", "(I)V"⟩ : MethodName)) (z := (⟨"com/example/millrace/millrace/wire/ProtocolWriter", "advanceTo", "(I)V"⟩ : MethodName)) hown (mvT hZ (hw _ (List.mem_of_getElem? (i := 114) rfl))) (mvT hZ (hw _ (List.mem_of_getElem? (i := 115) rfl))) (notFace_of_selects (args := #[]) (mvT hZ (hw _ (List.mem_of_getElem? (i := 117) rfl)))) (mvT hZ (hw _ (List.mem_of_getElem? (i := 117) rfl))) (mvT hZ (hw _ (List.mem_of_getElem? (i := 116) rfl))) (by decide) (backOf (W := 0) (rm23 l Z a0 hw [] wo r93 P t31 T93.heap n0 Zs93 Fa99 Fa101 Fa100 gn_wo) hZ (hw _ (List.mem_of_getElem? (i := 118) rfl)) (hw _ (List.mem_of_getElem? (i := 12) rfl)) (by decide) (by decide)) q103a q103c (g := (mkF m 253 #[rv a1, own_jv p2, .second, .val .null, .val .null, own_jv z23, .second, iv cn, iv (-1 : Int32), iv (-1 : Int32), iv z101, rv t31, iv r93] [(.int r93), (.ref wo)])) rfl (by rw [hml]; rfl) (Steps.refl _) (argsL := [(.int r93)]) (rest := []) (lenOf own_pd10_7 rfl) rfl (by show 2 * 0 + _ ≤ _; exact Nat.le_of_eq rfl) (hb hby d10_253) (fun _ _ => ⟨rfl, e102, (by decide : 1 + 0 ≤ _), (by decide : 2190 + 0 ≤ _)⟩))
  obtain ⟨rfl, N103q, Kq103, Fq103_0, Fq103_1, Fq103_2⟩ := hQ103
  obtain ⟨lc103, X103, N103⟩ := own_loc X103 (Fr.app N93 N103q)
  have Zs103 : n0 ≤ T103.heap.size := Nat.le_trans Zs93 Kq103.1
  have Fa104 : Exa Z T103.heap a1 "com/example/millrace/millrace/wire/RecordBatchBuilder" := Fa94.keep Kq103
  have Fa105 : Fld Z T103.heap a1 "com/example/millrace/millrace/wire/RecordBatchBuilder" "out" "Lcom/example/millrace/millrace/wire/ProtocolWriter;" (.ref wo) := Fa95.keep Kq103 (ninS ne_a1_wo nin0)
  have Fa106 : Fld Z T103.heap a1 "com/example/millrace/millrace/wire/RecordBatchBuilder" "baseTimestamp" "J" (.long bt1) := Fa96.keep Kq103 (ninS ne_a1_wo nin0)
  have Fa107 : Fld Z T103.heap a1 "com/example/millrace/millrace/wire/RecordBatchBuilder" "maxTimestamp" "J" (.long mt1) := Fa97.keep Kq103 (ninS ne_a1_wo nin0)
  have Fa108 : Fld Z T103.heap a1 "com/example/millrace/millrace/wire/RecordBatchBuilder" "count" "I" (.int cn) := Fa98.keep Kq103 (ninS ne_a1_wo nin0)
  have Fa109 : own_Y Z T103.heap t31 nn31 := Yq93.keep Kq103 (ninS (Ne.symm ne_wo_t31) nin0)
  have Ke103 : Keep h0 T103.heap [a1, wo, t] := Ke93.trans Kq103 (allS (Or.inl (List.mem_of_getElem? (i := 1) rfl)) all0)
  refine own_st (T' := T103) (g' := (mkF m 256 #[rv a1, own_jv p2, .second, .val .null, .val .null, own_jv z23, .second, iv cn, iv (-1 : Int32), iv (-1 : Int32), iv z101, rv t31, iv r93] [])) (fun _ k => (st103) _ k) ?_
  refine own_st (T' := T103) (g' := (mkF m 257 #[rv a1, own_jv p2, .second, .val .null, .val .null, own_jv z23, .second, iv cn, iv (-1 : Int32), iv (-1 : Int32), iv z101, rv t31, iv r93] [(.ref a1)])) (fun _ k => XS.aloadN X103.here hx rfl (hb hby d10_256) rfl rfl k) ?_
  refine own_st (T' := T103) (g' := (mkF m 258 #[rv a1, own_jv p2, .second, .val .null, .val .null, own_jv z23, .second, iv cn, iv (-1 : Int32), iv (-1 : Int32), iv z101, rv t31, iv r93] [(.ref a1), (.ref a1)])) (fun _ k => XS.aloadN X103.here hx rfl (hb hby d10_257) rfl rfl k) ?_
  obtain ⟨T110, X110, e110, st110⟩ := getF X103 hx hZ hown (host := "") (Or.inl (hw _ (List.mem_of_getElem? (i := 67) rfl))) Via.refl rfl Fa107 (g := (mkF m 258 #[rv a1, own_jv p2, .second, .val .null, .val .null, own_jv z23, .second, iv cn, iv (-1 : Int32), iv (-1 : Int32), iv z101, rv t31, iv r93] [(.ref a1), (.ref a1)])) rfl rfl (hb hby d10_258)
  refine own_st (T' := T110) (g' := (mkF m 261 #[rv a1, own_jv p2, .second, .val .null, .val .null, own_jv z23, .second, iv cn, iv (-1 : Int32), iv (-1 : Int32), iv z101, rv t31, iv r93] [(.long mt1), (.ref a1)])) (fun _ k => (st110) _ k) ?_
  refine own_st (T' := T110) (g' := (mkF m 262 #[rv a1, own_jv p2, .second, .val .null, .val .null, own_jv z23, .second, iv cn, iv (-1 : Int32), iv (-1 : Int32), iv z101, rv t31, iv r93] [(.long p2), (.long mt1), (.ref a1)])) (fun _ k => XS.lloadN X110.here hx rfl (hb hby d10_261) rfl k) ?_
  obtain ⟨v111, T111, L111, X111, hQ111, st111⟩ := own_packS (Jvm.LawKit.callS X110 hx (y := (⟨"java/lang/Math", "max", "(JJ)J"⟩ : MethodName)) hown (mvT hZ (hw _ (List.mem_of_getElem? (i := 119) rfl))) (mvT hZ (hw _ (List.mem_of_getElem? (i := 94) rfl))) (mvT hZ (hw _ (List.mem_of_getElem? (i := 15) rfl))) (mvT hZ (hw _ (List.mem_of_getElem? (i := 95) rfl))) (by decide) (backOf (W := 1) (rm17 l Z a0 hw [] mt1 p2 T103.heap n0 Zs103 ) hZ (hw _ (List.mem_of_getElem? (i := 95) rfl)) (hw _ (List.mem_of_getElem? (i := 15) rfl)) (by decide) (by decide)) (g := (mkF m 262 #[rv a1, own_jv p2, .second, .val .null, .val .null, own_jv z23, .second, iv cn, iv (-1 : Int32), iv (-1 : Int32), iv z101, rv t31, iv r93] [(.long p2), (.long mt1), (.ref a1)])) rfl (by rw [hml]; rfl) (argsL := [(.long mt1), (.long p2)]) (rest := [(.ref a1)]) (lenOf own_pd10_8 rfl) rfl (by show 2 * 0 + _ ≤ _; exact Nat.le_of_eq rfl) (hb hby d10_262) (fun _ _ => ⟨rfl, e110, (by decide : 1 + 0 ≤ _), (by decide : 2190 + 0 ≤ _)⟩))
  obtain ⟨rfl, N111q, e111⟩ := hQ111
  obtain ⟨lc111, X111, N111⟩ := own_loc X111 (Fr.app N103 N111q)
  refine own_st (T' := T111) (g' := (mkF m 265 #[rv a1, own_jv p2, .second, .val .null, .val .null, own_jv z23, .second, iv cn, iv (-1 : Int32), iv (-1 : Int32), iv z101, rv t31, iv r93] [(.long (own_f17_0 mt1 p2)), (.ref a1)])) (fun _ k => (st111) _ k) ?_
  obtain ⟨T112, h112, X112, e112, W112, st112⟩ := putF X111 hx hZ hown (host := "") (Or.inl (hw _ (List.mem_of_getElem? (i := 67) rfl))) Via.refl e111 Fa107 Fa104 (Or.inl (hw _ (List.mem_of_getElem? (i := 68) rfl))) (hw _ (List.mem_of_getElem? (i := 2) rfl)) (ty := .long) (by decide) rfl rfl (g := (mkF m 265 #[rv a1, own_jv p2, .second, .val .null, .val .null, own_jv z23, .second, iv cn, iv (-1 : Int32), iv (-1 : Int32), iv z101, rv t31, iv r93] [(.long (own_f17_0 mt1 p2)), (.ref a1)])) rfl rfl (hb hby d10_265)
  have Fw112 := Fa107.same W112
  have Zs112 : n0 ≤ h112.size := Nat.le_trans Zs103 (Keep.of_wr W112).1
  obtain ⟨lc112, X112, N112⟩ := own_loc X112 (Fr.snoc X112 N111 gn_a1)
  have Fa113 : Exa Z h112 a1 "com/example/millrace/millrace/wire/RecordBatchBuilder" := Fa104.wr W112
  have Fa114 : Fld Z h112 a1 "com/example/millrace/millrace/wire/RecordBatchBuilder" "out" "Lcom/example/millrace/millrace/wire/ProtocolWriter;" (.ref wo) := Fa105.other W112 (Or.inr (slot_ne (Or.inr (hw _ (List.mem_of_getElem? (i := 25) rfl))) (Or.inl (hw _ (List.mem_of_getElem? (i := 68) rfl))) (by decide) (t := (.object "com/example/millrace/millrace/wire/ProtocolWriter")) (t' := .long) (by decide) (by decide)))
  have Fa115 : Fld Z h112 a1 "com/example/millrace/millrace/wire/RecordBatchBuilder" "baseTimestamp" "J" (.long bt1) := Fa106.other W112 (Or.inr (slot_ne (Or.inl (hw _ (List.mem_of_getElem? (i := 66) rfl))) (Or.inl (hw _ (List.mem_of_getElem? (i := 68) rfl))) (by decide) (t := .long) (t' := .long) (by decide) (by decide)))
  have Fa116 : Fld Z h112 a1 "com/example/millrace/millrace/wire/RecordBatchBuilder" "count" "I" (.int cn) := Fa108.other W112 (Or.inr (slot_ne (Or.inl (hw _ (List.mem_of_getElem? (i := 64) rfl))) (Or.inl (hw _ (List.mem_of_getElem? (i := 68) rfl))) (by decide) (t := .int) (t' := .long) (by decide) (by decide)))
  have Fa117 : own_Y Z h112 t31 nn31 := Fa109.other W112 (Ne.symm ne_a1_t31)
  have Fa118 : Exa Z h112 wo "com/example/millrace/millrace/wire/ProtocolWriter" := Fq103_0.wr W112
  have Fa119 : Fld Z h112 wo "com/example/millrace/millrace/wire/ProtocolWriter" "position" "I" (.int r93) := Fq103_1.other W112 (Or.inl (Ne.symm ne_a1_wo))
  have Fa120 : Fld Z h112 wo "com/example/millrace/millrace/wire/ProtocolWriter" "bytes" "[B" (.ref t31) := Fq103_2.other W112 (Or.inl (Ne.symm ne_a1_wo))
  have Ke112 : Keep h0 h112 [a1, wo, t] := Ke103.wr W112 (Or.inl (List.mem_of_getElem? (i := 0) rfl))
  refine own_st (T' := T112) (g' := (mkF m 268 #[rv a1, own_jv p2, .second, .val .null, .val .null, own_jv z23, .second, iv cn, iv (-1 : Int32), iv (-1 : Int32), iv z101, rv t31, iv r93] [])) (fun _ k => (st112) _ k) ?_
  refine own_st (T' := T112) (g' := (mkF m 269 #[rv a1, own_jv p2, .second, .val .null, .val .null, own_jv z23, .second, iv cn, iv (-1 : Int32), iv (-1 : Int32), iv z101, rv t31, iv r93] [(.ref a1)])) (fun _ k => XS.aloadN X112.here hx rfl (hb hby d10_268) rfl rfl k) ?_
  refine own_st (T' := T112) (g' := (mkF m 270 #[rv a1, own_jv p2, .second, .val .null, .val .null, own_jv z23, .second, iv cn, iv (-1 : Int32), iv (-1 : Int32), iv z101, rv t31, iv r93] [(.ref a1), (.ref a1)])) (fun _ k => XS.dup X112.here hx rfl (hb hby d10_269) rfl rfl k) ?_
  obtain ⟨T121, X121, e121, st121⟩ := getF X112 hx hZ hown (host := "") (Or.inl (hw _ (List.mem_of_getElem? (i := 63) rfl))) Via.refl e112 Fa116 (g := (mkF m 270 #[rv a1, own_jv p2, .second, .val .null, .val .null, own_jv z23, .second, iv cn, iv (-1 : Int32), iv (-1 : Int32), iv z101, rv t31, iv r93] [(.ref a1), (.ref a1)])) rfl rfl (hb hby d10_270)
  refine own_st (T' := T121) (g' := (mkF m 273 #[rv a1, own_jv p2, .second, .val .null, .val .null, own_jv z23, .second, iv cn, iv (-1 : Int32), iv (-1 : Int32), iv z101, rv t31, iv r93] [(.int cn), (.ref a1)])) (fun _ k => (st121) _ k) ?_
  refine own_st (T' := T121) (g' := (mkF m 274 #[rv a1, own_jv p2, .second, .val .null, .val .null, own_jv z23, .second, iv cn, iv (-1 : Int32), iv (-1 : Int32), iv z101, rv t31, iv r93] [(.int (1 : Int32)), (.int cn), (.ref a1)])) (fun _ k => XS.iconst X121.here hx rfl (hb hby d10_273) k) ?_
  refine own_st (T' := T121) (g' := (mkF m 275 #[rv a1, own_jv p2, .second, .val .null, .val .null, own_jv z23, .second, iv cn, iv (-1 : Int32), iv (-1 : Int32), iv z101, rv t31, iv r93] [(.int (cn + (1 : Int32))), (.ref a1)])) (fun _ k => XS.iadd X121.here hx rfl (hb hby d10_274) rfl k) ?_
  obtain ⟨T122, h122, X122, e122, W122, st122⟩ := putF X121 hx hZ hown (host := "") (Or.inl (hw _ (List.mem_of_getElem? (i := 63) rfl))) Via.refl e121 Fa116 Fa113 (Or.inl (hw _ (List.mem_of_getElem? (i := 64) rfl))) (hw _ (List.mem_of_getElem? (i := 2) rfl)) (ty := .int) (by decide) rfl rfl (g := (mkF m 275 #[rv a1, own_jv p2, .second, .val .null, .val .null, own_jv z23, .second, iv cn, iv (-1 : Int32), iv (-1 : Int32), iv z101, rv t31, iv r93] [(.int (cn + (1 : Int32))), (.ref a1)])) rfl rfl (hb hby d10_275)
  have Fw122 := Fa116.same W122
  have Zs122 : n0 ≤ h122.size := Nat.le_trans Zs112 (Keep.of_wr W122).1
  obtain ⟨lc122, X122, N122⟩ := own_loc X122 (Fr.snoc X122 N112 gn_a1)
  have Fa123 : Exa Z h122 a1 "com/example/millrace/millrace/wire/RecordBatchBuilder" := Fa113.wr W122
  have Fa124 : Fld Z h122 a1 "com/example/millrace/millrace/wire/RecordBatchBuilder" "out" "Lcom/example/millrace/millrace/wire/ProtocolWriter;" (.ref wo) := Fa114.other W122 (Or.inr (slot_ne (Or.inr (hw _ (List.mem_of_getElem? (i := 25) rfl))) (Or.inl (hw _ (List.mem_of_getElem? (i := 64) rfl))) (by decide) (t := (.object "com/example/millrace/millrace/wire/ProtocolWriter")) (t' := .int) (by decide) (by decide)))
  have Fa125 : Fld Z h122 a1 "com/example/millrace/millrace/wire/RecordBatchBuilder" "baseTimestamp" "J" (.long bt1) := Fa115.other W122 (Or.inr (slot_ne (Or.inl (hw _ (List.mem_of_getElem? (i := 66) rfl))) (Or.inl (hw _ (List.mem_of_getElem? (i := 64) rfl))) (by decide) (t := .long) (t' := .int) (by decide) (by decide)))
  have Fa126 : own_Y Z h122 t31 nn31 := Fa117.other W122 (Ne.symm ne_a1_t31)
  have Fa127 : Exa Z h122 wo "com/example/millrace/millrace/wire/ProtocolWriter" := Fa118.wr W122
  have Fa128 : Fld Z h122 wo "com/example/millrace/millrace/wire/ProtocolWriter" "position" "I" (.int r93) := Fa119.other W122 (Or.inl (Ne.symm ne_a1_wo))
  have Fa129 : Fld Z h122 wo "com/example/millrace/millrace/wire/ProtocolWriter" "bytes" "[B" (.ref t31) := Fa120.other W122 (Or.inl (Ne.symm ne_a1_wo))
  have Fa130 : Fld Z h122 a1 "com/example/millrace/millrace/wire/RecordBatchBuilder" "maxTimestamp" "J" (.long (own_f17_0 mt1 p2)) := Fw112.other W122 (Or.inr (slot_ne (Or.inl (hw _ (List.mem_of_getElem? (i := 68) rfl))) (Or.inl (hw _ (List.mem_of_getElem? (i := 64) rfl))) (by decide) (t := .long) (t' := .int) (by decide) (by decide)))
  have Ke122 : Keep h0 h122 [a1, wo, t] := Ke112.wr W122 (Or.inl (List.mem_of_getElem? (i := 0) rfl))
  refine own_st (T' := T122) (g' := (mkF m 278 #[rv a1, own_jv p2, .second, .val .null, .val .null, own_jv z23, .second, iv cn, iv (-1 : Int32), iv (-1 : Int32), iv z101, rv t31, iv r93] [])) (fun _ k => (st122) _ k) ?_
  exact own_end (Q := Q10_11 Z a1 p2 wo t bt mt cn P n h0 n0) (v := none) X122 (fun _ => rfl) (fun fs hr => X122.returnOut hx Bd.returns (hb hby d10_278) hr) (by rw [e122]; exact ⟨rfl, N122, Ke122, ⟨t31, nn31, r93, bt1, _, hto31, gn_t31, by omega, by omega, by omega, by omega, ⟨Fa123, Fa124, Fa125, Fa130, Fw122, Fa127, Fa129, Fa128, Fa126⟩⟩⟩) (by decide) (by decide)
theorem own_ef10_10 (m : MethodId) (x0 : Addr) (x1 : Int64) (x3 : Addr) : entryFrame m #[(.ref x0), (.long x1), .null, (.ref x3)] 13 = mkF m 0 #[rv x0, own_jv x1, .second, .val .null, rv x3, .unset, .unset, .unset, .unset, .unset, .unset, .unset, .unset] [] := by first | (simp [entryFrame, mkF, argsToLocals, Value.category]; done) | rfl
def Q10_10 (Z : State) (a1 : Addr) (p2 : Int64) (vy : Addr) (wo t : Addr) (bt mt : Int64) (cn P n : Int32) (vl : Int32) (h0 : Heap) (n0 : Nat) (v : Option Value) (h : Heap) (L : List Loc) : Prop := v = none ∧ Fr n0 L ∧ Keep h0 h [a1, wo, t] ∧ ∃ (t' : Addr) (n' P' : Int32) (bt' mt' : Int64), (t' = t ∨ h0.size ≤ t') ∧ n0 ≤ t' ∧ P.toInt ≤ P'.toInt ∧ P'.toInt ≤ P.toInt + 21 + vl.toInt ∧ (n'.toInt ≤ P.toInt + 21 + vl.toInt ∨ n'.toInt ≤ 2 * n.toInt) ∧ 0 < n'.toInt ∧ own_S Z h a1 wo t' bt' mt' (cn + (1 : Int32)) P' n'
set_option maxRecDepth 65536 in
set_option maxHeartbeats 40000000 in
theorem rm10_10 (l : Launch) (Z : State) (a0 : Array Value) (hw : ∀ d ∈ tables_1, d.before a0 Z = true) (ws : List Jvm.Cond) (a1 : Addr) (p2 : Int64) (vy : Addr) (wo t : Addr) (bt mt : Int64) (cn P n : Int32) (vl : Int32) (h0 : Heap) (n0 : Nat) (Z0 : n0 ≤ h0.size) (E_a1 : Exa Z h0 a1 "com/example/millrace/millrace/wire/RecordBatchBuilder") (F_o : Fld Z h0 a1 "com/example/millrace/millrace/wire/RecordBatchBuilder" "out" "Lcom/example/millrace/millrace/wire/ProtocolWriter;" (.ref wo)) (F_bt : Fld Z h0 a1 "com/example/millrace/millrace/wire/RecordBatchBuilder" "baseTimestamp" "J" (.long bt)) (F_mt : Fld Z h0 a1 "com/example/millrace/millrace/wire/RecordBatchBuilder" "maxTimestamp" "J" (.long mt)) (F_c : Fld Z h0 a1 "com/example/millrace/millrace/wire/RecordBatchBuilder" "count" "I" (.int cn)) (E_wo : Exa Z h0 wo "com/example/millrace/millrace/wire/ProtocolWriter") (F_b : Fld Z h0 wo "com/example/millrace/millrace/wire/ProtocolWriter" "bytes" "[B" (.ref t)) (F_p : Fld Z h0 wo "com/example/millrace/millrace/wire/ProtocolWriter" "position" "I" (.int P)) (Y_t : own_Y Z h0 t n) (Y_v : own_Y Z h0 vy vl) (gn_a1 : n0 ≤ a1) (gn_wo : n0 ≤ wo) (gn_t : n0 ≤ t) (ne_a1_wo : a1 ≠ wo) (ne_a1_t : a1 ≠ t) (ne_wo_t : wo ≠ t) (ne_a1_vy : a1 ≠ vy) (ne_wo_vy : wo ≠ vy) (ne_t_vy : t ≠ vy) (hc0 : 0 ≤ cn.toInt) (hc1 : cn.toInt ≤ 100) (hP0 : 0 ≤ P.toInt) (hP : P.toInt ≤ 90) (hn0 : 0 < n.toInt) (hn : n.toInt ≤ 300) (hv0 : 0 ≤ vl.toInt) (hv1 : vl.toInt ≤ 1023) :
    MetFree l (⟨"com/example/millrace/millrace/wire/RecordBatchBuilder", "append", "(J[B[B)V"⟩ : MethodName) (head1 (Jvm.Cond.code (⟨"com/example/millrace/millrace/wire/RecordBatchBuilder", "append", "(J[B[B)V"⟩ : MethodName) prog_130_method_6_code 13 none :: ws) ({ frames := 5, cells := 1, slots := 2190, locals := 110 } : Room)) (fun a U => a = #[(.ref a1), (.long p2), .null, (.ref vy)] ∧ Z.Warmed39 U.vm ∧ U.heap = h0) (fun _ _ _ _ _ => True) (fun _ U o U' => ∃ v L, o = .returned v ∧ Q10_10 Z a1 p2 vy wo t bt mt cn P n vl h0 n0 v U'.heap L ∧ FrameEnd U o U' L ({ frames := 5, cells := 1, slots := 2190, locals := 110 } : Room).cells ({ frames := 5, cells := 1, slots := 2190, locals := 110 } : Room).slots) := by
  refine MetFree.of_bodySF (plainFor_of_name own_pn10) hisR ?_
  intro p e s m args below meth c s₁ Bd hml0 hP hK
  obtain ⟨rfl, hZ, hh⟩ := hP
  have hx := Bd.exec
  have hby := Bd.bytes
  have hml : c.maxLocals = 13 := hml0
  have hown : s.vm.findClass "com/example/millrace/millrace/wire/RecordBatchBuilder" = some m.cls := findClass_of_methodNamed Bd.named
  have hnm := (name_of_methodNamed Bd.named Bd.method).1
  have hlk := Bd.notSynchronized
  have X0 : Stand p l e ({ frames := 5, cells := 1, slots := 2190, locals := 110 } : Room) s m #[(.ref a1), (.long p2), .null, (.ref vy)] below meth c s₁ [] 0 0 := Stand.of_body Bd
  have e0 : s₁.heap = h0 := by rw [← hh, Bd.state]; rfl
  have N0 := Fr.nil n0
  show own_Goes p e below (fun o U' => ∃ v L, o = .returned v ∧ Q10_10 Z a1 p2 vy wo t bt mt cn P n vl h0 n0 v U'.heap L ∧ FrameEnd s o U' L ({ frames := 5, cells := 1, slots := 2190, locals := 110 } : Room).cells ({ frames := 5, cells := 1, slots := 2190, locals := 110 } : Room).slots) s₁ (entryFrame m #[(.ref a1), (.long p2), .null, (.ref vy)] 13)
  refine own_st (T' := s₁) (g' := mkF m 0 #[rv a1, own_jv p2, .second, .val .null, rv vy, .unset, .unset, .unset, .unset, .unset, .unset, .unset, .unset] []) (fun _ k => castTop (own_ef10_10 m a1 p2 vy) k) ?_
  suffices J17 : ∀ (T' : State) (h' : Heap) (lc' : List Loc) (bt1 mt1 : Int64) (X' : Stand p l e ({ frames := 5, cells := 1, slots := 2190, locals := 110 } : Room) s m #[(.ref a1), (.long p2), .null, (.ref vy)] below meth c T' lc' 0 0) (e' : T'.heap = h') (N' : Fr n0 lc') (Zh' : n0 ≤ h'.size) (Kp' : Keep h0 h' [a1, wo, t]) (Fj0 : Exa Z h' a1 "com/example/millrace/millrace/wire/RecordBatchBuilder") (Fj1 : Fld Z h' a1 "com/example/millrace/millrace/wire/RecordBatchBuilder" "out" "Lcom/example/millrace/millrace/wire/ProtocolWriter;" (.ref wo)) (Fj2 : Fld Z h' a1 "com/example/millrace/millrace/wire/RecordBatchBuilder" "baseTimestamp" "J" (.long bt1)) (Fj3 : Fld Z h' a1 "com/example/millrace/millrace/wire/RecordBatchBuilder" "maxTimestamp" "J" (.long mt1)) (Fj4 : Fld Z h' a1 "com/example/millrace/millrace/wire/RecordBatchBuilder" "count" "I" (.int cn)) (Fj5 : Exa Z h' wo "com/example/millrace/millrace/wire/ProtocolWriter") (Fj6 : Fld Z h' wo "com/example/millrace/millrace/wire/ProtocolWriter" "bytes" "[B" (.ref t)) (Fj7 : Fld Z h' wo "com/example/millrace/millrace/wire/ProtocolWriter" "position" "I" (.int P)) (Fj8 : own_Y Z h' t n) (Fj9 : own_Y Z h' vy vl), own_Goes p e below (fun o U' => ∃ v L, o = .returned v ∧ Q10_10 Z a1 p2 vy wo t bt mt cn P n vl h0 n0 v U'.heap L ∧ FrameEnd s o U' L ({ frames := 5, cells := 1, slots := 2190, locals := 110 } : Room).cells ({ frames := 5, cells := 1, slots := 2190, locals := 110 } : Room).slots) T' (mkF m 17 #[rv a1, own_jv p2, .second, .val .null, rv vy, .unset, .unset, .unset, .unset, .unset, .unset, .unset, .unset] []) by
    refine own_st (T' := s₁) (g' := (mkF m 1 #[rv a1, own_jv p2, .second, .val .null, rv vy, .unset, .unset, .unset, .unset, .unset, .unset, .unset, .unset] [(.ref a1)])) (fun _ k => XS.aloadN X0.here hx rfl (hb hby d10_0) rfl rfl k) ?_
    obtain ⟨T1, X1, e1, st1⟩ := getF X0 hx hZ hown (host := "") (Or.inl (hw _ (List.mem_of_getElem? (i := 63) rfl))) Via.refl e0 F_c (g := (mkF m 1 #[rv a1, own_jv p2, .second, .val .null, rv vy, .unset, .unset, .unset, .unset, .unset, .unset, .unset, .unset] [(.ref a1)])) rfl rfl (hb hby d10_1)
    refine own_st (T' := T1) (g' := (mkF m 4 #[rv a1, own_jv p2, .second, .val .null, rv vy, .unset, .unset, .unset, .unset, .unset, .unset, .unset, .unset] [(.int cn)])) (fun _ k => (st1) _ k) ?_
    by_cases hc4 : cn = (0 : Int32)
    · refine own_st (T' := T1) (g' := (mkF m 7 #[rv a1, own_jv p2, .second, .val .null, rv vy, .unset, .unset, .unset, .unset, .unset, .unset, .unset, .unset] [])) (fun _ k => XS.ifNo X1.here hx rfl (hb hby d10_4) rfl ((if0 _ _).trans (teq hc4).2) k) ?_
      refine own_st (T' := T1) (g' := (mkF m 8 #[rv a1, own_jv p2, .second, .val .null, rv vy, .unset, .unset, .unset, .unset, .unset, .unset, .unset, .unset] [(.ref a1)])) (fun _ k => XS.aloadN X1.here hx rfl (hb hby d10_7) rfl rfl k) ?_
      refine own_st (T' := T1) (g' := (mkF m 9 #[rv a1, own_jv p2, .second, .val .null, rv vy, .unset, .unset, .unset, .unset, .unset, .unset, .unset, .unset] [(.long p2), (.ref a1)])) (fun _ k => XS.lloadN X1.here hx rfl (hb hby d10_8) rfl k) ?_
      obtain ⟨T2, h2, X2, e2, W2, st2⟩ := putF X1 hx hZ hown (host := "") (Or.inl (hw _ (List.mem_of_getElem? (i := 65) rfl))) Via.refl e1 F_bt E_a1 (Or.inl (hw _ (List.mem_of_getElem? (i := 66) rfl))) (hw _ (List.mem_of_getElem? (i := 2) rfl)) (ty := .long) (by decide) rfl rfl (g := (mkF m 9 #[rv a1, own_jv p2, .second, .val .null, rv vy, .unset, .unset, .unset, .unset, .unset, .unset, .unset, .unset] [(.long p2), (.ref a1)])) rfl rfl (hb hby d10_9)
      have Fw2 := F_bt.same W2
      have Zs2 : n0 ≤ h2.size := Nat.le_trans Z0 (Keep.of_wr W2).1
      obtain ⟨lc2, X2, N2⟩ := own_loc X2 (Fr.snoc X2 N0 gn_a1)
      have Fa3 : Exa Z h2 a1 "com/example/millrace/millrace/wire/RecordBatchBuilder" := E_a1.wr W2
      have Fa4 : Fld Z h2 a1 "com/example/millrace/millrace/wire/RecordBatchBuilder" "out" "Lcom/example/millrace/millrace/wire/ProtocolWriter;" (.ref wo) := F_o.other W2 (Or.inr (slot_ne (Or.inr (hw _ (List.mem_of_getElem? (i := 25) rfl))) (Or.inl (hw _ (List.mem_of_getElem? (i := 66) rfl))) (by decide) (t := (.object "com/example/millrace/millrace/wire/ProtocolWriter")) (t' := .long) (by decide) (by decide)))
      have Fa5 : Fld Z h2 a1 "com/example/millrace/millrace/wire/RecordBatchBuilder" "maxTimestamp" "J" (.long mt) := F_mt.other W2 (Or.inr (slot_ne (Or.inl (hw _ (List.mem_of_getElem? (i := 68) rfl))) (Or.inl (hw _ (List.mem_of_getElem? (i := 66) rfl))) (by decide) (t := .long) (t' := .long) (by decide) (by decide)))
      have Fa6 : Fld Z h2 a1 "com/example/millrace/millrace/wire/RecordBatchBuilder" "count" "I" (.int cn) := F_c.other W2 (Or.inr (slot_ne (Or.inl (hw _ (List.mem_of_getElem? (i := 64) rfl))) (Or.inl (hw _ (List.mem_of_getElem? (i := 66) rfl))) (by decide) (t := .int) (t' := .long) (by decide) (by decide)))
      have Fa7 : Exa Z h2 wo "com/example/millrace/millrace/wire/ProtocolWriter" := E_wo.wr W2
      have Fa8 : Fld Z h2 wo "com/example/millrace/millrace/wire/ProtocolWriter" "bytes" "[B" (.ref t) := F_b.other W2 (Or.inl (Ne.symm ne_a1_wo))
      have Fa9 : Fld Z h2 wo "com/example/millrace/millrace/wire/ProtocolWriter" "position" "I" (.int P) := F_p.other W2 (Or.inl (Ne.symm ne_a1_wo))
      have Fa10 : own_Y Z h2 t n := Y_t.other W2 (Ne.symm ne_a1_t)
      have Fa11 : own_Y Z h2 vy vl := Y_v.other W2 (Ne.symm ne_a1_vy)
      have Ke2 : Keep h0 h2 [a1, wo, t] := (Keep.refl h0 [a1, wo, t]).wr W2 (Or.inl (List.mem_of_getElem? (i := 0) rfl))
      refine own_st (T' := T2) (g' := (mkF m 12 #[rv a1, own_jv p2, .second, .val .null, rv vy, .unset, .unset, .unset, .unset, .unset, .unset, .unset, .unset] [])) (fun _ k => (st2) _ k) ?_
      refine own_st (T' := T2) (g' := (mkF m 13 #[rv a1, own_jv p2, .second, .val .null, rv vy, .unset, .unset, .unset, .unset, .unset, .unset, .unset, .unset] [(.ref a1)])) (fun _ k => XS.aloadN X2.here hx rfl (hb hby d10_12) rfl rfl k) ?_
      refine own_st (T' := T2) (g' := (mkF m 14 #[rv a1, own_jv p2, .second, .val .null, rv vy, .unset, .unset, .unset, .unset, .unset, .unset, .unset, .unset] [(.long p2), (.ref a1)])) (fun _ k => XS.lloadN X2.here hx rfl (hb hby d10_13) rfl k) ?_
      obtain ⟨T12, h12, X12, e12, W12, st12⟩ := putF X2 hx hZ hown (host := "") (Or.inl (hw _ (List.mem_of_getElem? (i := 67) rfl))) Via.refl e2 Fa5 Fa3 (Or.inl (hw _ (List.mem_of_getElem? (i := 68) rfl))) (hw _ (List.mem_of_getElem? (i := 2) rfl)) (ty := .long) (by decide) rfl rfl (g := (mkF m 14 #[rv a1, own_jv p2, .second, .val .null, rv vy, .unset, .unset, .unset, .unset, .unset, .unset, .unset, .unset] [(.long p2), (.ref a1)])) rfl rfl (hb hby d10_14)
      have Fw12 := Fa5.same W12
      have Zs12 : n0 ≤ h12.size := Nat.le_trans Zs2 (Keep.of_wr W12).1
      obtain ⟨lc12, X12, N12⟩ := own_loc X12 (Fr.snoc X12 N2 gn_a1)
      have Fa13 : Exa Z h12 a1 "com/example/millrace/millrace/wire/RecordBatchBuilder" := Fa3.wr W12
      have Fa14 : Fld Z h12 a1 "com/example/millrace/millrace/wire/RecordBatchBuilder" "out" "Lcom/example/millrace/millrace/wire/ProtocolWriter;" (.ref wo) := Fa4.other W12 (Or.inr (slot_ne (Or.inr (hw _ (List.mem_of_getElem? (i := 25) rfl))) (Or.inl (hw _ (List.mem_of_getElem? (i := 68) rfl))) (by decide) (t := (.object "com/example/millrace/millrace/wire/ProtocolWriter")) (t' := .long) (by decide) (by decide)))
      have Fa15 : Fld Z h12 a1 "com/example/millrace/millrace/wire/RecordBatchBuilder" "count" "I" (.int cn) := Fa6.other W12 (Or.inr (slot_ne (Or.inl (hw _ (List.mem_of_getElem? (i := 64) rfl))) (Or.inl (hw _ (List.mem_of_getElem? (i := 68) rfl))) (by decide) (t := .int) (t' := .long) (by decide) (by decide)))
      have Fa16 : Exa Z h12 wo "com/example/millrace/millrace/wire/ProtocolWriter" := Fa7.wr W12
      have Fa17 : Fld Z h12 wo "com/example/millrace/millrace/wire/ProtocolWriter" "bytes" "[B" (.ref t) := Fa8.other W12 (Or.inl (Ne.symm ne_a1_wo))
      have Fa18 : Fld Z h12 wo "com/example/millrace/millrace/wire/ProtocolWriter" "position" "I" (.int P) := Fa9.other W12 (Or.inl (Ne.symm ne_a1_wo))
      have Fa19 : own_Y Z h12 t n := Fa10.other W12 (Ne.symm ne_a1_t)
      have Fa20 : own_Y Z h12 vy vl := Fa11.other W12 (Ne.symm ne_a1_vy)
      have Fa21 : Fld Z h12 a1 "com/example/millrace/millrace/wire/RecordBatchBuilder" "baseTimestamp" "J" (.long p2) := Fw2.other W12 (Or.inr (slot_ne (Or.inl (hw _ (List.mem_of_getElem? (i := 66) rfl))) (Or.inl (hw _ (List.mem_of_getElem? (i := 68) rfl))) (by decide) (t := .long) (t' := .long) (by decide) (by decide)))
      have Ke12 : Keep h0 h12 [a1, wo, t] := Ke2.wr W12 (Or.inl (List.mem_of_getElem? (i := 0) rfl))
      refine own_st (T' := T12) (g' := (mkF m 17 #[rv a1, own_jv p2, .second, .val .null, rv vy, .unset, .unset, .unset, .unset, .unset, .unset, .unset, .unset] [])) (fun _ k => (st12) _ k) ?_
      exact J17 _ _ _ _ _ X12 e12 N12 Zs12 Ke12 Fa13 Fa14 Fa21 Fw12 Fa15 Fa16 Fa17 Fa18 Fa19 Fa20
    · refine own_st (T' := T1) (g' := (mkF m 17 #[rv a1, own_jv p2, .second, .val .null, rv vy, .unset, .unset, .unset, .unset, .unset, .unset, .unset, .unset] [])) (fun _ k => XS.ifYes X1.here hx rfl (pc0 := 4) (pc' := 17) rfl (hb hby d10_4) rfl ((if0 _ _).trans (feq hc4).2) (by decide) (by decide) k) ?_
      exact J17 _ _ _ _ _ X1 e1 N0 Z0 (Keep.refl h0 [a1, wo, t]) E_a1 F_o F_bt F_mt F_c E_wo F_b F_p Y_t Y_v
  intro TJ hJ lcJ bt1 mt1 XJ eJ NJ ZJ KJ Fj0 Fj1 Fj2 Fj3 Fj4 Fj5 Fj6 Fj7 Fj8 Fj9
  refine own_st (T' := TJ) (g' := (mkF m 18 #[rv a1, own_jv p2, .second, .val .null, rv vy, .unset, .unset, .unset, .unset, .unset, .unset, .unset, .unset] [(.long p2)])) (fun _ k => XS.lloadN XJ.here hx rfl (hb hby d10_17) rfl k) ?_
  refine own_st (T' := TJ) (g' := (mkF m 19 #[rv a1, own_jv p2, .second, .val .null, rv vy, .unset, .unset, .unset, .unset, .unset, .unset, .unset, .unset] [(.ref a1), (.long p2)])) (fun _ k => XS.aloadN XJ.here hx rfl (hb hby d10_18) rfl rfl k) ?_
  obtain ⟨T22, X22, e22, st22⟩ := getF XJ hx hZ hown (host := "") (Or.inl (hw _ (List.mem_of_getElem? (i := 65) rfl))) Via.refl eJ Fj2 (g := (mkF m 19 #[rv a1, own_jv p2, .second, .val .null, rv vy, .unset, .unset, .unset, .unset, .unset, .unset, .unset, .unset] [(.ref a1), (.long p2)])) rfl rfl (hb hby d10_19)
  refine own_st (T' := T22) (g' := (mkF m 22 #[rv a1, own_jv p2, .second, .val .null, rv vy, .unset, .unset, .unset, .unset, .unset, .unset, .unset, .unset] [(.long bt1), (.long p2)])) (fun _ k => (st22) _ k) ?_
  refine own_st (T' := T22) (g' := (mkF m 23 #[rv a1, own_jv p2, .second, .val .null, rv vy, .unset, .unset, .unset, .unset, .unset, .unset, .unset, .unset] [(.long (p2 - bt1))])) (fun _ k => XS.lsub X22.here hx rfl (hb hby d10_22) rfl k) ?_
  generalize hz23 : (p2 - bt1) = z23
  refine own_st (T' := T22) (g' := (mkF m 25 #[rv a1, own_jv p2, .second, .val .null, rv vy, own_jv z23, .second, .unset, .unset, .unset, .unset, .unset, .unset] [])) (fun _ k => XS.lstore X22.here hx rfl (hb hby d10_23) rfl (l' := #[rv a1, own_jv p2, .second, .val .null, rv vy, own_jv z23, .second, .unset, .unset, .unset, .unset, .unset, .unset]) rfl k) ?_
  refine own_st (T' := T22) (g' := (mkF m 26 #[rv a1, own_jv p2, .second, .val .null, rv vy, own_jv z23, .second, .unset, .unset, .unset, .unset, .unset, .unset] [(.ref a1)])) (fun _ k => XS.aloadN X22.here hx rfl (hb hby d10_25) rfl rfl k) ?_
  obtain ⟨T23, X23, e23, st23⟩ := getF X22 hx hZ hown (host := "") (Or.inl (hw _ (List.mem_of_getElem? (i := 63) rfl))) Via.refl e22 Fj4 (g := (mkF m 26 #[rv a1, own_jv p2, .second, .val .null, rv vy, own_jv z23, .second, .unset, .unset, .unset, .unset, .unset, .unset] [(.ref a1)])) rfl rfl (hb hby d10_26)
  refine own_st (T' := T23) (g' := (mkF m 29 #[rv a1, own_jv p2, .second, .val .null, rv vy, own_jv z23, .second, .unset, .unset, .unset, .unset, .unset, .unset] [(.int cn)])) (fun _ k => (st23) _ k) ?_
  refine own_st (T' := T23) (g' := (mkF m 31 #[rv a1, own_jv p2, .second, .val .null, rv vy, own_jv z23, .second, iv cn, .unset, .unset, .unset, .unset, .unset] [])) (fun _ k => XS.istore X23.here hx rfl (hb hby d10_29) rfl (l' := #[rv a1, own_jv p2, .second, .val .null, rv vy, own_jv z23, .second, iv cn, .unset, .unset, .unset, .unset, .unset]) rfl k) ?_
  refine own_st (T' := T23) (g' := (mkF m 32 #[rv a1, own_jv p2, .second, .val .null, rv vy, own_jv z23, .second, iv cn, .unset, .unset, .unset, .unset, .unset] [.null])) (fun _ k => XS.aloadN X23.here hx rfl (hb hby d10_31) rfl rfl k) ?_
  refine own_st (T' := T23) (g' := (mkF m 35 #[rv a1, own_jv p2, .second, .val .null, rv vy, own_jv z23, .second, iv cn, .unset, .unset, .unset, .unset, .unset] [])) (fun _ k => XS.ifnonnullNo X23.here hx rfl (hb hby d10_32) rfl k) ?_
  refine own_st (T' := T23) (g' := (mkF m 36 #[rv a1, own_jv p2, .second, .val .null, rv vy, own_jv z23, .second, iv cn, .unset, .unset, .unset, .unset, .unset] [(.int (-1 : Int32))])) (fun _ k => XS.iconst X23.here hx rfl (hb hby d10_35) k) ?_
  refine own_st (T' := T23) (g' := (mkF m 41 #[rv a1, own_jv p2, .second, .val .null, rv vy, own_jv z23, .second, iv cn, .unset, .unset, .unset, .unset, .unset] [(.int (-1 : Int32))])) (fun _ k => XS.goto X23.here hx rfl (pc0 := 36) (pc' := 41) rfl (hb hby d10_36) (by decide) (by decide) k) ?_
  refine own_st (T' := T23) (g' := (mkF m 43 #[rv a1, own_jv p2, .second, .val .null, rv vy, own_jv z23, .second, iv cn, iv (-1 : Int32), .unset, .unset, .unset, .unset] [])) (fun _ k => XS.istore X23.here hx rfl (hb hby d10_41) rfl (l' := #[rv a1, own_jv p2, .second, .val .null, rv vy, own_jv z23, .second, iv cn, iv (-1 : Int32), .unset, .unset, .unset, .unset]) rfl k) ?_
  refine own_st (T' := T23) (g' := (mkF m 45 #[rv a1, own_jv p2, .second, .val .null, rv vy, own_jv z23, .second, iv cn, iv (-1 : Int32), .unset, .unset, .unset, .unset] [(.ref vy)])) (fun _ k => XS.aload X23.here hx rfl (hb hby d10_43) rfl rfl k) ?_
  refine own_st (T' := T23) (g' := (mkF m 52 #[rv a1, own_jv p2, .second, .val .null, rv vy, own_jv z23, .second, iv cn, iv (-1 : Int32), .unset, .unset, .unset, .unset] [])) (fun _ k => XS.ifnonnullYes X23.here hx rfl (pc0 := 45) (pc' := 52) rfl (hb hby d10_45) rfl (by decide) (by decide) k) ?_
  refine own_st (T' := T23) (g' := (mkF m 54 #[rv a1, own_jv p2, .second, .val .null, rv vy, own_jv z23, .second, iv cn, iv (-1 : Int32), .unset, .unset, .unset, .unset] [(.ref vy)])) (fun _ k => XS.aload X23.here hx rfl (hb hby d10_52) rfl rfl k) ?_
  refine own_st (T' := T23) (g' := (mkF m 55 #[rv a1, own_jv p2, .second, .val .null, rv vy, own_jv z23, .second, iv cn, iv (-1 : Int32), .unset, .unset, .unset, .unset] [(.int vl)])) (fun _ k => (own_alen X23 hx hZ e23 Fj9 (g := (mkF m 54 #[rv a1, own_jv p2, .second, .val .null, rv vy, own_jv z23, .second, iv cn, iv (-1 : Int32), .unset, .unset, .unset, .unset] [(.ref vy)])) rfl rfl (hb hby d10_54)) _ k) ?_
  refine own_st (T' := T23) (g' := (mkF m 57 #[rv a1, own_jv p2, .second, .val .null, rv vy, own_jv z23, .second, iv cn, iv (-1 : Int32), iv vl, .unset, .unset, .unset] [])) (fun _ k => XS.istore X23.here hx rfl (hb hby d10_55) rfl (l' := #[rv a1, own_jv p2, .second, .val .null, rv vy, own_jv z23, .second, iv cn, iv (-1 : Int32), iv vl, .unset, .unset, .unset]) rfl k) ?_
  refine own_st (T' := T23) (g' := (mkF m 58 #[rv a1, own_jv p2, .second, .val .null, rv vy, own_jv z23, .second, iv cn, iv (-1 : Int32), iv vl, .unset, .unset, .unset] [(.int (1 : Int32))])) (fun _ k => XS.iconst X23.here hx rfl (hb hby d10_57) k) ?_
  refine own_st (T' := T23) (g' := (mkF m 60 #[rv a1, own_jv p2, .second, .val .null, rv vy, own_jv z23, .second, iv cn, iv (-1 : Int32), iv vl, .unset, .unset, .unset] [(.long z23), (.int (1 : Int32))])) (fun _ k => XS.lload X23.here hx rfl (hb hby d10_58) rfl k) ?_
  obtain ⟨v24, T24, L24, X24, hQ24, st24⟩ := own_packS (Jvm.LawKit.callS X23 hx (y := (⟨"com/example/millrace/millrace/wire/ProtocolWriter", "sizeOfVarlong", "(J)I"⟩ : MethodName)) hown (mvT hZ (hw _ (List.mem_of_getElem? (i := 69) rfl))) (mvT hZ (hw _ (List.mem_of_getElem? (i := 70) rfl))) (mvT hZ (hw _ (List.mem_of_getElem? (i := 12) rfl))) (mvT hZ (hw _ (List.mem_of_getElem? (i := 71) rfl))) (by decide) (backOf (W := 1) (rm11 l Z a0 hw [] z23 hJ n0 ZJ ) hZ (hw _ (List.mem_of_getElem? (i := 71) rfl)) (hw _ (List.mem_of_getElem? (i := 12) rfl)) (by decide) (by decide)) (g := (mkF m 60 #[rv a1, own_jv p2, .second, .val .null, rv vy, own_jv z23, .second, iv cn, iv (-1 : Int32), iv vl, .unset, .unset, .unset] [(.long z23), (.int (1 : Int32))])) rfl (by rw [hml]; rfl) (argsL := [(.long z23)]) (rest := [(.int (1 : Int32))]) (lenOf own_pd10_0 rfl) rfl (by show 2 * 0 + _ ≤ _; exact Nat.le_of_eq rfl) (hb hby d10_60) (fun _ _ => ⟨rfl, e23, (by decide : 0 + 0 ≤ _), (by decide : 0 + 0 ≤ _)⟩))
  obtain ⟨rfl, N24q, e24⟩ := hQ24
  obtain ⟨lc24, X24, N24⟩ := own_loc X24 (Fr.app NJ N24q)
  obtain ⟨s24, hs24⟩ : ∃ z, z = own_f11_0 z23 := ⟨_, rfl⟩
  have hb24 := own_vl z23
  rw [← hs24] at hb24
  rw [← hs24] at st24
  refine own_st (T' := T24) (g' := (mkF m 63 #[rv a1, own_jv p2, .second, .val .null, rv vy, own_jv z23, .second, iv cn, iv (-1 : Int32), iv vl, .unset, .unset, .unset] [(.int s24), (.int (1 : Int32))])) (fun _ k => (st24) _ k) ?_
  refine own_st (T' := T24) (g' := (mkF m 64 #[rv a1, own_jv p2, .second, .val .null, rv vy, own_jv z23, .second, iv cn, iv (-1 : Int32), iv vl, .unset, .unset, .unset] [(.int ((1 : Int32) + s24))])) (fun _ k => XS.iadd X24.here hx rfl (hb hby d10_63) rfl k) ?_
  refine own_st (T' := T24) (g' := (mkF m 66 #[rv a1, own_jv p2, .second, .val .null, rv vy, own_jv z23, .second, iv cn, iv (-1 : Int32), iv vl, .unset, .unset, .unset] [(.int cn), (.int ((1 : Int32) + s24))])) (fun _ k => XS.iload X24.here hx rfl (hb hby d10_64) rfl k) ?_
  obtain ⟨v25, T25, L25, X25, hQ25, st25⟩ := own_packS (Jvm.LawKit.callS X24 hx (y := (⟨"com/example/millrace/millrace/wire/ProtocolWriter", "sizeOfVarint", "(I)I"⟩ : MethodName)) hown (mvT hZ (hw _ (List.mem_of_getElem? (i := 73) rfl))) (mvT hZ (hw _ (List.mem_of_getElem? (i := 74) rfl))) (mvT hZ (hw _ (List.mem_of_getElem? (i := 12) rfl))) (mvT hZ (hw _ (List.mem_of_getElem? (i := 75) rfl))) (by decide) (backOf (W := 1) (rm12 l Z a0 hw [] cn hJ n0 ZJ ) hZ (hw _ (List.mem_of_getElem? (i := 75) rfl)) (hw _ (List.mem_of_getElem? (i := 12) rfl)) (by decide) (by decide)) (g := (mkF m 66 #[rv a1, own_jv p2, .second, .val .null, rv vy, own_jv z23, .second, iv cn, iv (-1 : Int32), iv vl, .unset, .unset, .unset] [(.int cn), (.int ((1 : Int32) + s24))])) rfl (by rw [hml]; rfl) (argsL := [(.int cn)]) (rest := [(.int ((1 : Int32) + s24))]) (lenOf own_pd10_1 rfl) rfl (by show 2 * 0 + _ ≤ _; exact Nat.le_of_eq rfl) (hb hby d10_66) (fun _ _ => ⟨rfl, e24, (by decide : 0 + 0 ≤ _), (by decide : 0 + 0 ≤ _)⟩))
  obtain ⟨rfl, N25q, e25⟩ := hQ25
  obtain ⟨lc25, X25, N25⟩ := own_loc X25 (Fr.app N24 N25q)
  obtain ⟨s25, hs25⟩ : ∃ z, z = own_f12_0 cn := ⟨_, rfl⟩
  have hb25 := own_sv cn (by omega) (by omega)
  rw [← hs25] at hb25
  rw [← hs25] at st25
  refine own_st (T' := T25) (g' := (mkF m 69 #[rv a1, own_jv p2, .second, .val .null, rv vy, own_jv z23, .second, iv cn, iv (-1 : Int32), iv vl, .unset, .unset, .unset] [(.int s25), (.int ((1 : Int32) + s24))])) (fun _ k => (st25) _ k) ?_
  refine own_st (T' := T25) (g' := (mkF m 70 #[rv a1, own_jv p2, .second, .val .null, rv vy, own_jv z23, .second, iv cn, iv (-1 : Int32), iv vl, .unset, .unset, .unset] [(.int (((1 : Int32) + s24) + s25))])) (fun _ k => XS.iadd X25.here hx rfl (hb hby d10_69) rfl k) ?_
  refine own_st (T' := T25) (g' := (mkF m 72 #[rv a1, own_jv p2, .second, .val .null, rv vy, own_jv z23, .second, iv cn, iv (-1 : Int32), iv vl, .unset, .unset, .unset] [(.int (-1 : Int32)), (.int (((1 : Int32) + s24) + s25))])) (fun _ k => XS.iload X25.here hx rfl (hb hby d10_70) rfl k) ?_
  obtain ⟨v26, T26, L26, X26, hQ26, st26⟩ := own_packS (Jvm.LawKit.callS X25 hx (y := (⟨"com/example/millrace/millrace/wire/ProtocolWriter", "sizeOfVarint", "(I)I"⟩ : MethodName)) hown (mvT hZ (hw _ (List.mem_of_getElem? (i := 73) rfl))) (mvT hZ (hw _ (List.mem_of_getElem? (i := 74) rfl))) (mvT hZ (hw _ (List.mem_of_getElem? (i := 12) rfl))) (mvT hZ (hw _ (List.mem_of_getElem? (i := 75) rfl))) (by decide) (backOf (W := 1) (rm12 l Z a0 hw [] (-1 : Int32) hJ n0 ZJ ) hZ (hw _ (List.mem_of_getElem? (i := 75) rfl)) (hw _ (List.mem_of_getElem? (i := 12) rfl)) (by decide) (by decide)) (g := (mkF m 72 #[rv a1, own_jv p2, .second, .val .null, rv vy, own_jv z23, .second, iv cn, iv (-1 : Int32), iv vl, .unset, .unset, .unset] [(.int (-1 : Int32)), (.int (((1 : Int32) + s24) + s25))])) rfl (by rw [hml]; rfl) (argsL := [(.int (-1 : Int32))]) (rest := [(.int (((1 : Int32) + s24) + s25))]) (lenOf own_pd10_1 rfl) rfl (by show 2 * 0 + _ ≤ _; exact Nat.le_of_eq rfl) (hb hby d10_72) (fun _ _ => ⟨rfl, e25, (by decide : 0 + 0 ≤ _), (by decide : 0 + 0 ≤ _)⟩))
  obtain ⟨rfl, N26q, e26⟩ := hQ26
  obtain ⟨lc26, X26, N26⟩ := own_loc X26 (Fr.app N25 N26q)
  obtain ⟨s26, hs26⟩ : ∃ z, z = own_f12_0 (-1 : Int32) := ⟨_, rfl⟩
  have hb26 := own_sv (-1 : Int32) (by decide) (by decide)
  rw [← hs26] at hb26
  rw [← hs26] at st26
  refine own_st (T' := T26) (g' := (mkF m 75 #[rv a1, own_jv p2, .second, .val .null, rv vy, own_jv z23, .second, iv cn, iv (-1 : Int32), iv vl, .unset, .unset, .unset] [(.int s26), (.int (((1 : Int32) + s24) + s25))])) (fun _ k => (st26) _ k) ?_
  refine own_st (T' := T26) (g' := (mkF m 76 #[rv a1, own_jv p2, .second, .val .null, rv vy, own_jv z23, .second, iv cn, iv (-1 : Int32), iv vl, .unset, .unset, .unset] [(.int ((((1 : Int32) + s24) + s25) + s26))])) (fun _ k => XS.iadd X26.here hx rfl (hb hby d10_75) rfl k) ?_
  refine own_st (T' := T26) (g' := (mkF m 78 #[rv a1, own_jv p2, .second, .val .null, rv vy, own_jv z23, .second, iv cn, iv (-1 : Int32), iv vl, .unset, .unset, .unset] [(.int (-1 : Int32)), (.int ((((1 : Int32) + s24) + s25) + s26))])) (fun _ k => XS.iload X26.here hx rfl (hb hby d10_76) rfl k) ?_
  refine own_st (T' := T26) (g' := (mkF m 79 #[rv a1, own_jv p2, .second, .val .null, rv vy, own_jv z23, .second, iv cn, iv (-1 : Int32), iv vl, .unset, .unset, .unset] [(.int (0 : Int32)), (.int (-1 : Int32)), (.int ((((1 : Int32) + s24) + s25) + s26))])) (fun _ k => XS.iconst X26.here hx rfl (hb hby d10_78) k) ?_
  obtain ⟨v27, T27, L27, X27, hQ27, st27⟩ := own_packS (Jvm.LawKit.callS X26 hx (y := (⟨"java/lang/Math", "max", "(II)I"⟩ : MethodName)) hown (mvT hZ (hw _ (List.mem_of_getElem? (i := 13) rfl))) (mvT hZ (hw _ (List.mem_of_getElem? (i := 14) rfl))) (mvT hZ (hw _ (List.mem_of_getElem? (i := 15) rfl))) (mvT hZ (hw _ (List.mem_of_getElem? (i := 16) rfl))) (by decide) (backOf (W := 1) (rm3 l Z a0 hw [] (-1 : Int32) (0 : Int32) hJ n0 ZJ ) hZ (hw _ (List.mem_of_getElem? (i := 16) rfl)) (hw _ (List.mem_of_getElem? (i := 15) rfl)) (by decide) (by decide)) (g := (mkF m 79 #[rv a1, own_jv p2, .second, .val .null, rv vy, own_jv z23, .second, iv cn, iv (-1 : Int32), iv vl, .unset, .unset, .unset] [(.int (0 : Int32)), (.int (-1 : Int32)), (.int ((((1 : Int32) + s24) + s25) + s26))])) rfl (by rw [hml]; rfl) (argsL := [(.int (-1 : Int32)), (.int (0 : Int32))]) (rest := [(.int ((((1 : Int32) + s24) + s25) + s26))]) (lenOf own_pd10_2 rfl) rfl (by show 2 * 0 + _ ≤ _; exact Nat.le_of_eq rfl) (hb hby d10_79) (fun _ _ => ⟨rfl, e26, (by decide : 0 + 0 ≤ _), (by decide : 0 + 0 ≤ _)⟩))
  obtain ⟨hv27, N27q, e27⟩ := hQ27
  rw [show own_f3_0 (-1 : Int32) (0 : Int32) = (0 : Int32) from by decide] at hv27
  subst hv27
  obtain ⟨lc27, X27, N27⟩ := own_loc X27 (Fr.app N26 N27q)
  refine own_st (T' := T27) (g' := (mkF m 82 #[rv a1, own_jv p2, .second, .val .null, rv vy, own_jv z23, .second, iv cn, iv (-1 : Int32), iv vl, .unset, .unset, .unset] [(.int (0 : Int32)), (.int ((((1 : Int32) + s24) + s25) + s26))])) (fun _ k => (st27) _ k) ?_
  refine own_st (T' := T27) (g' := (mkF m 83 #[rv a1, own_jv p2, .second, .val .null, rv vy, own_jv z23, .second, iv cn, iv (-1 : Int32), iv vl, .unset, .unset, .unset] [(.int (((((1 : Int32) + s24) + s25) + s26) + (0 : Int32)))])) (fun _ k => XS.iadd X27.here hx rfl (hb hby d10_82) rfl k) ?_
  refine own_st (T' := T27) (g' := (mkF m 85 #[rv a1, own_jv p2, .second, .val .null, rv vy, own_jv z23, .second, iv cn, iv (-1 : Int32), iv vl, .unset, .unset, .unset] [(.int vl), (.int (((((1 : Int32) + s24) + s25) + s26) + (0 : Int32)))])) (fun _ k => XS.iload X27.here hx rfl (hb hby d10_83) rfl k) ?_
  obtain ⟨v28, T28, L28, X28, hQ28, st28⟩ := own_packS (Jvm.LawKit.callS X27 hx (y := (⟨"com/example/millrace/millrace/wire/ProtocolWriter", "sizeOfVarint", "(I)I"⟩ : MethodName)) hown (mvT hZ (hw _ (List.mem_of_getElem? (i := 73) rfl))) (mvT hZ (hw _ (List.mem_of_getElem? (i := 74) rfl))) (mvT hZ (hw _ (List.mem_of_getElem? (i := 12) rfl))) (mvT hZ (hw _ (List.mem_of_getElem? (i := 75) rfl))) (by decide) (backOf (W := 1) (rm12 l Z a0 hw [] vl hJ n0 ZJ ) hZ (hw _ (List.mem_of_getElem? (i := 75) rfl)) (hw _ (List.mem_of_getElem? (i := 12) rfl)) (by decide) (by decide)) (g := (mkF m 85 #[rv a1, own_jv p2, .second, .val .null, rv vy, own_jv z23, .second, iv cn, iv (-1 : Int32), iv vl, .unset, .unset, .unset] [(.int vl), (.int (((((1 : Int32) + s24) + s25) + s26) + (0 : Int32)))])) rfl (by rw [hml]; rfl) (argsL := [(.int vl)]) (rest := [(.int (((((1 : Int32) + s24) + s25) + s26) + (0 : Int32)))]) (lenOf own_pd10_1 rfl) rfl (by show 2 * 0 + _ ≤ _; exact Nat.le_of_eq rfl) (hb hby d10_85) (fun _ _ => ⟨rfl, e27, (by decide : 0 + 0 ≤ _), (by decide : 0 + 0 ≤ _)⟩))
  obtain ⟨rfl, N28q, e28⟩ := hQ28
  obtain ⟨lc28, X28, N28⟩ := own_loc X28 (Fr.app N27 N28q)
  obtain ⟨s28, hs28⟩ : ∃ z, z = own_f12_0 vl := ⟨_, rfl⟩
  have hb28 := own_sv vl (by omega) (by omega)
  rw [← hs28] at hb28
  rw [← hs28] at st28
  refine own_st (T' := T28) (g' := (mkF m 88 #[rv a1, own_jv p2, .second, .val .null, rv vy, own_jv z23, .second, iv cn, iv (-1 : Int32), iv vl, .unset, .unset, .unset] [(.int s28), (.int (((((1 : Int32) + s24) + s25) + s26) + (0 : Int32)))])) (fun _ k => (st28) _ k) ?_
  refine own_st (T' := T28) (g' := (mkF m 89 #[rv a1, own_jv p2, .second, .val .null, rv vy, own_jv z23, .second, iv cn, iv (-1 : Int32), iv vl, .unset, .unset, .unset] [(.int ((((((1 : Int32) + s24) + s25) + s26) + (0 : Int32)) + s28))])) (fun _ k => XS.iadd X28.here hx rfl (hb hby d10_88) rfl k) ?_
  refine own_st (T' := T28) (g' := (mkF m 91 #[rv a1, own_jv p2, .second, .val .null, rv vy, own_jv z23, .second, iv cn, iv (-1 : Int32), iv vl, .unset, .unset, .unset] [(.int vl), (.int ((((((1 : Int32) + s24) + s25) + s26) + (0 : Int32)) + s28))])) (fun _ k => XS.iload X28.here hx rfl (hb hby d10_89) rfl k) ?_
  refine own_st (T' := T28) (g' := (mkF m 92 #[rv a1, own_jv p2, .second, .val .null, rv vy, own_jv z23, .second, iv cn, iv (-1 : Int32), iv vl, .unset, .unset, .unset] [(.int (0 : Int32)), (.int vl), (.int ((((((1 : Int32) + s24) + s25) + s26) + (0 : Int32)) + s28))])) (fun _ k => XS.iconst X28.here hx rfl (hb hby d10_91) k) ?_
  obtain ⟨v29, T29, L29, X29, hQ29, st29⟩ := own_packS (Jvm.LawKit.callS X28 hx (y := (⟨"java/lang/Math", "max", "(II)I"⟩ : MethodName)) hown (mvT hZ (hw _ (List.mem_of_getElem? (i := 13) rfl))) (mvT hZ (hw _ (List.mem_of_getElem? (i := 14) rfl))) (mvT hZ (hw _ (List.mem_of_getElem? (i := 15) rfl))) (mvT hZ (hw _ (List.mem_of_getElem? (i := 16) rfl))) (by decide) (backOf (W := 1) (rm3 l Z a0 hw [] vl (0 : Int32) hJ n0 ZJ ) hZ (hw _ (List.mem_of_getElem? (i := 16) rfl)) (hw _ (List.mem_of_getElem? (i := 15) rfl)) (by decide) (by decide)) (g := (mkF m 92 #[rv a1, own_jv p2, .second, .val .null, rv vy, own_jv z23, .second, iv cn, iv (-1 : Int32), iv vl, .unset, .unset, .unset] [(.int (0 : Int32)), (.int vl), (.int ((((((1 : Int32) + s24) + s25) + s26) + (0 : Int32)) + s28))])) rfl (by rw [hml]; rfl) (argsL := [(.int vl), (.int (0 : Int32))]) (rest := [(.int ((((((1 : Int32) + s24) + s25) + s26) + (0 : Int32)) + s28))]) (lenOf own_pd10_2 rfl) rfl (by show 2 * 0 + _ ≤ _; exact Nat.le_of_eq rfl) (hb hby d10_92) (fun _ _ => ⟨rfl, e28, (by decide : 0 + 0 ≤ _), (by decide : 0 + 0 ≤ _)⟩))
  obtain ⟨hv29, N29q, e29⟩ := hQ29
  rw [own_maxI vl (by omega)] at hv29
  subst hv29
  obtain ⟨lc29, X29, N29⟩ := own_loc X29 (Fr.app N28 N29q)
  refine own_st (T' := T29) (g' := (mkF m 95 #[rv a1, own_jv p2, .second, .val .null, rv vy, own_jv z23, .second, iv cn, iv (-1 : Int32), iv vl, .unset, .unset, .unset] [(.int vl), (.int ((((((1 : Int32) + s24) + s25) + s26) + (0 : Int32)) + s28))])) (fun _ k => (st29) _ k) ?_
  refine own_st (T' := T29) (g' := (mkF m 96 #[rv a1, own_jv p2, .second, .val .null, rv vy, own_jv z23, .second, iv cn, iv (-1 : Int32), iv vl, .unset, .unset, .unset] [(.int (((((((1 : Int32) + s24) + s25) + s26) + (0 : Int32)) + s28) + vl))])) (fun _ k => XS.iadd X29.here hx rfl (hb hby d10_95) rfl k) ?_
  refine own_st (T' := T29) (g' := (mkF m 97 #[rv a1, own_jv p2, .second, .val .null, rv vy, own_jv z23, .second, iv cn, iv (-1 : Int32), iv vl, .unset, .unset, .unset] [(.int (0 : Int32)), (.int (((((((1 : Int32) + s24) + s25) + s26) + (0 : Int32)) + s28) + vl))])) (fun _ k => XS.iconst X29.here hx rfl (hb hby d10_96) k) ?_
  obtain ⟨v30, T30, L30, X30, hQ30, st30⟩ := own_packS (Jvm.LawKit.callS X29 hx (y := (⟨"com/example/millrace/millrace/wire/ProtocolWriter", "sizeOfVarint", "(I)I"⟩ : MethodName)) hown (mvT hZ (hw _ (List.mem_of_getElem? (i := 73) rfl))) (mvT hZ (hw _ (List.mem_of_getElem? (i := 74) rfl))) (mvT hZ (hw _ (List.mem_of_getElem? (i := 12) rfl))) (mvT hZ (hw _ (List.mem_of_getElem? (i := 75) rfl))) (by decide) (backOf (W := 1) (rm12 l Z a0 hw [] (0 : Int32) hJ n0 ZJ ) hZ (hw _ (List.mem_of_getElem? (i := 75) rfl)) (hw _ (List.mem_of_getElem? (i := 12) rfl)) (by decide) (by decide)) (g := (mkF m 97 #[rv a1, own_jv p2, .second, .val .null, rv vy, own_jv z23, .second, iv cn, iv (-1 : Int32), iv vl, .unset, .unset, .unset] [(.int (0 : Int32)), (.int (((((((1 : Int32) + s24) + s25) + s26) + (0 : Int32)) + s28) + vl))])) rfl (by rw [hml]; rfl) (argsL := [(.int (0 : Int32))]) (rest := [(.int (((((((1 : Int32) + s24) + s25) + s26) + (0 : Int32)) + s28) + vl))]) (lenOf own_pd10_1 rfl) rfl (by show 2 * 0 + _ ≤ _; exact Nat.le_of_eq rfl) (hb hby d10_97) (fun _ _ => ⟨rfl, e29, (by decide : 0 + 0 ≤ _), (by decide : 0 + 0 ≤ _)⟩))
  obtain ⟨rfl, N30q, e30⟩ := hQ30
  obtain ⟨lc30, X30, N30⟩ := own_loc X30 (Fr.app N29 N30q)
  obtain ⟨s30, hs30⟩ : ∃ z, z = own_f12_0 (0 : Int32) := ⟨_, rfl⟩
  have hb30 := own_sv (0 : Int32) (by decide) (by decide)
  rw [← hs30] at hb30
  rw [← hs30] at st30
  refine own_st (T' := T30) (g' := (mkF m 100 #[rv a1, own_jv p2, .second, .val .null, rv vy, own_jv z23, .second, iv cn, iv (-1 : Int32), iv vl, .unset, .unset, .unset] [(.int s30), (.int (((((((1 : Int32) + s24) + s25) + s26) + (0 : Int32)) + s28) + vl))])) (fun _ k => (st30) _ k) ?_
  refine own_st (T' := T30) (g' := (mkF m 101 #[rv a1, own_jv p2, .second, .val .null, rv vy, own_jv z23, .second, iv cn, iv (-1 : Int32), iv vl, .unset, .unset, .unset] [(.int ((((((((1 : Int32) + s24) + s25) + s26) + (0 : Int32)) + s28) + vl) + s30))])) (fun _ k => XS.iadd X30.here hx rfl (hb hby d10_100) rfl k) ?_
  generalize hz101 : ((((((((1 : Int32) + s24) + s25) + s26) + (0 : Int32)) + s28) + vl) + s30) = z101
  refine own_st (T' := T30) (g' := (mkF m 103 #[rv a1, own_jv p2, .second, .val .null, rv vy, own_jv z23, .second, iv cn, iv (-1 : Int32), iv vl, iv z101, .unset, .unset] [])) (fun _ k => XS.istore X30.here hx rfl (hb hby d10_101) rfl (l' := #[rv a1, own_jv p2, .second, .val .null, rv vy, own_jv z23, .second, iv cn, iv (-1 : Int32), iv vl, iv z101, .unset, .unset]) rfl k) ?_
  have e00 : (0 : Int32).toInt = 0 := rfl
  have hB := own_body s24 s25 s26 (0 : Int32) s28 vl s30 (by omega) (by omega) (by omega) (by omega) (by omega) (by omega) (by omega)
  rw [hz101] at hB
  refine own_st (T' := T30) (g' := (mkF m 104 #[rv a1, own_jv p2, .second, .val .null, rv vy, own_jv z23, .second, iv cn, iv (-1 : Int32), iv vl, iv z101, .unset, .unset] [(.ref a1)])) (fun _ k => XS.aloadN X30.here hx rfl (hb hby d10_103) rfl rfl k) ?_
  obtain ⟨T31, X31, e31, st31⟩ := getF X30 hx hZ hown (host := "") (Or.inl (hw _ (List.mem_of_getElem? (i := 24) rfl))) Via.refl e30 Fj1 (g := (mkF m 104 #[rv a1, own_jv p2, .second, .val .null, rv vy, own_jv z23, .second, iv cn, iv (-1 : Int32), iv vl, iv z101, .unset, .unset] [(.ref a1)])) rfl rfl (hb hby d10_104)
  refine own_st (T' := T31) (g' := (mkF m 107 #[rv a1, own_jv p2, .second, .val .null, rv vy, own_jv z23, .second, iv cn, iv (-1 : Int32), iv vl, iv z101, .unset, .unset] [(.ref wo)])) (fun _ k => (st31) _ k) ?_
  refine own_st (T' := T31) (g' := (mkF m 109 #[rv a1, own_jv p2, .second, .val .null, rv vy, own_jv z23, .second, iv cn, iv (-1 : Int32), iv vl, iv z101, .unset, .unset] [(.int z101), (.ref wo)])) (fun _ k => XS.iload X31.here hx rfl (hb hby d10_107) rfl k) ?_
  obtain ⟨v32, T32, L32, X32, hQ32, st32⟩ := own_packS (Jvm.LawKit.callS X31 hx (y := (⟨"com/example/millrace/millrace/wire/ProtocolWriter", "sizeOfVarint", "(I)I"⟩ : MethodName)) hown (mvT hZ (hw _ (List.mem_of_getElem? (i := 73) rfl))) (mvT hZ (hw _ (List.mem_of_getElem? (i := 74) rfl))) (mvT hZ (hw _ (List.mem_of_getElem? (i := 12) rfl))) (mvT hZ (hw _ (List.mem_of_getElem? (i := 75) rfl))) (by decide) (backOf (W := 1) (rm12 l Z a0 hw [] z101 hJ n0 ZJ ) hZ (hw _ (List.mem_of_getElem? (i := 75) rfl)) (hw _ (List.mem_of_getElem? (i := 12) rfl)) (by decide) (by decide)) (g := (mkF m 109 #[rv a1, own_jv p2, .second, .val .null, rv vy, own_jv z23, .second, iv cn, iv (-1 : Int32), iv vl, iv z101, .unset, .unset] [(.int z101), (.ref wo)])) rfl (by rw [hml]; rfl) (argsL := [(.int z101)]) (rest := [(.ref wo)]) (lenOf own_pd10_1 rfl) rfl (by show 2 * 0 + _ ≤ _; exact Nat.le_of_eq rfl) (hb hby d10_109) (fun _ _ => ⟨rfl, e31, (by decide : 0 + 0 ≤ _), (by decide : 0 + 0 ≤ _)⟩))
  obtain ⟨rfl, N32q, e32⟩ := hQ32
  obtain ⟨lc32, X32, N32⟩ := own_loc X32 (Fr.app N30 N32q)
  obtain ⟨s32, hs32⟩ : ∃ z, z = own_f12_0 z101 := ⟨_, rfl⟩
  have hb32 := own_sv z101 (by omega) (by omega)
  rw [← hs32] at hb32
  rw [← hs32] at st32
  refine own_st (T' := T32) (g' := (mkF m 112 #[rv a1, own_jv p2, .second, .val .null, rv vy, own_jv z23, .second, iv cn, iv (-1 : Int32), iv vl, iv z101, .unset, .unset] [(.int s32), (.ref wo)])) (fun _ k => (st32) _ k) ?_
  refine own_st (T' := T32) (g' := (mkF m 114 #[rv a1, own_jv p2, .second, .val .null, rv vy, own_jv z23, .second, iv cn, iv (-1 : Int32), iv vl, iv z101, .unset, .unset] [(.int z101), (.int s32), (.ref wo)])) (fun _ k => XS.iload X32.here hx rfl (hb hby d10_112) rfl k) ?_
  refine own_st (T' := T32) (g' := (mkF m 115 #[rv a1, own_jv p2, .second, .val .null, rv vy, own_jv z23, .second, iv cn, iv (-1 : Int32), iv vl, iv z101, .unset, .unset] [(.int (s32 + z101)), (.ref wo)])) (fun _ k => XS.iadd X32.here hx rfl (hb hby d10_114) rfl k) ?_
  generalize hz115 : (s32 + z101) = z115
  have hm115 := own_add s32 z101 (by omega) (by omega)
  rw [hz115] at hm115
  obtain ⟨cq33, kq33, q33a, q33b, q33c⟩ := isOf hZ e32 Fj5
  obtain ⟨v33, T33, L33, X33, hQ33, st33⟩ := own_packV (X32.virtualBack hx (y := (⟨"com/example/millrace/millrace/wire/ProtocolWriter", "reserve", "(I)[B"⟩ : MethodName)) (z := (⟨"com/example/millrace/millrace/wire/ProtocolWriter", "reserve", "(I)[B"⟩ : MethodName)) hown (mvT hZ (hw _ (List.mem_of_getElem? (i := 79) rfl))) (mvT hZ (hw _ (List.mem_of_getElem? (i := 80) rfl))) (notFace_of_selects (args := #[]) (mvT hZ (hw _ (List.mem_of_getElem? (i := 82) rfl)))) (mvT hZ (hw _ (List.mem_of_getElem? (i := 82) rfl))) (mvT hZ (hw _ (List.mem_of_getElem? (i := 81) rfl))) (by decide) (backOf (W := 0) (rm14 l Z a0 hw [] wo z115 t P n hJ n0 ZJ Fj5 Fj6 Fj7 Fj8 gn_wo ne_wo_t gn_t hP0 hP (by omega) (by omega) hn0 hn) hZ (hw _ (List.mem_of_getElem? (i := 83) rfl)) (hw _ (List.mem_of_getElem? (i := 12) rfl)) (by decide) (by decide)) q33a q33c (g := (mkF m 115 #[rv a1, own_jv p2, .second, .val .null, rv vy, own_jv z23, .second, iv cn, iv (-1 : Int32), iv vl, iv z101, .unset, .unset] [(.int z115), (.ref wo)])) rfl (by rw [hml]; rfl) (Steps.refl _) (argsL := [(.int z115)]) (rest := []) (lenOf own_pd10_3 rfl) rfl (by show 2 * 0 + _ ≤ _; exact Nat.le_of_eq rfl) (hb hby d10_115) (fun _ _ => ⟨rfl, e32, (by decide : 0 + 1 ≤ _), (by decide : 0 + 2190 ≤ _)⟩))
  obtain ⟨N33q, Kq33, Eq33, t33, nn33, rfl, ht33, gn_t33, Fb33, Fp33, Yq33, hA33, hB33⟩ := hQ33
  obtain ⟨lc33, X33, N33⟩ := own_loc X33 (Fr.app N32 N33q)
  have ne_a1_t33 : a1 ≠ t33 := own_sep ht33 ne_a1_t Fj0.lt
  have ne_wo_t33 : wo ≠ t33 := own_sep ht33 ne_wo_t Fj5.lt
  have ne_vy_t33 : vy ≠ t33 := own_sep ht33 (Ne.symm ne_t_vy) Fj9.lt
  have Zs33 : n0 ≤ T33.heap.size := Nat.le_trans ZJ Kq33.1
  have ws_t33 : t33 ∈ [a1, wo, t] ∨ h0.size ≤ t33 := ht33.elim (fun q => by rw [q]; exact (Or.inl (List.mem_of_getElem? (i := 2) rfl))) (fun q => Or.inr (Nat.le_trans KJ.1 q))
  have hto33 : t33 = t ∨ h0.size ≤ t33 := ht33.imp id (fun q => Nat.le_trans KJ.1 q)
  have Fa34 : Exa Z T33.heap a1 "com/example/millrace/millrace/wire/RecordBatchBuilder" := Fj0.keep Kq33
  have Fa35 : Fld Z T33.heap a1 "com/example/millrace/millrace/wire/RecordBatchBuilder" "out" "Lcom/example/millrace/millrace/wire/ProtocolWriter;" (.ref wo) := Fj1.keep Kq33 (ninS ne_a1_wo nin0)
  have Fa36 : Fld Z T33.heap a1 "com/example/millrace/millrace/wire/RecordBatchBuilder" "baseTimestamp" "J" (.long bt1) := Fj2.keep Kq33 (ninS ne_a1_wo nin0)
  have Fa37 : Fld Z T33.heap a1 "com/example/millrace/millrace/wire/RecordBatchBuilder" "maxTimestamp" "J" (.long mt1) := Fj3.keep Kq33 (ninS ne_a1_wo nin0)
  have Fa38 : Fld Z T33.heap a1 "com/example/millrace/millrace/wire/RecordBatchBuilder" "count" "I" (.int cn) := Fj4.keep Kq33 (ninS ne_a1_wo nin0)
  have Fa39 : own_Y Z T33.heap vy vl := Fj9.keep Kq33 (ninS (Ne.symm ne_wo_vy) nin0)
  have Ke33 : Keep h0 T33.heap [a1, wo, t] := KJ.trans Kq33 (allS (Or.inl (List.mem_of_getElem? (i := 1) rfl)) all0)
  refine own_st (T' := T33) (g' := (mkF m 118 #[rv a1, own_jv p2, .second, .val .null, rv vy, own_jv z23, .second, iv cn, iv (-1 : Int32), iv vl, iv z101, .unset, .unset] [(.ref t33)])) (fun _ k => (st33) _ k) ?_
  refine own_st (T' := T33) (g' := (mkF m 120 #[rv a1, own_jv p2, .second, .val .null, rv vy, own_jv z23, .second, iv cn, iv (-1 : Int32), iv vl, iv z101, rv t33, .unset] [])) (fun _ k => XS.astore X33.here hx rfl (hb hby d10_118) rfl rfl (l' := #[rv a1, own_jv p2, .second, .val .null, rv vy, own_jv z23, .second, iv cn, iv (-1 : Int32), iv vl, iv z101, rv t33, .unset]) rfl k) ?_
  refine own_st (T' := T33) (g' := (mkF m 122 #[rv a1, own_jv p2, .second, .val .null, rv vy, own_jv z23, .second, iv cn, iv (-1 : Int32), iv vl, iv z101, rv t33, .unset] [(.ref t33)])) (fun _ k => XS.aload X33.here hx rfl (hb hby d10_120) rfl rfl k) ?_
  refine own_st (T' := T33) (g' := (mkF m 123 #[rv a1, own_jv p2, .second, .val .null, rv vy, own_jv z23, .second, iv cn, iv (-1 : Int32), iv vl, iv z101, rv t33, .unset] [(.ref a1), (.ref t33)])) (fun _ k => XS.aloadN X33.here hx rfl (hb hby d10_122) rfl rfl k) ?_
  obtain ⟨T40, X40, e40, st40⟩ := getF X33 hx hZ hown (host := "") (Or.inl (hw _ (List.mem_of_getElem? (i := 24) rfl))) Via.refl rfl Fa35 (g := (mkF m 123 #[rv a1, own_jv p2, .second, .val .null, rv vy, own_jv z23, .second, iv cn, iv (-1 : Int32), iv vl, iv z101, rv t33, .unset] [(.ref a1), (.ref t33)])) rfl rfl (hb hby d10_123)
  refine own_st (T' := T40) (g' := (mkF m 126 #[rv a1, own_jv p2, .second, .val .null, rv vy, own_jv z23, .second, iv cn, iv (-1 : Int32), iv vl, iv z101, rv t33, .unset] [(.ref wo), (.ref t33)])) (fun _ k => (st40) _ k) ?_
  obtain ⟨cq41, kq41, q41a, q41b, q41c⟩ := isOf hZ e40 Eq33
  obtain ⟨v41, T41, L41, X41, hQ41, st41⟩ := own_packV (X40.virtualBack hx (y := (⟨"com/example/millrace/millrace/wire/ProtocolWriter", "position", "()I"⟩ : MethodName)) (z := (⟨"com/example/millrace/millrace/wire/ProtocolWriter", "position", "()I"⟩ : MethodName)) hown (mvT hZ (hw _ (List.mem_of_getElem? (i := 53) rfl))) (mvT hZ (hw _ (List.mem_of_getElem? (i := 54) rfl))) (notFace_of_selects (args := #[]) (mvT hZ (hw _ (List.mem_of_getElem? (i := 56) rfl)))) (mvT hZ (hw _ (List.mem_of_getElem? (i := 56) rfl))) (mvT hZ (hw _ (List.mem_of_getElem? (i := 55) rfl))) (by decide) (backOf (W := 1) (rm9 l Z a0 hw [] wo P T33.heap n0 Zs33 Fp33) hZ (hw _ (List.mem_of_getElem? (i := 57) rfl)) (hw _ (List.mem_of_getElem? (i := 12) rfl)) (by decide) (by decide)) q41a q41c (g := (mkF m 126 #[rv a1, own_jv p2, .second, .val .null, rv vy, own_jv z23, .second, iv cn, iv (-1 : Int32), iv vl, iv z101, rv t33, .unset] [(.ref wo), (.ref t33)])) rfl (by rw [hml]; rfl) (Steps.refl _) (argsL := []) (rest := [(.ref t33)]) (lenOf own_pd10_4 rfl) rfl (by show 2 * 0 + _ ≤ _; exact Nat.le_of_eq rfl) (hb hby d10_126) (fun _ _ => ⟨rfl, e40, (by decide : 1 + 0 ≤ _), (by decide : 2190 + 0 ≤ _)⟩))
  obtain ⟨rfl, N41q, e41⟩ := hQ41
  obtain ⟨lc41, X41, N41⟩ := own_loc X41 (Fr.app N33 N41q)
  refine own_st (T' := T41) (g' := (mkF m 129 #[rv a1, own_jv p2, .second, .val .null, rv vy, own_jv z23, .second, iv cn, iv (-1 : Int32), iv vl, iv z101, rv t33, .unset] [(.int P), (.ref t33)])) (fun _ k => (st41) _ k) ?_
  refine own_st (T' := T41) (g' := (mkF m 131 #[rv a1, own_jv p2, .second, .val .null, rv vy, own_jv z23, .second, iv cn, iv (-1 : Int32), iv vl, iv z101, rv t33, .unset] [(.int z101), (.int P), (.ref t33)])) (fun _ k => XS.iload X41.here hx rfl (hb hby d10_129) rfl k) ?_
  obtain ⟨v42, T42, L42, X42, hQ42, st42⟩ := own_packS (Jvm.LawKit.callS X41 hx (y := (⟨"com/example/millrace/millrace/wire/ProtocolWriter", "putVarint", "([BII)I"⟩ : MethodName)) hown (mvT hZ (hw _ (List.mem_of_getElem? (i := 104) rfl))) (mvT hZ (hw _ (List.mem_of_getElem? (i := 105) rfl))) (mvT hZ (hw _ (List.mem_of_getElem? (i := 12) rfl))) (mvT hZ (hw _ (List.mem_of_getElem? (i := 106) rfl))) (by decide) (backOf (W := 0) (rm20 l Z a0 hw [] t33 P z101 nn33 T33.heap n0 Zs33 Yq33 gn_t33 (by omega) (by omega) (by omega) (by rw [← hs32]; omega)) hZ (hw _ (List.mem_of_getElem? (i := 106) rfl)) (hw _ (List.mem_of_getElem? (i := 12) rfl)) (by decide) (by decide)) (g := (mkF m 131 #[rv a1, own_jv p2, .second, .val .null, rv vy, own_jv z23, .second, iv cn, iv (-1 : Int32), iv vl, iv z101, rv t33, .unset] [(.int z101), (.int P), (.ref t33)])) rfl (by rw [hml]; rfl) (argsL := [(.ref t33), (.int P), (.int z101)]) (rest := []) (lenOf own_pd10_5 rfl) rfl (by show 2 * 0 + _ ≤ _; exact Nat.le_of_eq rfl) (hb hby d10_131) (fun _ _ => ⟨rfl, e41, (by decide : 1 + 0 ≤ _), (by decide : 2190 + 0 ≤ _)⟩))
  obtain ⟨r42, rfl, hr42, N42q, Kq42, Yq42⟩ := hQ42
  obtain ⟨lc42, X42, N42⟩ := own_loc X42 (Fr.app N41 N42q)
  have Zs42 : n0 ≤ T42.heap.size := Nat.le_trans Zs33 Kq42.1
  have Fa43 : Exa Z T42.heap a1 "com/example/millrace/millrace/wire/RecordBatchBuilder" := Fa34.keep Kq42
  have Fa44 : Fld Z T42.heap a1 "com/example/millrace/millrace/wire/RecordBatchBuilder" "out" "Lcom/example/millrace/millrace/wire/ProtocolWriter;" (.ref wo) := Fa35.keep Kq42 (ninS ne_a1_t33 nin0)
  have Fa45 : Fld Z T42.heap a1 "com/example/millrace/millrace/wire/RecordBatchBuilder" "baseTimestamp" "J" (.long bt1) := Fa36.keep Kq42 (ninS ne_a1_t33 nin0)
  have Fa46 : Fld Z T42.heap a1 "com/example/millrace/millrace/wire/RecordBatchBuilder" "maxTimestamp" "J" (.long mt1) := Fa37.keep Kq42 (ninS ne_a1_t33 nin0)
  have Fa47 : Fld Z T42.heap a1 "com/example/millrace/millrace/wire/RecordBatchBuilder" "count" "I" (.int cn) := Fa38.keep Kq42 (ninS ne_a1_t33 nin0)
  have Fa48 : own_Y Z T42.heap vy vl := Fa39.keep Kq42 (ninS ne_vy_t33 nin0)
  have Fa49 : Exa Z T42.heap wo "com/example/millrace/millrace/wire/ProtocolWriter" := Eq33.keep Kq42
  have Fa50 : Fld Z T42.heap wo "com/example/millrace/millrace/wire/ProtocolWriter" "bytes" "[B" (.ref t33) := Fb33.keep Kq42 (ninS ne_wo_t33 nin0)
  have Fa51 : Fld Z T42.heap wo "com/example/millrace/millrace/wire/ProtocolWriter" "position" "I" (.int P) := Fp33.keep Kq42 (ninS ne_wo_t33 nin0)
  have Ke42 : Keep h0 T42.heap [a1, wo, t] := Ke33.trans Kq42 (allS ws_t33 all0)
  rw [← hs32] at hr42
  refine own_st (T' := T42) (g' := (mkF m 134 #[rv a1, own_jv p2, .second, .val .null, rv vy, own_jv z23, .second, iv cn, iv (-1 : Int32), iv vl, iv z101, rv t33, .unset] [(.int r42)])) (fun _ k => (st42) _ k) ?_
  refine own_st (T' := T42) (g' := (mkF m 136 #[rv a1, own_jv p2, .second, .val .null, rv vy, own_jv z23, .second, iv cn, iv (-1 : Int32), iv vl, iv z101, rv t33, iv r42] [])) (fun _ k => XS.istore X42.here hx rfl (hb hby d10_134) rfl (l' := #[rv a1, own_jv p2, .second, .val .null, rv vy, own_jv z23, .second, iv cn, iv (-1 : Int32), iv vl, iv z101, rv t33, iv r42]) rfl k) ?_
  refine own_st (T' := T42) (g' := (mkF m 138 #[rv a1, own_jv p2, .second, .val .null, rv vy, own_jv z23, .second, iv cn, iv (-1 : Int32), iv vl, iv z101, rv t33, iv r42] [(.ref t33)])) (fun _ k => XS.aload X42.here hx rfl (hb hby d10_136) rfl rfl k) ?_
  refine own_st (T' := T42) (g' := (mkF m 140 #[rv a1, own_jv p2, .second, .val .null, rv vy, own_jv z23, .second, iv cn, iv (-1 : Int32), iv vl, iv z101, rv t33, iv r42] [(.int r42), (.ref t33)])) (fun _ k => XS.iload X42.here hx rfl (hb hby d10_138) rfl k) ?_
  refine own_st (T' := T42) (g' := (mkF m 143 #[rv a1, own_jv p2, .second, .val .null, rv vy, own_jv z23, .second, iv cn, iv (-1 : Int32), iv vl, iv z101, rv t33, iv (r42 + (1 : Int32))] [(.int r42), (.ref t33)])) (fun _ k => XS.iinc X42.here hx rfl (hb hby d10_140) rfl (l' := #[rv a1, own_jv p2, .second, .val .null, rv vy, own_jv z23, .second, iv cn, iv (-1 : Int32), iv vl, iv z101, rv t33, iv (r42 + (1 : Int32))]) rfl k) ?_
  have hi143 := own_add r42 1 (by rw [own_i1]; omega) (by rw [own_i1]; have := rng32 nn33; omega)
  rw [own_i1] at hi143
  have i1 := own_i1
  refine own_st (T' := T42) (g' := (mkF m 144 #[rv a1, own_jv p2, .second, .val .null, rv vy, own_jv z23, .second, iv cn, iv (-1 : Int32), iv vl, iv z101, rv t33, iv (r42 + (1 : Int32))] [(.int (0 : Int32)), (.int r42), (.ref t33)])) (fun _ k => XS.iconst X42.here hx rfl (hb hby d10_143) k) ?_
  obtain ⟨T52, h52, lc52, X52, e52, N52, ⟨sl52, vv52, W52⟩, Yn52, st52⟩ := own_stB X42 hx hZ rfl Yq42 (j := r42) (x := (0 : Int32)) (own_in r42 nn33 (by omega) (by omega)) N42 gn_t33 (g := (mkF m 144 #[rv a1, own_jv p2, .second, .val .null, rv vy, own_jv z23, .second, iv cn, iv (-1 : Int32), iv vl, iv z101, rv t33, iv (r42 + (1 : Int32))] [(.int (0 : Int32)), (.int r42), (.ref t33)])) rfl rfl (hb hby d10_144)
  have Zs52 : n0 ≤ h52.size := Nat.le_trans Zs42 (Keep.of_wr W52).1
  have Fa53 : Exa Z h52 a1 "com/example/millrace/millrace/wire/RecordBatchBuilder" := Fa43.wr W52
  have Fa54 : Fld Z h52 a1 "com/example/millrace/millrace/wire/RecordBatchBuilder" "out" "Lcom/example/millrace/millrace/wire/ProtocolWriter;" (.ref wo) := Fa44.other W52 (Or.inl ne_a1_t33)
  have Fa55 : Fld Z h52 a1 "com/example/millrace/millrace/wire/RecordBatchBuilder" "baseTimestamp" "J" (.long bt1) := Fa45.other W52 (Or.inl ne_a1_t33)
  have Fa56 : Fld Z h52 a1 "com/example/millrace/millrace/wire/RecordBatchBuilder" "maxTimestamp" "J" (.long mt1) := Fa46.other W52 (Or.inl ne_a1_t33)
  have Fa57 : Fld Z h52 a1 "com/example/millrace/millrace/wire/RecordBatchBuilder" "count" "I" (.int cn) := Fa47.other W52 (Or.inl ne_a1_t33)
  have Fa58 : own_Y Z h52 vy vl := Fa48.other W52 ne_vy_t33
  have Fa59 : Exa Z h52 wo "com/example/millrace/millrace/wire/ProtocolWriter" := Fa49.wr W52
  have Fa60 : Fld Z h52 wo "com/example/millrace/millrace/wire/ProtocolWriter" "bytes" "[B" (.ref t33) := Fa50.other W52 (Or.inl ne_wo_t33)
  have Fa61 : Fld Z h52 wo "com/example/millrace/millrace/wire/ProtocolWriter" "position" "I" (.int P) := Fa51.other W52 (Or.inl ne_wo_t33)
  have Ke52 : Keep h0 h52 [a1, wo, t] := Ke42.wr W52 ws_t33
  refine own_st (T' := T52) (g' := (mkF m 145 #[rv a1, own_jv p2, .second, .val .null, rv vy, own_jv z23, .second, iv cn, iv (-1 : Int32), iv vl, iv z101, rv t33, iv (r42 + (1 : Int32))] [])) (fun _ k => (st52) _ k) ?_
  refine own_st (T' := T52) (g' := (mkF m 147 #[rv a1, own_jv p2, .second, .val .null, rv vy, own_jv z23, .second, iv cn, iv (-1 : Int32), iv vl, iv z101, rv t33, iv (r42 + (1 : Int32))] [(.ref t33)])) (fun _ k => XS.aload X52.here hx rfl (hb hby d10_145) rfl rfl k) ?_
  refine own_st (T' := T52) (g' := (mkF m 149 #[rv a1, own_jv p2, .second, .val .null, rv vy, own_jv z23, .second, iv cn, iv (-1 : Int32), iv vl, iv z101, rv t33, iv (r42 + (1 : Int32))] [(.int (r42 + (1 : Int32))), (.ref t33)])) (fun _ k => XS.iload X52.here hx rfl (hb hby d10_147) rfl k) ?_
  refine own_st (T' := T52) (g' := (mkF m 151 #[rv a1, own_jv p2, .second, .val .null, rv vy, own_jv z23, .second, iv cn, iv (-1 : Int32), iv vl, iv z101, rv t33, iv (r42 + (1 : Int32))] [(.long z23), (.int (r42 + (1 : Int32))), (.ref t33)])) (fun _ k => XS.lload X52.here hx rfl (hb hby d10_149) rfl k) ?_
  obtain ⟨v62, T62, L62, X62, hQ62, st62⟩ := own_packS (Jvm.LawKit.callS X52 hx (y := (⟨"com/example/millrace/millrace/wire/ProtocolWriter", "putVarlong", "([BIJ)I"⟩ : MethodName)) hown (mvT hZ (hw _ (List.mem_of_getElem? (i := 110) rfl))) (mvT hZ (hw _ (List.mem_of_getElem? (i := 111) rfl))) (mvT hZ (hw _ (List.mem_of_getElem? (i := 12) rfl))) (mvT hZ (hw _ (List.mem_of_getElem? (i := 112) rfl))) (by decide) (backOf (W := 0) (rm22 l Z a0 hw [] t33 (r42 + (1 : Int32)) z23 nn33 h52 n0 Zs52 Yn52 gn_t33 (by omega) (by have := hb24; omega)) hZ (hw _ (List.mem_of_getElem? (i := 112) rfl)) (hw _ (List.mem_of_getElem? (i := 12) rfl)) (by decide) (by decide)) (g := (mkF m 151 #[rv a1, own_jv p2, .second, .val .null, rv vy, own_jv z23, .second, iv cn, iv (-1 : Int32), iv vl, iv z101, rv t33, iv (r42 + (1 : Int32))] [(.long z23), (.int (r42 + (1 : Int32))), (.ref t33)])) rfl (by rw [hml]; rfl) (argsL := [(.ref t33), (.int (r42 + (1 : Int32))), (.long z23)]) (rest := []) (lenOf own_pd10_6 rfl) rfl (by show 2 * 0 + _ ≤ _; exact Nat.le_of_eq rfl) (hb hby d10_151) (fun _ _ => ⟨rfl, e52, (by decide : 1 + 0 ≤ _), (by decide : 2190 + 0 ≤ _)⟩))
  obtain ⟨r62, rfl, hr62, N62q, Kq62, Yq62⟩ := hQ62
  obtain ⟨lc62, X62, N62⟩ := own_loc X62 (Fr.app N52 N62q)
  have Zs62 : n0 ≤ T62.heap.size := Nat.le_trans Zs52 Kq62.1
  have Fa63 : Exa Z T62.heap a1 "com/example/millrace/millrace/wire/RecordBatchBuilder" := Fa53.keep Kq62
  have Fa64 : Fld Z T62.heap a1 "com/example/millrace/millrace/wire/RecordBatchBuilder" "out" "Lcom/example/millrace/millrace/wire/ProtocolWriter;" (.ref wo) := Fa54.keep Kq62 (ninS ne_a1_t33 nin0)
  have Fa65 : Fld Z T62.heap a1 "com/example/millrace/millrace/wire/RecordBatchBuilder" "baseTimestamp" "J" (.long bt1) := Fa55.keep Kq62 (ninS ne_a1_t33 nin0)
  have Fa66 : Fld Z T62.heap a1 "com/example/millrace/millrace/wire/RecordBatchBuilder" "maxTimestamp" "J" (.long mt1) := Fa56.keep Kq62 (ninS ne_a1_t33 nin0)
  have Fa67 : Fld Z T62.heap a1 "com/example/millrace/millrace/wire/RecordBatchBuilder" "count" "I" (.int cn) := Fa57.keep Kq62 (ninS ne_a1_t33 nin0)
  have Fa68 : own_Y Z T62.heap vy vl := Fa58.keep Kq62 (ninS ne_vy_t33 nin0)
  have Fa69 : Exa Z T62.heap wo "com/example/millrace/millrace/wire/ProtocolWriter" := Fa59.keep Kq62
  have Fa70 : Fld Z T62.heap wo "com/example/millrace/millrace/wire/ProtocolWriter" "bytes" "[B" (.ref t33) := Fa60.keep Kq62 (ninS ne_wo_t33 nin0)
  have Fa71 : Fld Z T62.heap wo "com/example/millrace/millrace/wire/ProtocolWriter" "position" "I" (.int P) := Fa61.keep Kq62 (ninS ne_wo_t33 nin0)
  have Ke62 : Keep h0 T62.heap [a1, wo, t] := Ke52.trans Kq62 (allS ws_t33 all0)
  refine own_st (T' := T62) (g' := (mkF m 154 #[rv a1, own_jv p2, .second, .val .null, rv vy, own_jv z23, .second, iv cn, iv (-1 : Int32), iv vl, iv z101, rv t33, iv (r42 + (1 : Int32))] [(.int r62)])) (fun _ k => (st62) _ k) ?_
  refine own_st (T' := T62) (g' := (mkF m 156 #[rv a1, own_jv p2, .second, .val .null, rv vy, own_jv z23, .second, iv cn, iv (-1 : Int32), iv vl, iv z101, rv t33, iv r62] [])) (fun _ k => XS.istore X62.here hx rfl (hb hby d10_154) rfl (l' := #[rv a1, own_jv p2, .second, .val .null, rv vy, own_jv z23, .second, iv cn, iv (-1 : Int32), iv vl, iv z101, rv t33, iv r62]) rfl k) ?_
  refine own_st (T' := T62) (g' := (mkF m 158 #[rv a1, own_jv p2, .second, .val .null, rv vy, own_jv z23, .second, iv cn, iv (-1 : Int32), iv vl, iv z101, rv t33, iv r62] [(.ref t33)])) (fun _ k => XS.aload X62.here hx rfl (hb hby d10_156) rfl rfl k) ?_
  refine own_st (T' := T62) (g' := (mkF m 160 #[rv a1, own_jv p2, .second, .val .null, rv vy, own_jv z23, .second, iv cn, iv (-1 : Int32), iv vl, iv z101, rv t33, iv r62] [(.int r62), (.ref t33)])) (fun _ k => XS.iload X62.here hx rfl (hb hby d10_158) rfl k) ?_
  refine own_st (T' := T62) (g' := (mkF m 162 #[rv a1, own_jv p2, .second, .val .null, rv vy, own_jv z23, .second, iv cn, iv (-1 : Int32), iv vl, iv z101, rv t33, iv r62] [(.int cn), (.int r62), (.ref t33)])) (fun _ k => XS.iload X62.here hx rfl (hb hby d10_160) rfl k) ?_
  obtain ⟨v72, T72, L72, X72, hQ72, st72⟩ := own_packS (Jvm.LawKit.callS X62 hx (y := (⟨"com/example/millrace/millrace/wire/ProtocolWriter", "putVarint", "([BII)I"⟩ : MethodName)) hown (mvT hZ (hw _ (List.mem_of_getElem? (i := 104) rfl))) (mvT hZ (hw _ (List.mem_of_getElem? (i := 105) rfl))) (mvT hZ (hw _ (List.mem_of_getElem? (i := 12) rfl))) (mvT hZ (hw _ (List.mem_of_getElem? (i := 106) rfl))) (by decide) (backOf (W := 0) (rm20 l Z a0 hw [] t33 r62 cn nn33 T62.heap n0 Zs62 Yq62 gn_t33 (by omega) (by omega) (by omega) (by rw [← hs25]; omega)) hZ (hw _ (List.mem_of_getElem? (i := 106) rfl)) (hw _ (List.mem_of_getElem? (i := 12) rfl)) (by decide) (by decide)) (g := (mkF m 162 #[rv a1, own_jv p2, .second, .val .null, rv vy, own_jv z23, .second, iv cn, iv (-1 : Int32), iv vl, iv z101, rv t33, iv r62] [(.int cn), (.int r62), (.ref t33)])) rfl (by rw [hml]; rfl) (argsL := [(.ref t33), (.int r62), (.int cn)]) (rest := []) (lenOf own_pd10_5 rfl) rfl (by show 2 * 0 + _ ≤ _; exact Nat.le_of_eq rfl) (hb hby d10_162) (fun _ _ => ⟨rfl, rfl, (by decide : 1 + 0 ≤ _), (by decide : 2190 + 0 ≤ _)⟩))
  obtain ⟨r72, rfl, hr72, N72q, Kq72, Yq72⟩ := hQ72
  obtain ⟨lc72, X72, N72⟩ := own_loc X72 (Fr.app N62 N72q)
  have Zs72 : n0 ≤ T72.heap.size := Nat.le_trans Zs62 Kq72.1
  have Fa73 : Exa Z T72.heap a1 "com/example/millrace/millrace/wire/RecordBatchBuilder" := Fa63.keep Kq72
  have Fa74 : Fld Z T72.heap a1 "com/example/millrace/millrace/wire/RecordBatchBuilder" "out" "Lcom/example/millrace/millrace/wire/ProtocolWriter;" (.ref wo) := Fa64.keep Kq72 (ninS ne_a1_t33 nin0)
  have Fa75 : Fld Z T72.heap a1 "com/example/millrace/millrace/wire/RecordBatchBuilder" "baseTimestamp" "J" (.long bt1) := Fa65.keep Kq72 (ninS ne_a1_t33 nin0)
  have Fa76 : Fld Z T72.heap a1 "com/example/millrace/millrace/wire/RecordBatchBuilder" "maxTimestamp" "J" (.long mt1) := Fa66.keep Kq72 (ninS ne_a1_t33 nin0)
  have Fa77 : Fld Z T72.heap a1 "com/example/millrace/millrace/wire/RecordBatchBuilder" "count" "I" (.int cn) := Fa67.keep Kq72 (ninS ne_a1_t33 nin0)
  have Fa78 : own_Y Z T72.heap vy vl := Fa68.keep Kq72 (ninS ne_vy_t33 nin0)
  have Fa79 : Exa Z T72.heap wo "com/example/millrace/millrace/wire/ProtocolWriter" := Fa69.keep Kq72
  have Fa80 : Fld Z T72.heap wo "com/example/millrace/millrace/wire/ProtocolWriter" "bytes" "[B" (.ref t33) := Fa70.keep Kq72 (ninS ne_wo_t33 nin0)
  have Fa81 : Fld Z T72.heap wo "com/example/millrace/millrace/wire/ProtocolWriter" "position" "I" (.int P) := Fa71.keep Kq72 (ninS ne_wo_t33 nin0)
  have Ke72 : Keep h0 T72.heap [a1, wo, t] := Ke62.trans Kq72 (allS ws_t33 all0)
  rw [← hs25] at hr72
  refine own_st (T' := T72) (g' := (mkF m 165 #[rv a1, own_jv p2, .second, .val .null, rv vy, own_jv z23, .second, iv cn, iv (-1 : Int32), iv vl, iv z101, rv t33, iv r62] [(.int r72)])) (fun _ k => (st72) _ k) ?_
  refine own_st (T' := T72) (g' := (mkF m 167 #[rv a1, own_jv p2, .second, .val .null, rv vy, own_jv z23, .second, iv cn, iv (-1 : Int32), iv vl, iv z101, rv t33, iv r72] [])) (fun _ k => XS.istore X72.here hx rfl (hb hby d10_165) rfl (l' := #[rv a1, own_jv p2, .second, .val .null, rv vy, own_jv z23, .second, iv cn, iv (-1 : Int32), iv vl, iv z101, rv t33, iv r72]) rfl k) ?_
  refine own_st (T' := T72) (g' := (mkF m 169 #[rv a1, own_jv p2, .second, .val .null, rv vy, own_jv z23, .second, iv cn, iv (-1 : Int32), iv vl, iv z101, rv t33, iv r72] [(.ref t33)])) (fun _ k => XS.aload X72.here hx rfl (hb hby d10_167) rfl rfl k) ?_
  refine own_st (T' := T72) (g' := (mkF m 171 #[rv a1, own_jv p2, .second, .val .null, rv vy, own_jv z23, .second, iv cn, iv (-1 : Int32), iv vl, iv z101, rv t33, iv r72] [(.int r72), (.ref t33)])) (fun _ k => XS.iload X72.here hx rfl (hb hby d10_169) rfl k) ?_
  refine own_st (T' := T72) (g' := (mkF m 173 #[rv a1, own_jv p2, .second, .val .null, rv vy, own_jv z23, .second, iv cn, iv (-1 : Int32), iv vl, iv z101, rv t33, iv r72] [(.int (-1 : Int32)), (.int r72), (.ref t33)])) (fun _ k => XS.iload X72.here hx rfl (hb hby d10_171) rfl k) ?_
  obtain ⟨v82, T82, L82, X82, hQ82, st82⟩ := own_packS (Jvm.LawKit.callS X72 hx (y := (⟨"com/example/millrace/millrace/wire/ProtocolWriter", "putVarint", "([BII)I"⟩ : MethodName)) hown (mvT hZ (hw _ (List.mem_of_getElem? (i := 104) rfl))) (mvT hZ (hw _ (List.mem_of_getElem? (i := 105) rfl))) (mvT hZ (hw _ (List.mem_of_getElem? (i := 12) rfl))) (mvT hZ (hw _ (List.mem_of_getElem? (i := 106) rfl))) (by decide) (backOf (W := 0) (rm20 l Z a0 hw [] t33 r72 (-1 : Int32) nn33 T72.heap n0 Zs72 Yq72 gn_t33 (by omega) (by decide) (by decide) (by rw [← hs26]; omega)) hZ (hw _ (List.mem_of_getElem? (i := 106) rfl)) (hw _ (List.mem_of_getElem? (i := 12) rfl)) (by decide) (by decide)) (g := (mkF m 173 #[rv a1, own_jv p2, .second, .val .null, rv vy, own_jv z23, .second, iv cn, iv (-1 : Int32), iv vl, iv z101, rv t33, iv r72] [(.int (-1 : Int32)), (.int r72), (.ref t33)])) rfl (by rw [hml]; rfl) (argsL := [(.ref t33), (.int r72), (.int (-1 : Int32))]) (rest := []) (lenOf own_pd10_5 rfl) rfl (by show 2 * 0 + _ ≤ _; exact Nat.le_of_eq rfl) (hb hby d10_173) (fun _ _ => ⟨rfl, rfl, (by decide : 1 + 0 ≤ _), (by decide : 2190 + 0 ≤ _)⟩))
  obtain ⟨r82, rfl, hr82, N82q, Kq82, Yq82⟩ := hQ82
  obtain ⟨lc82, X82, N82⟩ := own_loc X82 (Fr.app N72 N82q)
  have Zs82 : n0 ≤ T82.heap.size := Nat.le_trans Zs72 Kq82.1
  have Fa83 : Exa Z T82.heap a1 "com/example/millrace/millrace/wire/RecordBatchBuilder" := Fa73.keep Kq82
  have Fa84 : Fld Z T82.heap a1 "com/example/millrace/millrace/wire/RecordBatchBuilder" "out" "Lcom/example/millrace/millrace/wire/ProtocolWriter;" (.ref wo) := Fa74.keep Kq82 (ninS ne_a1_t33 nin0)
  have Fa85 : Fld Z T82.heap a1 "com/example/millrace/millrace/wire/RecordBatchBuilder" "baseTimestamp" "J" (.long bt1) := Fa75.keep Kq82 (ninS ne_a1_t33 nin0)
  have Fa86 : Fld Z T82.heap a1 "com/example/millrace/millrace/wire/RecordBatchBuilder" "maxTimestamp" "J" (.long mt1) := Fa76.keep Kq82 (ninS ne_a1_t33 nin0)
  have Fa87 : Fld Z T82.heap a1 "com/example/millrace/millrace/wire/RecordBatchBuilder" "count" "I" (.int cn) := Fa77.keep Kq82 (ninS ne_a1_t33 nin0)
  have Fa88 : own_Y Z T82.heap vy vl := Fa78.keep Kq82 (ninS ne_vy_t33 nin0)
  have Fa89 : Exa Z T82.heap wo "com/example/millrace/millrace/wire/ProtocolWriter" := Fa79.keep Kq82
  have Fa90 : Fld Z T82.heap wo "com/example/millrace/millrace/wire/ProtocolWriter" "bytes" "[B" (.ref t33) := Fa80.keep Kq82 (ninS ne_wo_t33 nin0)
  have Fa91 : Fld Z T82.heap wo "com/example/millrace/millrace/wire/ProtocolWriter" "position" "I" (.int P) := Fa81.keep Kq82 (ninS ne_wo_t33 nin0)
  have Ke82 : Keep h0 T82.heap [a1, wo, t] := Ke72.trans Kq82 (allS ws_t33 all0)
  rw [← hs26] at hr82
  refine own_st (T' := T82) (g' := (mkF m 176 #[rv a1, own_jv p2, .second, .val .null, rv vy, own_jv z23, .second, iv cn, iv (-1 : Int32), iv vl, iv z101, rv t33, iv r72] [(.int r82)])) (fun _ k => (st82) _ k) ?_
  refine own_st (T' := T82) (g' := (mkF m 178 #[rv a1, own_jv p2, .second, .val .null, rv vy, own_jv z23, .second, iv cn, iv (-1 : Int32), iv vl, iv z101, rv t33, iv r82] [])) (fun _ k => XS.istore X82.here hx rfl (hb hby d10_176) rfl (l' := #[rv a1, own_jv p2, .second, .val .null, rv vy, own_jv z23, .second, iv cn, iv (-1 : Int32), iv vl, iv z101, rv t33, iv r82]) rfl k) ?_
  refine own_st (T' := T82) (g' := (mkF m 179 #[rv a1, own_jv p2, .second, .val .null, rv vy, own_jv z23, .second, iv cn, iv (-1 : Int32), iv vl, iv z101, rv t33, iv r82] [.null])) (fun _ k => XS.aloadN X82.here hx rfl (hb hby d10_178) rfl rfl k) ?_
  refine own_st (T' := T82) (g' := (mkF m 200 #[rv a1, own_jv p2, .second, .val .null, rv vy, own_jv z23, .second, iv cn, iv (-1 : Int32), iv vl, iv z101, rv t33, iv r82] [])) (fun _ k => XS.ifnullYes X82.here hx rfl (pc0 := 179) (pc' := 200) rfl (hb hby d10_179) rfl (by decide) (by decide) k) ?_
  refine own_st (T' := T82) (g' := (mkF m 202 #[rv a1, own_jv p2, .second, .val .null, rv vy, own_jv z23, .second, iv cn, iv (-1 : Int32), iv vl, iv z101, rv t33, iv r82] [(.ref t33)])) (fun _ k => XS.aload X82.here hx rfl (hb hby d10_200) rfl rfl k) ?_
  refine own_st (T' := T82) (g' := (mkF m 204 #[rv a1, own_jv p2, .second, .val .null, rv vy, own_jv z23, .second, iv cn, iv (-1 : Int32), iv vl, iv z101, rv t33, iv r82] [(.int r82), (.ref t33)])) (fun _ k => XS.iload X82.here hx rfl (hb hby d10_202) rfl k) ?_
  refine own_st (T' := T82) (g' := (mkF m 206 #[rv a1, own_jv p2, .second, .val .null, rv vy, own_jv z23, .second, iv cn, iv (-1 : Int32), iv vl, iv z101, rv t33, iv r82] [(.int vl), (.int r82), (.ref t33)])) (fun _ k => XS.iload X82.here hx rfl (hb hby d10_204) rfl k) ?_
  obtain ⟨v92, T92, L92, X92, hQ92, st92⟩ := own_packS (Jvm.LawKit.callS X82 hx (y := (⟨"com/example/millrace/millrace/wire/ProtocolWriter", "putVarint", "([BII)I"⟩ : MethodName)) hown (mvT hZ (hw _ (List.mem_of_getElem? (i := 104) rfl))) (mvT hZ (hw _ (List.mem_of_getElem? (i := 105) rfl))) (mvT hZ (hw _ (List.mem_of_getElem? (i := 12) rfl))) (mvT hZ (hw _ (List.mem_of_getElem? (i := 106) rfl))) (by decide) (backOf (W := 0) (rm20 l Z a0 hw [] t33 r82 vl nn33 T82.heap n0 Zs82 Yq82 gn_t33 (by omega) (by omega) (by omega) (by rw [← hs28]; omega)) hZ (hw _ (List.mem_of_getElem? (i := 106) rfl)) (hw _ (List.mem_of_getElem? (i := 12) rfl)) (by decide) (by decide)) (g := (mkF m 206 #[rv a1, own_jv p2, .second, .val .null, rv vy, own_jv z23, .second, iv cn, iv (-1 : Int32), iv vl, iv z101, rv t33, iv r82] [(.int vl), (.int r82), (.ref t33)])) rfl (by rw [hml]; rfl) (argsL := [(.ref t33), (.int r82), (.int vl)]) (rest := []) (lenOf own_pd10_5 rfl) rfl (by show 2 * 0 + _ ≤ _; exact Nat.le_of_eq rfl) (hb hby d10_206) (fun _ _ => ⟨rfl, rfl, (by decide : 1 + 0 ≤ _), (by decide : 2190 + 0 ≤ _)⟩))
  obtain ⟨r92, rfl, hr92, N92q, Kq92, Yq92⟩ := hQ92
  obtain ⟨lc92, X92, N92⟩ := own_loc X92 (Fr.app N82 N92q)
  have Zs92 : n0 ≤ T92.heap.size := Nat.le_trans Zs82 Kq92.1
  have Fa93 : Exa Z T92.heap a1 "com/example/millrace/millrace/wire/RecordBatchBuilder" := Fa83.keep Kq92
  have Fa94 : Fld Z T92.heap a1 "com/example/millrace/millrace/wire/RecordBatchBuilder" "out" "Lcom/example/millrace/millrace/wire/ProtocolWriter;" (.ref wo) := Fa84.keep Kq92 (ninS ne_a1_t33 nin0)
  have Fa95 : Fld Z T92.heap a1 "com/example/millrace/millrace/wire/RecordBatchBuilder" "baseTimestamp" "J" (.long bt1) := Fa85.keep Kq92 (ninS ne_a1_t33 nin0)
  have Fa96 : Fld Z T92.heap a1 "com/example/millrace/millrace/wire/RecordBatchBuilder" "maxTimestamp" "J" (.long mt1) := Fa86.keep Kq92 (ninS ne_a1_t33 nin0)
  have Fa97 : Fld Z T92.heap a1 "com/example/millrace/millrace/wire/RecordBatchBuilder" "count" "I" (.int cn) := Fa87.keep Kq92 (ninS ne_a1_t33 nin0)
  have Fa98 : own_Y Z T92.heap vy vl := Fa88.keep Kq92 (ninS ne_vy_t33 nin0)
  have Fa99 : Exa Z T92.heap wo "com/example/millrace/millrace/wire/ProtocolWriter" := Fa89.keep Kq92
  have Fa100 : Fld Z T92.heap wo "com/example/millrace/millrace/wire/ProtocolWriter" "bytes" "[B" (.ref t33) := Fa90.keep Kq92 (ninS ne_wo_t33 nin0)
  have Fa101 : Fld Z T92.heap wo "com/example/millrace/millrace/wire/ProtocolWriter" "position" "I" (.int P) := Fa91.keep Kq92 (ninS ne_wo_t33 nin0)
  have Ke92 : Keep h0 T92.heap [a1, wo, t] := Ke82.trans Kq92 (allS ws_t33 all0)
  rw [← hs28] at hr92
  refine own_st (T' := T92) (g' := (mkF m 209 #[rv a1, own_jv p2, .second, .val .null, rv vy, own_jv z23, .second, iv cn, iv (-1 : Int32), iv vl, iv z101, rv t33, iv r82] [(.int r92)])) (fun _ k => (st92) _ k) ?_
  refine own_st (T' := T92) (g' := (mkF m 211 #[rv a1, own_jv p2, .second, .val .null, rv vy, own_jv z23, .second, iv cn, iv (-1 : Int32), iv vl, iv z101, rv t33, iv r92] [])) (fun _ k => XS.istore X92.here hx rfl (hb hby d10_209) rfl (l' := #[rv a1, own_jv p2, .second, .val .null, rv vy, own_jv z23, .second, iv cn, iv (-1 : Int32), iv vl, iv z101, rv t33, iv r92]) rfl k) ?_
  refine own_st (T' := T92) (g' := (mkF m 213 #[rv a1, own_jv p2, .second, .val .null, rv vy, own_jv z23, .second, iv cn, iv (-1 : Int32), iv vl, iv z101, rv t33, iv r92] [(.ref vy)])) (fun _ k => XS.aload X92.here hx rfl (hb hby d10_211) rfl rfl k) ?_
  refine own_st (T' := T92) (g' := (mkF m 216 #[rv a1, own_jv p2, .second, .val .null, rv vy, own_jv z23, .second, iv cn, iv (-1 : Int32), iv vl, iv z101, rv t33, iv r92] [])) (fun _ k => XS.ifnullNo X92.here hx rfl (hb hby d10_213) rfl k) ?_
  refine own_st (T' := T92) (g' := (mkF m 218 #[rv a1, own_jv p2, .second, .val .null, rv vy, own_jv z23, .second, iv cn, iv (-1 : Int32), iv vl, iv z101, rv t33, iv r92] [(.ref vy)])) (fun _ k => XS.aload X92.here hx rfl (hb hby d10_216) rfl rfl k) ?_
  refine own_st (T' := T92) (g' := (mkF m 219 #[rv a1, own_jv p2, .second, .val .null, rv vy, own_jv z23, .second, iv cn, iv (-1 : Int32), iv vl, iv z101, rv t33, iv r92] [(.int (0 : Int32)), (.ref vy)])) (fun _ k => XS.iconst X92.here hx rfl (hb hby d10_218) k) ?_
  refine own_st (T' := T92) (g' := (mkF m 221 #[rv a1, own_jv p2, .second, .val .null, rv vy, own_jv z23, .second, iv cn, iv (-1 : Int32), iv vl, iv z101, rv t33, iv r92] [(.ref t33), (.int (0 : Int32)), (.ref vy)])) (fun _ k => XS.aload X92.here hx rfl (hb hby d10_219) rfl rfl k) ?_
  refine own_st (T' := T92) (g' := (mkF m 223 #[rv a1, own_jv p2, .second, .val .null, rv vy, own_jv z23, .second, iv cn, iv (-1 : Int32), iv vl, iv z101, rv t33, iv r92] [(.int r92), (.ref t33), (.int (0 : Int32)), (.ref vy)])) (fun _ k => XS.iload X92.here hx rfl (hb hby d10_221) rfl k) ?_
  refine own_st (T' := T92) (g' := (mkF m 225 #[rv a1, own_jv p2, .second, .val .null, rv vy, own_jv z23, .second, iv cn, iv (-1 : Int32), iv vl, iv z101, rv t33, iv r92] [(.ref vy), (.int r92), (.ref t33), (.int (0 : Int32)), (.ref vy)])) (fun _ k => XS.aload X92.here hx rfl (hb hby d10_223) rfl rfl k) ?_
  refine own_st (T' := T92) (g' := (mkF m 226 #[rv a1, own_jv p2, .second, .val .null, rv vy, own_jv z23, .second, iv cn, iv (-1 : Int32), iv vl, iv z101, rv t33, iv r92] [(.int vl), (.int r92), (.ref t33), (.int (0 : Int32)), (.ref vy)])) (fun _ k => (own_alen X92 hx hZ rfl Fa98 (g := (mkF m 225 #[rv a1, own_jv p2, .second, .val .null, rv vy, own_jv z23, .second, iv cn, iv (-1 : Int32), iv vl, iv z101, rv t33, iv r92] [(.ref vy), (.int r92), (.ref t33), (.int (0 : Int32)), (.ref vy)])) rfl rfl (hb hby d10_225)) _ k) ?_
  obtain ⟨T102, h102, lc102, X102, e102, N102, Kq102, Yq102, st102⟩ := own_cp X92 hx hZ hown (hw _ (List.mem_of_getElem? (i := 113) rfl)) (hw _ (List.mem_of_getElem? (i := 47) rfl)) (hw _ (List.mem_of_getElem? (i := 45) rfl)) (hw _ (List.mem_of_getElem? (i := 46) rfl)) rfl Fa98 Yq92 (by decide) (by omega) (by omega) (by rw [own_i0]; omega) (by omega) N92 gn_t33 (g := (mkF m 226 #[rv a1, own_jv p2, .second, .val .null, rv vy, own_jv z23, .second, iv cn, iv (-1 : Int32), iv vl, iv z101, rv t33, iv r92] [(.int vl), (.int r92), (.ref t33), (.int (0 : Int32)), (.ref vy)])) rfl (by rw [hml]; rfl) (rest := []) rfl (hb hby d10_226) (by decide) (W := 0) (by show 2 * 0 + _ ≤ _; exact Nat.le_of_eq rfl) (by decide)
  have Zs102 : n0 ≤ h102.size := Nat.le_trans Zs92 Kq102.1
  have Fa103 : Exa Z h102 a1 "com/example/millrace/millrace/wire/RecordBatchBuilder" := Fa93.keep Kq102
  have Fa104 : Fld Z h102 a1 "com/example/millrace/millrace/wire/RecordBatchBuilder" "out" "Lcom/example/millrace/millrace/wire/ProtocolWriter;" (.ref wo) := Fa94.keep Kq102 (ninS ne_a1_t33 nin0)
  have Fa105 : Fld Z h102 a1 "com/example/millrace/millrace/wire/RecordBatchBuilder" "baseTimestamp" "J" (.long bt1) := Fa95.keep Kq102 (ninS ne_a1_t33 nin0)
  have Fa106 : Fld Z h102 a1 "com/example/millrace/millrace/wire/RecordBatchBuilder" "maxTimestamp" "J" (.long mt1) := Fa96.keep Kq102 (ninS ne_a1_t33 nin0)
  have Fa107 : Fld Z h102 a1 "com/example/millrace/millrace/wire/RecordBatchBuilder" "count" "I" (.int cn) := Fa97.keep Kq102 (ninS ne_a1_t33 nin0)
  have Fa108 : own_Y Z h102 vy vl := Fa98.keep Kq102 (ninS ne_vy_t33 nin0)
  have Fa109 : Exa Z h102 wo "com/example/millrace/millrace/wire/ProtocolWriter" := Fa99.keep Kq102
  have Fa110 : Fld Z h102 wo "com/example/millrace/millrace/wire/ProtocolWriter" "bytes" "[B" (.ref t33) := Fa100.keep Kq102 (ninS ne_wo_t33 nin0)
  have Fa111 : Fld Z h102 wo "com/example/millrace/millrace/wire/ProtocolWriter" "position" "I" (.int P) := Fa101.keep Kq102 (ninS ne_wo_t33 nin0)
  have Ke102 : Keep h0 h102 [a1, wo, t] := Ke92.trans Kq102 (allS ws_t33 all0)
  refine own_st (T' := T102) (g' := (mkF m 229 #[rv a1, own_jv p2, .second, .val .null, rv vy, own_jv z23, .second, iv cn, iv (-1 : Int32), iv vl, iv z101, rv t33, iv r92] [])) (fun _ k => (st102) _ k) ?_
  refine own_st (T' := T102) (g' := (mkF m 231 #[rv a1, own_jv p2, .second, .val .null, rv vy, own_jv z23, .second, iv cn, iv (-1 : Int32), iv vl, iv z101, rv t33, iv r92] [(.int r92)])) (fun _ k => XS.iload X102.here hx rfl (hb hby d10_229) rfl k) ?_
  refine own_st (T' := T102) (g' := (mkF m 233 #[rv a1, own_jv p2, .second, .val .null, rv vy, own_jv z23, .second, iv cn, iv (-1 : Int32), iv vl, iv z101, rv t33, iv r92] [(.ref vy), (.int r92)])) (fun _ k => XS.aload X102.here hx rfl (hb hby d10_231) rfl rfl k) ?_
  refine own_st (T' := T102) (g' := (mkF m 234 #[rv a1, own_jv p2, .second, .val .null, rv vy, own_jv z23, .second, iv cn, iv (-1 : Int32), iv vl, iv z101, rv t33, iv r92] [(.int vl), (.int r92)])) (fun _ k => (own_alen X102 hx hZ e102 Fa108 (g := (mkF m 233 #[rv a1, own_jv p2, .second, .val .null, rv vy, own_jv z23, .second, iv cn, iv (-1 : Int32), iv vl, iv z101, rv t33, iv r92] [(.ref vy), (.int r92)])) rfl rfl (hb hby d10_233)) _ k) ?_
  refine own_st (T' := T102) (g' := (mkF m 235 #[rv a1, own_jv p2, .second, .val .null, rv vy, own_jv z23, .second, iv cn, iv (-1 : Int32), iv vl, iv z101, rv t33, iv r92] [(.int (r92 + vl))])) (fun _ k => XS.iadd X102.here hx rfl (hb hby d10_234) rfl k) ?_
  generalize hz235 : (r92 + vl) = z235
  refine own_st (T' := T102) (g' := (mkF m 237 #[rv a1, own_jv p2, .second, .val .null, rv vy, own_jv z23, .second, iv cn, iv (-1 : Int32), iv vl, iv z101, rv t33, iv z235] [])) (fun _ k => XS.istore X102.here hx rfl (hb hby d10_235) rfl (l' := #[rv a1, own_jv p2, .second, .val .null, rv vy, own_jv z23, .second, iv cn, iv (-1 : Int32), iv vl, iv z101, rv t33, iv z235]) rfl k) ?_
  have hm235 := own_add r92 vl (by omega) (by have := rng32 nn33; omega)
  rw [hz235] at hm235
  refine own_st (T' := T102) (g' := (mkF m 239 #[rv a1, own_jv p2, .second, .val .null, rv vy, own_jv z23, .second, iv cn, iv (-1 : Int32), iv vl, iv z101, rv t33, iv z235] [(.ref t33)])) (fun _ k => XS.aload X102.here hx rfl (hb hby d10_237) rfl rfl k) ?_
  refine own_st (T' := T102) (g' := (mkF m 241 #[rv a1, own_jv p2, .second, .val .null, rv vy, own_jv z23, .second, iv cn, iv (-1 : Int32), iv vl, iv z101, rv t33, iv z235] [(.int z235), (.ref t33)])) (fun _ k => XS.iload X102.here hx rfl (hb hby d10_239) rfl k) ?_
  refine own_st (T' := T102) (g' := (mkF m 242 #[rv a1, own_jv p2, .second, .val .null, rv vy, own_jv z23, .second, iv cn, iv (-1 : Int32), iv vl, iv z101, rv t33, iv z235] [(.int (0 : Int32)), (.int z235), (.ref t33)])) (fun _ k => XS.iconst X102.here hx rfl (hb hby d10_241) k) ?_
  obtain ⟨v112, T112, L112, X112, hQ112, st112⟩ := own_packS (Jvm.LawKit.callS X102 hx (y := (⟨"com/example/millrace/millrace/wire/ProtocolWriter", "putVarint", "([BII)I"⟩ : MethodName)) hown (mvT hZ (hw _ (List.mem_of_getElem? (i := 104) rfl))) (mvT hZ (hw _ (List.mem_of_getElem? (i := 105) rfl))) (mvT hZ (hw _ (List.mem_of_getElem? (i := 12) rfl))) (mvT hZ (hw _ (List.mem_of_getElem? (i := 106) rfl))) (by decide) (backOf (W := 0) (rm20 l Z a0 hw [] t33 z235 (0 : Int32) nn33 h102 n0 Zs102 Yq102 gn_t33 (by omega) (by decide) (by decide) (by rw [← hs30]; omega)) hZ (hw _ (List.mem_of_getElem? (i := 106) rfl)) (hw _ (List.mem_of_getElem? (i := 12) rfl)) (by decide) (by decide)) (g := (mkF m 242 #[rv a1, own_jv p2, .second, .val .null, rv vy, own_jv z23, .second, iv cn, iv (-1 : Int32), iv vl, iv z101, rv t33, iv z235] [(.int (0 : Int32)), (.int z235), (.ref t33)])) rfl (by rw [hml]; rfl) (argsL := [(.ref t33), (.int z235), (.int (0 : Int32))]) (rest := []) (lenOf own_pd10_5 rfl) rfl (by show 2 * 0 + _ ≤ _; exact Nat.le_of_eq rfl) (hb hby d10_242) (fun _ _ => ⟨rfl, e102, (by decide : 1 + 0 ≤ _), (by decide : 2190 + 0 ≤ _)⟩))
  obtain ⟨r112, rfl, hr112, N112q, Kq112, Yq112⟩ := hQ112
  obtain ⟨lc112, X112, N112⟩ := own_loc X112 (Fr.app N102 N112q)
  have Zs112 : n0 ≤ T112.heap.size := Nat.le_trans Zs102 Kq112.1
  have Fa113 : Exa Z T112.heap a1 "com/example/millrace/millrace/wire/RecordBatchBuilder" := Fa103.keep Kq112
  have Fa114 : Fld Z T112.heap a1 "com/example/millrace/millrace/wire/RecordBatchBuilder" "out" "Lcom/example/millrace/millrace/wire/ProtocolWriter;" (.ref wo) := Fa104.keep Kq112 (ninS ne_a1_t33 nin0)
  have Fa115 : Fld Z T112.heap a1 "com/example/millrace/millrace/wire/RecordBatchBuilder" "baseTimestamp" "J" (.long bt1) := Fa105.keep Kq112 (ninS ne_a1_t33 nin0)
  have Fa116 : Fld Z T112.heap a1 "com/example/millrace/millrace/wire/RecordBatchBuilder" "maxTimestamp" "J" (.long mt1) := Fa106.keep Kq112 (ninS ne_a1_t33 nin0)
  have Fa117 : Fld Z T112.heap a1 "com/example/millrace/millrace/wire/RecordBatchBuilder" "count" "I" (.int cn) := Fa107.keep Kq112 (ninS ne_a1_t33 nin0)
  have Fa118 : own_Y Z T112.heap vy vl := Fa108.keep Kq112 (ninS ne_vy_t33 nin0)
  have Fa119 : Exa Z T112.heap wo "com/example/millrace/millrace/wire/ProtocolWriter" := Fa109.keep Kq112
  have Fa120 : Fld Z T112.heap wo "com/example/millrace/millrace/wire/ProtocolWriter" "bytes" "[B" (.ref t33) := Fa110.keep Kq112 (ninS ne_wo_t33 nin0)
  have Fa121 : Fld Z T112.heap wo "com/example/millrace/millrace/wire/ProtocolWriter" "position" "I" (.int P) := Fa111.keep Kq112 (ninS ne_wo_t33 nin0)
  have Ke112 : Keep h0 T112.heap [a1, wo, t] := Ke102.trans Kq112 (allS ws_t33 all0)
  rw [← hs30] at hr112
  refine own_st (T' := T112) (g' := (mkF m 245 #[rv a1, own_jv p2, .second, .val .null, rv vy, own_jv z23, .second, iv cn, iv (-1 : Int32), iv vl, iv z101, rv t33, iv z235] [(.int r112)])) (fun _ k => (st112) _ k) ?_
  refine own_st (T' := T112) (g' := (mkF m 247 #[rv a1, own_jv p2, .second, .val .null, rv vy, own_jv z23, .second, iv cn, iv (-1 : Int32), iv vl, iv z101, rv t33, iv r112] [])) (fun _ k => XS.istore X112.here hx rfl (hb hby d10_245) rfl (l' := #[rv a1, own_jv p2, .second, .val .null, rv vy, own_jv z23, .second, iv cn, iv (-1 : Int32), iv vl, iv z101, rv t33, iv r112]) rfl k) ?_
  refine own_st (T' := T112) (g' := (mkF m 248 #[rv a1, own_jv p2, .second, .val .null, rv vy, own_jv z23, .second, iv cn, iv (-1 : Int32), iv vl, iv z101, rv t33, iv r112] [(.ref a1)])) (fun _ k => XS.aloadN X112.here hx rfl (hb hby d10_247) rfl rfl k) ?_
  obtain ⟨T122, X122, e122, st122⟩ := getF X112 hx hZ hown (host := "") (Or.inl (hw _ (List.mem_of_getElem? (i := 24) rfl))) Via.refl rfl Fa114 (g := (mkF m 248 #[rv a1, own_jv p2, .second, .val .null, rv vy, own_jv z23, .second, iv cn, iv (-1 : Int32), iv vl, iv z101, rv t33, iv r112] [(.ref a1)])) rfl rfl (hb hby d10_248)
  refine own_st (T' := T122) (g' := (mkF m 251 #[rv a1, own_jv p2, .second, .val .null, rv vy, own_jv z23, .second, iv cn, iv (-1 : Int32), iv vl, iv z101, rv t33, iv r112] [(.ref wo)])) (fun _ k => (st122) _ k) ?_
  refine own_st (T' := T122) (g' := (mkF m 253 #[rv a1, own_jv p2, .second, .val .null, rv vy, own_jv z23, .second, iv cn, iv (-1 : Int32), iv vl, iv z101, rv t33, iv r112] [(.int r112), (.ref wo)])) (fun _ k => XS.iload X122.here hx rfl (hb hby d10_251) rfl k) ?_
  obtain ⟨cq123, kq123, q123a, q123b, q123c⟩ := isOf hZ e122 Fa119
  obtain ⟨v123, T123, L123, X123, hQ123, st123⟩ := own_packV (X122.virtualBack hx (y := (⟨"com/example/millrace/millrace/wire/ProtocolWriter", "advanceTo", "(I)V"⟩ : MethodName)) (z := (⟨"com/example/millrace/millrace/wire/ProtocolWriter", "advanceTo", "(I)V"⟩ : MethodName)) hown (mvT hZ (hw _ (List.mem_of_getElem? (i := 114) rfl))) (mvT hZ (hw _ (List.mem_of_getElem? (i := 115) rfl))) (notFace_of_selects (args := #[]) (mvT hZ (hw _ (List.mem_of_getElem? (i := 117) rfl)))) (mvT hZ (hw _ (List.mem_of_getElem? (i := 117) rfl))) (mvT hZ (hw _ (List.mem_of_getElem? (i := 116) rfl))) (by decide) (backOf (W := 0) (rm23 l Z a0 hw [] wo r112 P t33 T112.heap n0 Zs112 Fa119 Fa121 Fa120 gn_wo) hZ (hw _ (List.mem_of_getElem? (i := 118) rfl)) (hw _ (List.mem_of_getElem? (i := 12) rfl)) (by decide) (by decide)) q123a q123c (g := (mkF m 253 #[rv a1, own_jv p2, .second, .val .null, rv vy, own_jv z23, .second, iv cn, iv (-1 : Int32), iv vl, iv z101, rv t33, iv r112] [(.int r112), (.ref wo)])) rfl (by rw [hml]; rfl) (Steps.refl _) (argsL := [(.int r112)]) (rest := []) (lenOf own_pd10_7 rfl) rfl (by show 2 * 0 + _ ≤ _; exact Nat.le_of_eq rfl) (hb hby d10_253) (fun _ _ => ⟨rfl, e122, (by decide : 1 + 0 ≤ _), (by decide : 2190 + 0 ≤ _)⟩))
  obtain ⟨rfl, N123q, Kq123, Fq123_0, Fq123_1, Fq123_2⟩ := hQ123
  obtain ⟨lc123, X123, N123⟩ := own_loc X123 (Fr.app N112 N123q)
  have Zs123 : n0 ≤ T123.heap.size := Nat.le_trans Zs112 Kq123.1
  have Fa124 : Exa Z T123.heap a1 "com/example/millrace/millrace/wire/RecordBatchBuilder" := Fa113.keep Kq123
  have Fa125 : Fld Z T123.heap a1 "com/example/millrace/millrace/wire/RecordBatchBuilder" "out" "Lcom/example/millrace/millrace/wire/ProtocolWriter;" (.ref wo) := Fa114.keep Kq123 (ninS ne_a1_wo nin0)
  have Fa126 : Fld Z T123.heap a1 "com/example/millrace/millrace/wire/RecordBatchBuilder" "baseTimestamp" "J" (.long bt1) := Fa115.keep Kq123 (ninS ne_a1_wo nin0)
  have Fa127 : Fld Z T123.heap a1 "com/example/millrace/millrace/wire/RecordBatchBuilder" "maxTimestamp" "J" (.long mt1) := Fa116.keep Kq123 (ninS ne_a1_wo nin0)
  have Fa128 : Fld Z T123.heap a1 "com/example/millrace/millrace/wire/RecordBatchBuilder" "count" "I" (.int cn) := Fa117.keep Kq123 (ninS ne_a1_wo nin0)
  have Fa129 : own_Y Z T123.heap vy vl := Fa118.keep Kq123 (ninS (Ne.symm ne_wo_vy) nin0)
  have Fa130 : own_Y Z T123.heap t33 nn33 := Yq112.keep Kq123 (ninS (Ne.symm ne_wo_t33) nin0)
  have Ke123 : Keep h0 T123.heap [a1, wo, t] := Ke112.trans Kq123 (allS (Or.inl (List.mem_of_getElem? (i := 1) rfl)) all0)
  refine own_st (T' := T123) (g' := (mkF m 256 #[rv a1, own_jv p2, .second, .val .null, rv vy, own_jv z23, .second, iv cn, iv (-1 : Int32), iv vl, iv z101, rv t33, iv r112] [])) (fun _ k => (st123) _ k) ?_
  refine own_st (T' := T123) (g' := (mkF m 257 #[rv a1, own_jv p2, .second, .val .null, rv vy, own_jv z23, .second, iv cn, iv (-1 : Int32), iv vl, iv z101, rv t33, iv r112] [(.ref a1)])) (fun _ k => XS.aloadN X123.here hx rfl (hb hby d10_256) rfl rfl k) ?_
  refine own_st (T' := T123) (g' := (mkF m 258 #[rv a1, own_jv p2, .second, .val .null, rv vy, own_jv z23, .second, iv cn, iv (-1 : Int32), iv vl, iv z101, rv t33, iv r112] [(.ref a1), (.ref a1)])) (fun _ k => XS.aloadN X123.here hx rfl (hb hby d10_257) rfl rfl k) ?_
  obtain ⟨T131, X131, e131, st131⟩ := getF X123 hx hZ hown (host := "") (Or.inl (hw _ (List.mem_of_getElem? (i := 67) rfl))) Via.refl rfl Fa127 (g := (mkF m 258 #[rv a1, own_jv p2, .second, .val .null, rv vy, own_jv z23, .second, iv cn, iv (-1 : Int32), iv vl, iv z101, rv t33, iv r112] [(.ref a1), (.ref a1)])) rfl rfl (hb hby d10_258)
  refine own_st (T' := T131) (g' := (mkF m 261 #[rv a1, own_jv p2, .second, .val .null, rv vy, own_jv z23, .second, iv cn, iv (-1 : Int32), iv vl, iv z101, rv t33, iv r112] [(.long mt1), (.ref a1)])) (fun _ k => (st131) _ k) ?_
  refine own_st (T' := T131) (g' := (mkF m 262 #[rv a1, own_jv p2, .second, .val .null, rv vy, own_jv z23, .second, iv cn, iv (-1 : Int32), iv vl, iv z101, rv t33, iv r112] [(.long p2), (.long mt1), (.ref a1)])) (fun _ k => XS.lloadN X131.here hx rfl (hb hby d10_261) rfl k) ?_
  obtain ⟨v132, T132, L132, X132, hQ132, st132⟩ := own_packS (Jvm.LawKit.callS X131 hx (y := (⟨"java/lang/Math", "max", "(JJ)J"⟩ : MethodName)) hown (mvT hZ (hw _ (List.mem_of_getElem? (i := 119) rfl))) (mvT hZ (hw _ (List.mem_of_getElem? (i := 94) rfl))) (mvT hZ (hw _ (List.mem_of_getElem? (i := 15) rfl))) (mvT hZ (hw _ (List.mem_of_getElem? (i := 95) rfl))) (by decide) (backOf (W := 1) (rm17 l Z a0 hw [] mt1 p2 T123.heap n0 Zs123 ) hZ (hw _ (List.mem_of_getElem? (i := 95) rfl)) (hw _ (List.mem_of_getElem? (i := 15) rfl)) (by decide) (by decide)) (g := (mkF m 262 #[rv a1, own_jv p2, .second, .val .null, rv vy, own_jv z23, .second, iv cn, iv (-1 : Int32), iv vl, iv z101, rv t33, iv r112] [(.long p2), (.long mt1), (.ref a1)])) rfl (by rw [hml]; rfl) (argsL := [(.long mt1), (.long p2)]) (rest := [(.ref a1)]) (lenOf own_pd10_8 rfl) rfl (by show 2 * 0 + _ ≤ _; exact Nat.le_of_eq rfl) (hb hby d10_262) (fun _ _ => ⟨rfl, e131, (by decide : 1 + 0 ≤ _), (by decide : 2190 + 0 ≤ _)⟩))
  obtain ⟨rfl, N132q, e132⟩ := hQ132
  obtain ⟨lc132, X132, N132⟩ := own_loc X132 (Fr.app N123 N132q)
  refine own_st (T' := T132) (g' := (mkF m 265 #[rv a1, own_jv p2, .second, .val .null, rv vy, own_jv z23, .second, iv cn, iv (-1 : Int32), iv vl, iv z101, rv t33, iv r112] [(.long (own_f17_0 mt1 p2)), (.ref a1)])) (fun _ k => (st132) _ k) ?_
  obtain ⟨T133, h133, X133, e133, W133, st133⟩ := putF X132 hx hZ hown (host := "") (Or.inl (hw _ (List.mem_of_getElem? (i := 67) rfl))) Via.refl e132 Fa127 Fa124 (Or.inl (hw _ (List.mem_of_getElem? (i := 68) rfl))) (hw _ (List.mem_of_getElem? (i := 2) rfl)) (ty := .long) (by decide) rfl rfl (g := (mkF m 265 #[rv a1, own_jv p2, .second, .val .null, rv vy, own_jv z23, .second, iv cn, iv (-1 : Int32), iv vl, iv z101, rv t33, iv r112] [(.long (own_f17_0 mt1 p2)), (.ref a1)])) rfl rfl (hb hby d10_265)
  have Fw133 := Fa127.same W133
  have Zs133 : n0 ≤ h133.size := Nat.le_trans Zs123 (Keep.of_wr W133).1
  obtain ⟨lc133, X133, N133⟩ := own_loc X133 (Fr.snoc X133 N132 gn_a1)
  have Fa134 : Exa Z h133 a1 "com/example/millrace/millrace/wire/RecordBatchBuilder" := Fa124.wr W133
  have Fa135 : Fld Z h133 a1 "com/example/millrace/millrace/wire/RecordBatchBuilder" "out" "Lcom/example/millrace/millrace/wire/ProtocolWriter;" (.ref wo) := Fa125.other W133 (Or.inr (slot_ne (Or.inr (hw _ (List.mem_of_getElem? (i := 25) rfl))) (Or.inl (hw _ (List.mem_of_getElem? (i := 68) rfl))) (by decide) (t := (.object "com/example/millrace/millrace/wire/ProtocolWriter")) (t' := .long) (by decide) (by decide)))
  have Fa136 : Fld Z h133 a1 "com/example/millrace/millrace/wire/RecordBatchBuilder" "baseTimestamp" "J" (.long bt1) := Fa126.other W133 (Or.inr (slot_ne (Or.inl (hw _ (List.mem_of_getElem? (i := 66) rfl))) (Or.inl (hw _ (List.mem_of_getElem? (i := 68) rfl))) (by decide) (t := .long) (t' := .long) (by decide) (by decide)))
  have Fa137 : Fld Z h133 a1 "com/example/millrace/millrace/wire/RecordBatchBuilder" "count" "I" (.int cn) := Fa128.other W133 (Or.inr (slot_ne (Or.inl (hw _ (List.mem_of_getElem? (i := 64) rfl))) (Or.inl (hw _ (List.mem_of_getElem? (i := 68) rfl))) (by decide) (t := .int) (t' := .long) (by decide) (by decide)))
  have Fa138 : own_Y Z h133 vy vl := Fa129.other W133 (Ne.symm ne_a1_vy)
  have Fa139 : own_Y Z h133 t33 nn33 := Fa130.other W133 (Ne.symm ne_a1_t33)
  have Fa140 : Exa Z h133 wo "com/example/millrace/millrace/wire/ProtocolWriter" := Fq123_0.wr W133
  have Fa141 : Fld Z h133 wo "com/example/millrace/millrace/wire/ProtocolWriter" "position" "I" (.int r112) := Fq123_1.other W133 (Or.inl (Ne.symm ne_a1_wo))
  have Fa142 : Fld Z h133 wo "com/example/millrace/millrace/wire/ProtocolWriter" "bytes" "[B" (.ref t33) := Fq123_2.other W133 (Or.inl (Ne.symm ne_a1_wo))
  have Ke133 : Keep h0 h133 [a1, wo, t] := Ke123.wr W133 (Or.inl (List.mem_of_getElem? (i := 0) rfl))
  refine own_st (T' := T133) (g' := (mkF m 268 #[rv a1, own_jv p2, .second, .val .null, rv vy, own_jv z23, .second, iv cn, iv (-1 : Int32), iv vl, iv z101, rv t33, iv r112] [])) (fun _ k => (st133) _ k) ?_
  refine own_st (T' := T133) (g' := (mkF m 269 #[rv a1, own_jv p2, .second, .val .null, rv vy, own_jv z23, .second, iv cn, iv (-1 : Int32), iv vl, iv z101, rv t33, iv r112] [(.ref a1)])) (fun _ k => XS.aloadN X133.here hx rfl (hb hby d10_268) rfl rfl k) ?_
  refine own_st (T' := T133) (g' := (mkF m 270 #[rv a1, own_jv p2, .second, .val .null, rv vy, own_jv z23, .second, iv cn, iv (-1 : Int32), iv vl, iv z101, rv t33, iv r112] [(.ref a1), (.ref a1)])) (fun _ k => XS.dup X133.here hx rfl (hb hby d10_269) rfl rfl k) ?_
  obtain ⟨T143, X143, e143, st143⟩ := getF X133 hx hZ hown (host := "") (Or.inl (hw _ (List.mem_of_getElem? (i := 63) rfl))) Via.refl e133 Fa137 (g := (mkF m 270 #[rv a1, own_jv p2, .second, .val .null, rv vy, own_jv z23, .second, iv cn, iv (-1 : Int32), iv vl, iv z101, rv t33, iv r112] [(.ref a1), (.ref a1)])) rfl rfl (hb hby d10_270)
  refine own_st (T' := T143) (g' := (mkF m 273 #[rv a1, own_jv p2, .second, .val .null, rv vy, own_jv z23, .second, iv cn, iv (-1 : Int32), iv vl, iv z101, rv t33, iv r112] [(.int cn), (.ref a1)])) (fun _ k => (st143) _ k) ?_
  refine own_st (T' := T143) (g' := (mkF m 274 #[rv a1, own_jv p2, .second, .val .null, rv vy, own_jv z23, .second, iv cn, iv (-1 : Int32), iv vl, iv z101, rv t33, iv r112] [(.int (1 : Int32)), (.int cn), (.ref a1)])) (fun _ k => XS.iconst X143.here hx rfl (hb hby d10_273) k) ?_
  refine own_st (T' := T143) (g' := (mkF m 275 #[rv a1, own_jv p2, .second, .val .null, rv vy, own_jv z23, .second, iv cn, iv (-1 : Int32), iv vl, iv z101, rv t33, iv r112] [(.int (cn + (1 : Int32))), (.ref a1)])) (fun _ k => XS.iadd X143.here hx rfl (hb hby d10_274) rfl k) ?_
  obtain ⟨T144, h144, X144, e144, W144, st144⟩ := putF X143 hx hZ hown (host := "") (Or.inl (hw _ (List.mem_of_getElem? (i := 63) rfl))) Via.refl e143 Fa137 Fa134 (Or.inl (hw _ (List.mem_of_getElem? (i := 64) rfl))) (hw _ (List.mem_of_getElem? (i := 2) rfl)) (ty := .int) (by decide) rfl rfl (g := (mkF m 275 #[rv a1, own_jv p2, .second, .val .null, rv vy, own_jv z23, .second, iv cn, iv (-1 : Int32), iv vl, iv z101, rv t33, iv r112] [(.int (cn + (1 : Int32))), (.ref a1)])) rfl rfl (hb hby d10_275)
  have Fw144 := Fa137.same W144
  have Zs144 : n0 ≤ h144.size := Nat.le_trans Zs133 (Keep.of_wr W144).1
  obtain ⟨lc144, X144, N144⟩ := own_loc X144 (Fr.snoc X144 N133 gn_a1)
  have Fa145 : Exa Z h144 a1 "com/example/millrace/millrace/wire/RecordBatchBuilder" := Fa134.wr W144
  have Fa146 : Fld Z h144 a1 "com/example/millrace/millrace/wire/RecordBatchBuilder" "out" "Lcom/example/millrace/millrace/wire/ProtocolWriter;" (.ref wo) := Fa135.other W144 (Or.inr (slot_ne (Or.inr (hw _ (List.mem_of_getElem? (i := 25) rfl))) (Or.inl (hw _ (List.mem_of_getElem? (i := 64) rfl))) (by decide) (t := (.object "com/example/millrace/millrace/wire/ProtocolWriter")) (t' := .int) (by decide) (by decide)))
  have Fa147 : Fld Z h144 a1 "com/example/millrace/millrace/wire/RecordBatchBuilder" "baseTimestamp" "J" (.long bt1) := Fa136.other W144 (Or.inr (slot_ne (Or.inl (hw _ (List.mem_of_getElem? (i := 66) rfl))) (Or.inl (hw _ (List.mem_of_getElem? (i := 64) rfl))) (by decide) (t := .long) (t' := .int) (by decide) (by decide)))
  have Fa148 : own_Y Z h144 vy vl := Fa138.other W144 (Ne.symm ne_a1_vy)
  have Fa149 : own_Y Z h144 t33 nn33 := Fa139.other W144 (Ne.symm ne_a1_t33)
  have Fa150 : Exa Z h144 wo "com/example/millrace/millrace/wire/ProtocolWriter" := Fa140.wr W144
  have Fa151 : Fld Z h144 wo "com/example/millrace/millrace/wire/ProtocolWriter" "position" "I" (.int r112) := Fa141.other W144 (Or.inl (Ne.symm ne_a1_wo))
  have Fa152 : Fld Z h144 wo "com/example/millrace/millrace/wire/ProtocolWriter" "bytes" "[B" (.ref t33) := Fa142.other W144 (Or.inl (Ne.symm ne_a1_wo))
  have Fa153 : Fld Z h144 a1 "com/example/millrace/millrace/wire/RecordBatchBuilder" "maxTimestamp" "J" (.long (own_f17_0 mt1 p2)) := Fw133.other W144 (Or.inr (slot_ne (Or.inl (hw _ (List.mem_of_getElem? (i := 68) rfl))) (Or.inl (hw _ (List.mem_of_getElem? (i := 64) rfl))) (by decide) (t := .long) (t' := .int) (by decide) (by decide)))
  have Ke144 : Keep h0 h144 [a1, wo, t] := Ke133.wr W144 (Or.inl (List.mem_of_getElem? (i := 0) rfl))
  refine own_st (T' := T144) (g' := (mkF m 278 #[rv a1, own_jv p2, .second, .val .null, rv vy, own_jv z23, .second, iv cn, iv (-1 : Int32), iv vl, iv z101, rv t33, iv r112] [])) (fun _ k => (st144) _ k) ?_
  exact own_end (Q := Q10_10 Z a1 p2 vy wo t bt mt cn P n vl h0 n0) (v := none) X144 (fun _ => rfl) (fun fs hr => X144.returnOut hx Bd.returns (hb hby d10_278) hr) (by rw [e144]; exact ⟨rfl, N144, Ke144, ⟨t33, nn33, r112, bt1, _, hto33, gn_t33, by omega, by omega, by omega, by omega, ⟨Fa145, Fa146, Fa147, Fa153, Fw144, Fa150, Fa152, Fa151, Fa149⟩⟩⟩) (by decide) (by decide)
theorem own_ef10_01 (m : MethodId) (x0 : Addr) (x1 : Int64) (x2 : Addr) : entryFrame m #[(.ref x0), (.long x1), (.ref x2), .null] 13 = mkF m 0 #[rv x0, own_jv x1, .second, rv x2, .val .null, .unset, .unset, .unset, .unset, .unset, .unset, .unset, .unset] [] := by first | (simp [entryFrame, mkF, argsToLocals, Value.category]; done) | rfl
def Q10_01 (Z : State) (a1 : Addr) (p2 : Int64) (ky : Addr) (wo t : Addr) (bt mt : Int64) (cn P n : Int32) (kl : Int32) (h0 : Heap) (n0 : Nat) (v : Option Value) (h : Heap) (L : List Loc) : Prop := v = none ∧ Fr n0 L ∧ Keep h0 h [a1, wo, t] ∧ ∃ (t' : Addr) (n' P' : Int32) (bt' mt' : Int64), (t' = t ∨ h0.size ≤ t') ∧ n0 ≤ t' ∧ P.toInt ≤ P'.toInt ∧ P'.toInt ≤ P.toInt + 21 + kl.toInt ∧ (n'.toInt ≤ P.toInt + 21 + kl.toInt ∨ n'.toInt ≤ 2 * n.toInt) ∧ 0 < n'.toInt ∧ own_S Z h a1 wo t' bt' mt' (cn + (1 : Int32)) P' n'
set_option maxRecDepth 65536 in
set_option maxHeartbeats 40000000 in
theorem rm10_01 (l : Launch) (Z : State) (a0 : Array Value) (hw : ∀ d ∈ tables_1, d.before a0 Z = true) (ws : List Jvm.Cond) (a1 : Addr) (p2 : Int64) (ky : Addr) (wo t : Addr) (bt mt : Int64) (cn P n : Int32) (kl : Int32) (h0 : Heap) (n0 : Nat) (Z0 : n0 ≤ h0.size) (E_a1 : Exa Z h0 a1 "com/example/millrace/millrace/wire/RecordBatchBuilder") (F_o : Fld Z h0 a1 "com/example/millrace/millrace/wire/RecordBatchBuilder" "out" "Lcom/example/millrace/millrace/wire/ProtocolWriter;" (.ref wo)) (F_bt : Fld Z h0 a1 "com/example/millrace/millrace/wire/RecordBatchBuilder" "baseTimestamp" "J" (.long bt)) (F_mt : Fld Z h0 a1 "com/example/millrace/millrace/wire/RecordBatchBuilder" "maxTimestamp" "J" (.long mt)) (F_c : Fld Z h0 a1 "com/example/millrace/millrace/wire/RecordBatchBuilder" "count" "I" (.int cn)) (E_wo : Exa Z h0 wo "com/example/millrace/millrace/wire/ProtocolWriter") (F_b : Fld Z h0 wo "com/example/millrace/millrace/wire/ProtocolWriter" "bytes" "[B" (.ref t)) (F_p : Fld Z h0 wo "com/example/millrace/millrace/wire/ProtocolWriter" "position" "I" (.int P)) (Y_t : own_Y Z h0 t n) (Y_k : own_Y Z h0 ky kl) (gn_a1 : n0 ≤ a1) (gn_wo : n0 ≤ wo) (gn_t : n0 ≤ t) (ne_a1_wo : a1 ≠ wo) (ne_a1_t : a1 ≠ t) (ne_wo_t : wo ≠ t) (ne_a1_ky : a1 ≠ ky) (ne_wo_ky : wo ≠ ky) (ne_t_ky : t ≠ ky) (hc0 : 0 ≤ cn.toInt) (hc1 : cn.toInt ≤ 100) (hP0 : 0 ≤ P.toInt) (hP : P.toInt ≤ 90) (hn0 : 0 < n.toInt) (hn : n.toInt ≤ 300) (hk0 : 0 ≤ kl.toInt) (hk1 : kl.toInt ≤ 1023) :
    MetFree l (⟨"com/example/millrace/millrace/wire/RecordBatchBuilder", "append", "(J[B[B)V"⟩ : MethodName) (head1 (Jvm.Cond.code (⟨"com/example/millrace/millrace/wire/RecordBatchBuilder", "append", "(J[B[B)V"⟩ : MethodName) prog_130_method_6_code 13 none :: ws) ({ frames := 5, cells := 1, slots := 2190, locals := 110 } : Room)) (fun a U => a = #[(.ref a1), (.long p2), (.ref ky), .null] ∧ Z.Warmed39 U.vm ∧ U.heap = h0) (fun _ _ _ _ _ => True) (fun _ U o U' => ∃ v L, o = .returned v ∧ Q10_01 Z a1 p2 ky wo t bt mt cn P n kl h0 n0 v U'.heap L ∧ FrameEnd U o U' L ({ frames := 5, cells := 1, slots := 2190, locals := 110 } : Room).cells ({ frames := 5, cells := 1, slots := 2190, locals := 110 } : Room).slots) := by
  refine MetFree.of_bodySF (plainFor_of_name own_pn10) hisR ?_
  intro p e s m args below meth c s₁ Bd hml0 hP hK
  obtain ⟨rfl, hZ, hh⟩ := hP
  have hx := Bd.exec
  have hby := Bd.bytes
  have hml : c.maxLocals = 13 := hml0
  have hown : s.vm.findClass "com/example/millrace/millrace/wire/RecordBatchBuilder" = some m.cls := findClass_of_methodNamed Bd.named
  have hnm := (name_of_methodNamed Bd.named Bd.method).1
  have hlk := Bd.notSynchronized
  have X0 : Stand p l e ({ frames := 5, cells := 1, slots := 2190, locals := 110 } : Room) s m #[(.ref a1), (.long p2), (.ref ky), .null] below meth c s₁ [] 0 0 := Stand.of_body Bd
  have e0 : s₁.heap = h0 := by rw [← hh, Bd.state]; rfl
  have N0 := Fr.nil n0
  show own_Goes p e below (fun o U' => ∃ v L, o = .returned v ∧ Q10_01 Z a1 p2 ky wo t bt mt cn P n kl h0 n0 v U'.heap L ∧ FrameEnd s o U' L ({ frames := 5, cells := 1, slots := 2190, locals := 110 } : Room).cells ({ frames := 5, cells := 1, slots := 2190, locals := 110 } : Room).slots) s₁ (entryFrame m #[(.ref a1), (.long p2), (.ref ky), .null] 13)
  refine own_st (T' := s₁) (g' := mkF m 0 #[rv a1, own_jv p2, .second, rv ky, .val .null, .unset, .unset, .unset, .unset, .unset, .unset, .unset, .unset] []) (fun _ k => castTop (own_ef10_01 m a1 p2 ky) k) ?_
  suffices J17 : ∀ (T' : State) (h' : Heap) (lc' : List Loc) (bt1 mt1 : Int64) (X' : Stand p l e ({ frames := 5, cells := 1, slots := 2190, locals := 110 } : Room) s m #[(.ref a1), (.long p2), (.ref ky), .null] below meth c T' lc' 0 0) (e' : T'.heap = h') (N' : Fr n0 lc') (Zh' : n0 ≤ h'.size) (Kp' : Keep h0 h' [a1, wo, t]) (Fj0 : Exa Z h' a1 "com/example/millrace/millrace/wire/RecordBatchBuilder") (Fj1 : Fld Z h' a1 "com/example/millrace/millrace/wire/RecordBatchBuilder" "out" "Lcom/example/millrace/millrace/wire/ProtocolWriter;" (.ref wo)) (Fj2 : Fld Z h' a1 "com/example/millrace/millrace/wire/RecordBatchBuilder" "baseTimestamp" "J" (.long bt1)) (Fj3 : Fld Z h' a1 "com/example/millrace/millrace/wire/RecordBatchBuilder" "maxTimestamp" "J" (.long mt1)) (Fj4 : Fld Z h' a1 "com/example/millrace/millrace/wire/RecordBatchBuilder" "count" "I" (.int cn)) (Fj5 : Exa Z h' wo "com/example/millrace/millrace/wire/ProtocolWriter") (Fj6 : Fld Z h' wo "com/example/millrace/millrace/wire/ProtocolWriter" "bytes" "[B" (.ref t)) (Fj7 : Fld Z h' wo "com/example/millrace/millrace/wire/ProtocolWriter" "position" "I" (.int P)) (Fj8 : own_Y Z h' t n) (Fj9 : own_Y Z h' ky kl), own_Goes p e below (fun o U' => ∃ v L, o = .returned v ∧ Q10_01 Z a1 p2 ky wo t bt mt cn P n kl h0 n0 v U'.heap L ∧ FrameEnd s o U' L ({ frames := 5, cells := 1, slots := 2190, locals := 110 } : Room).cells ({ frames := 5, cells := 1, slots := 2190, locals := 110 } : Room).slots) T' (mkF m 17 #[rv a1, own_jv p2, .second, rv ky, .val .null, .unset, .unset, .unset, .unset, .unset, .unset, .unset, .unset] []) by
    refine own_st (T' := s₁) (g' := (mkF m 1 #[rv a1, own_jv p2, .second, rv ky, .val .null, .unset, .unset, .unset, .unset, .unset, .unset, .unset, .unset] [(.ref a1)])) (fun _ k => XS.aloadN X0.here hx rfl (hb hby d10_0) rfl rfl k) ?_
    obtain ⟨T1, X1, e1, st1⟩ := getF X0 hx hZ hown (host := "") (Or.inl (hw _ (List.mem_of_getElem? (i := 63) rfl))) Via.refl e0 F_c (g := (mkF m 1 #[rv a1, own_jv p2, .second, rv ky, .val .null, .unset, .unset, .unset, .unset, .unset, .unset, .unset, .unset] [(.ref a1)])) rfl rfl (hb hby d10_1)
    refine own_st (T' := T1) (g' := (mkF m 4 #[rv a1, own_jv p2, .second, rv ky, .val .null, .unset, .unset, .unset, .unset, .unset, .unset, .unset, .unset] [(.int cn)])) (fun _ k => (st1) _ k) ?_
    by_cases hc4 : cn = (0 : Int32)
    · refine own_st (T' := T1) (g' := (mkF m 7 #[rv a1, own_jv p2, .second, rv ky, .val .null, .unset, .unset, .unset, .unset, .unset, .unset, .unset, .unset] [])) (fun _ k => XS.ifNo X1.here hx rfl (hb hby d10_4) rfl ((if0 _ _).trans (teq hc4).2) k) ?_
      refine own_st (T' := T1) (g' := (mkF m 8 #[rv a1, own_jv p2, .second, rv ky, .val .null, .unset, .unset, .unset, .unset, .unset, .unset, .unset, .unset] [(.ref a1)])) (fun _ k => XS.aloadN X1.here hx rfl (hb hby d10_7) rfl rfl k) ?_
      refine own_st (T' := T1) (g' := (mkF m 9 #[rv a1, own_jv p2, .second, rv ky, .val .null, .unset, .unset, .unset, .unset, .unset, .unset, .unset, .unset] [(.long p2), (.ref a1)])) (fun _ k => XS.lloadN X1.here hx rfl (hb hby d10_8) rfl k) ?_
      obtain ⟨T2, h2, X2, e2, W2, st2⟩ := putF X1 hx hZ hown (host := "") (Or.inl (hw _ (List.mem_of_getElem? (i := 65) rfl))) Via.refl e1 F_bt E_a1 (Or.inl (hw _ (List.mem_of_getElem? (i := 66) rfl))) (hw _ (List.mem_of_getElem? (i := 2) rfl)) (ty := .long) (by decide) rfl rfl (g := (mkF m 9 #[rv a1, own_jv p2, .second, rv ky, .val .null, .unset, .unset, .unset, .unset, .unset, .unset, .unset, .unset] [(.long p2), (.ref a1)])) rfl rfl (hb hby d10_9)
      have Fw2 := F_bt.same W2
      have Zs2 : n0 ≤ h2.size := Nat.le_trans Z0 (Keep.of_wr W2).1
      obtain ⟨lc2, X2, N2⟩ := own_loc X2 (Fr.snoc X2 N0 gn_a1)
      have Fa3 : Exa Z h2 a1 "com/example/millrace/millrace/wire/RecordBatchBuilder" := E_a1.wr W2
      have Fa4 : Fld Z h2 a1 "com/example/millrace/millrace/wire/RecordBatchBuilder" "out" "Lcom/example/millrace/millrace/wire/ProtocolWriter;" (.ref wo) := F_o.other W2 (Or.inr (slot_ne (Or.inr (hw _ (List.mem_of_getElem? (i := 25) rfl))) (Or.inl (hw _ (List.mem_of_getElem? (i := 66) rfl))) (by decide) (t := (.object "com/example/millrace/millrace/wire/ProtocolWriter")) (t' := .long) (by decide) (by decide)))
      have Fa5 : Fld Z h2 a1 "com/example/millrace/millrace/wire/RecordBatchBuilder" "maxTimestamp" "J" (.long mt) := F_mt.other W2 (Or.inr (slot_ne (Or.inl (hw _ (List.mem_of_getElem? (i := 68) rfl))) (Or.inl (hw _ (List.mem_of_getElem? (i := 66) rfl))) (by decide) (t := .long) (t' := .long) (by decide) (by decide)))
      have Fa6 : Fld Z h2 a1 "com/example/millrace/millrace/wire/RecordBatchBuilder" "count" "I" (.int cn) := F_c.other W2 (Or.inr (slot_ne (Or.inl (hw _ (List.mem_of_getElem? (i := 64) rfl))) (Or.inl (hw _ (List.mem_of_getElem? (i := 66) rfl))) (by decide) (t := .int) (t' := .long) (by decide) (by decide)))
      have Fa7 : Exa Z h2 wo "com/example/millrace/millrace/wire/ProtocolWriter" := E_wo.wr W2
      have Fa8 : Fld Z h2 wo "com/example/millrace/millrace/wire/ProtocolWriter" "bytes" "[B" (.ref t) := F_b.other W2 (Or.inl (Ne.symm ne_a1_wo))
      have Fa9 : Fld Z h2 wo "com/example/millrace/millrace/wire/ProtocolWriter" "position" "I" (.int P) := F_p.other W2 (Or.inl (Ne.symm ne_a1_wo))
      have Fa10 : own_Y Z h2 t n := Y_t.other W2 (Ne.symm ne_a1_t)
      have Fa11 : own_Y Z h2 ky kl := Y_k.other W2 (Ne.symm ne_a1_ky)
      have Ke2 : Keep h0 h2 [a1, wo, t] := (Keep.refl h0 [a1, wo, t]).wr W2 (Or.inl (List.mem_of_getElem? (i := 0) rfl))
      refine own_st (T' := T2) (g' := (mkF m 12 #[rv a1, own_jv p2, .second, rv ky, .val .null, .unset, .unset, .unset, .unset, .unset, .unset, .unset, .unset] [])) (fun _ k => (st2) _ k) ?_
      refine own_st (T' := T2) (g' := (mkF m 13 #[rv a1, own_jv p2, .second, rv ky, .val .null, .unset, .unset, .unset, .unset, .unset, .unset, .unset, .unset] [(.ref a1)])) (fun _ k => XS.aloadN X2.here hx rfl (hb hby d10_12) rfl rfl k) ?_
      refine own_st (T' := T2) (g' := (mkF m 14 #[rv a1, own_jv p2, .second, rv ky, .val .null, .unset, .unset, .unset, .unset, .unset, .unset, .unset, .unset] [(.long p2), (.ref a1)])) (fun _ k => XS.lloadN X2.here hx rfl (hb hby d10_13) rfl k) ?_
      obtain ⟨T12, h12, X12, e12, W12, st12⟩ := putF X2 hx hZ hown (host := "") (Or.inl (hw _ (List.mem_of_getElem? (i := 67) rfl))) Via.refl e2 Fa5 Fa3 (Or.inl (hw _ (List.mem_of_getElem? (i := 68) rfl))) (hw _ (List.mem_of_getElem? (i := 2) rfl)) (ty := .long) (by decide) rfl rfl (g := (mkF m 14 #[rv a1, own_jv p2, .second, rv ky, .val .null, .unset, .unset, .unset, .unset, .unset, .unset, .unset, .unset] [(.long p2), (.ref a1)])) rfl rfl (hb hby d10_14)
      have Fw12 := Fa5.same W12
      have Zs12 : n0 ≤ h12.size := Nat.le_trans Zs2 (Keep.of_wr W12).1
      obtain ⟨lc12, X12, N12⟩ := own_loc X12 (Fr.snoc X12 N2 gn_a1)
      have Fa13 : Exa Z h12 a1 "com/example/millrace/millrace/wire/RecordBatchBuilder" := Fa3.wr W12
      have Fa14 : Fld Z h12 a1 "com/example/millrace/millrace/wire/RecordBatchBuilder" "out" "Lcom/example/millrace/millrace/wire/ProtocolWriter;" (.ref wo) := Fa4.other W12 (Or.inr (slot_ne (Or.inr (hw _ (List.mem_of_getElem? (i := 25) rfl))) (Or.inl (hw _ (List.mem_of_getElem? (i := 68) rfl))) (by decide) (t := (.object "com/example/millrace/millrace/wire/ProtocolWriter")) (t' := .long) (by decide) (by decide)))
      have Fa15 : Fld Z h12 a1 "com/example/millrace/millrace/wire/RecordBatchBuilder" "count" "I" (.int cn) := Fa6.other W12 (Or.inr (slot_ne (Or.inl (hw _ (List.mem_of_getElem? (i := 64) rfl))) (Or.inl (hw _ (List.mem_of_getElem? (i := 68) rfl))) (by decide) (t := .int) (t' := .long) (by decide) (by decide)))
      have Fa16 : Exa Z h12 wo "com/example/millrace/millrace/wire/ProtocolWriter" := Fa7.wr W12
      have Fa17 : Fld Z h12 wo "com/example/millrace/millrace/wire/ProtocolWriter" "bytes" "[B" (.ref t) := Fa8.other W12 (Or.inl (Ne.symm ne_a1_wo))
      have Fa18 : Fld Z h12 wo "com/example/millrace/millrace/wire/ProtocolWriter" "position" "I" (.int P) := Fa9.other W12 (Or.inl (Ne.symm ne_a1_wo))
      have Fa19 : own_Y Z h12 t n := Fa10.other W12 (Ne.symm ne_a1_t)
      have Fa20 : own_Y Z h12 ky kl := Fa11.other W12 (Ne.symm ne_a1_ky)
      have Fa21 : Fld Z h12 a1 "com/example/millrace/millrace/wire/RecordBatchBuilder" "baseTimestamp" "J" (.long p2) := Fw2.other W12 (Or.inr (slot_ne (Or.inl (hw _ (List.mem_of_getElem? (i := 66) rfl))) (Or.inl (hw _ (List.mem_of_getElem? (i := 68) rfl))) (by decide) (t := .long) (t' := .long) (by decide) (by decide)))
      have Ke12 : Keep h0 h12 [a1, wo, t] := Ke2.wr W12 (Or.inl (List.mem_of_getElem? (i := 0) rfl))
      refine own_st (T' := T12) (g' := (mkF m 17 #[rv a1, own_jv p2, .second, rv ky, .val .null, .unset, .unset, .unset, .unset, .unset, .unset, .unset, .unset] [])) (fun _ k => (st12) _ k) ?_
      exact J17 _ _ _ _ _ X12 e12 N12 Zs12 Ke12 Fa13 Fa14 Fa21 Fw12 Fa15 Fa16 Fa17 Fa18 Fa19 Fa20
    · refine own_st (T' := T1) (g' := (mkF m 17 #[rv a1, own_jv p2, .second, rv ky, .val .null, .unset, .unset, .unset, .unset, .unset, .unset, .unset, .unset] [])) (fun _ k => XS.ifYes X1.here hx rfl (pc0 := 4) (pc' := 17) rfl (hb hby d10_4) rfl ((if0 _ _).trans (feq hc4).2) (by decide) (by decide) k) ?_
      exact J17 _ _ _ _ _ X1 e1 N0 Z0 (Keep.refl h0 [a1, wo, t]) E_a1 F_o F_bt F_mt F_c E_wo F_b F_p Y_t Y_k
  intro TJ hJ lcJ bt1 mt1 XJ eJ NJ ZJ KJ Fj0 Fj1 Fj2 Fj3 Fj4 Fj5 Fj6 Fj7 Fj8 Fj9
  refine own_st (T' := TJ) (g' := (mkF m 18 #[rv a1, own_jv p2, .second, rv ky, .val .null, .unset, .unset, .unset, .unset, .unset, .unset, .unset, .unset] [(.long p2)])) (fun _ k => XS.lloadN XJ.here hx rfl (hb hby d10_17) rfl k) ?_
  refine own_st (T' := TJ) (g' := (mkF m 19 #[rv a1, own_jv p2, .second, rv ky, .val .null, .unset, .unset, .unset, .unset, .unset, .unset, .unset, .unset] [(.ref a1), (.long p2)])) (fun _ k => XS.aloadN XJ.here hx rfl (hb hby d10_18) rfl rfl k) ?_
  obtain ⟨T22, X22, e22, st22⟩ := getF XJ hx hZ hown (host := "") (Or.inl (hw _ (List.mem_of_getElem? (i := 65) rfl))) Via.refl eJ Fj2 (g := (mkF m 19 #[rv a1, own_jv p2, .second, rv ky, .val .null, .unset, .unset, .unset, .unset, .unset, .unset, .unset, .unset] [(.ref a1), (.long p2)])) rfl rfl (hb hby d10_19)
  refine own_st (T' := T22) (g' := (mkF m 22 #[rv a1, own_jv p2, .second, rv ky, .val .null, .unset, .unset, .unset, .unset, .unset, .unset, .unset, .unset] [(.long bt1), (.long p2)])) (fun _ k => (st22) _ k) ?_
  refine own_st (T' := T22) (g' := (mkF m 23 #[rv a1, own_jv p2, .second, rv ky, .val .null, .unset, .unset, .unset, .unset, .unset, .unset, .unset, .unset] [(.long (p2 - bt1))])) (fun _ k => XS.lsub X22.here hx rfl (hb hby d10_22) rfl k) ?_
  generalize hz23 : (p2 - bt1) = z23
  refine own_st (T' := T22) (g' := (mkF m 25 #[rv a1, own_jv p2, .second, rv ky, .val .null, own_jv z23, .second, .unset, .unset, .unset, .unset, .unset, .unset] [])) (fun _ k => XS.lstore X22.here hx rfl (hb hby d10_23) rfl (l' := #[rv a1, own_jv p2, .second, rv ky, .val .null, own_jv z23, .second, .unset, .unset, .unset, .unset, .unset, .unset]) rfl k) ?_
  refine own_st (T' := T22) (g' := (mkF m 26 #[rv a1, own_jv p2, .second, rv ky, .val .null, own_jv z23, .second, .unset, .unset, .unset, .unset, .unset, .unset] [(.ref a1)])) (fun _ k => XS.aloadN X22.here hx rfl (hb hby d10_25) rfl rfl k) ?_
  obtain ⟨T23, X23, e23, st23⟩ := getF X22 hx hZ hown (host := "") (Or.inl (hw _ (List.mem_of_getElem? (i := 63) rfl))) Via.refl e22 Fj4 (g := (mkF m 26 #[rv a1, own_jv p2, .second, rv ky, .val .null, own_jv z23, .second, .unset, .unset, .unset, .unset, .unset, .unset] [(.ref a1)])) rfl rfl (hb hby d10_26)
  refine own_st (T' := T23) (g' := (mkF m 29 #[rv a1, own_jv p2, .second, rv ky, .val .null, own_jv z23, .second, .unset, .unset, .unset, .unset, .unset, .unset] [(.int cn)])) (fun _ k => (st23) _ k) ?_
  refine own_st (T' := T23) (g' := (mkF m 31 #[rv a1, own_jv p2, .second, rv ky, .val .null, own_jv z23, .second, iv cn, .unset, .unset, .unset, .unset, .unset] [])) (fun _ k => XS.istore X23.here hx rfl (hb hby d10_29) rfl (l' := #[rv a1, own_jv p2, .second, rv ky, .val .null, own_jv z23, .second, iv cn, .unset, .unset, .unset, .unset, .unset]) rfl k) ?_
  refine own_st (T' := T23) (g' := (mkF m 32 #[rv a1, own_jv p2, .second, rv ky, .val .null, own_jv z23, .second, iv cn, .unset, .unset, .unset, .unset, .unset] [(.ref ky)])) (fun _ k => XS.aloadN X23.here hx rfl (hb hby d10_31) rfl rfl k) ?_
  refine own_st (T' := T23) (g' := (mkF m 39 #[rv a1, own_jv p2, .second, rv ky, .val .null, own_jv z23, .second, iv cn, .unset, .unset, .unset, .unset, .unset] [])) (fun _ k => XS.ifnonnullYes X23.here hx rfl (pc0 := 32) (pc' := 39) rfl (hb hby d10_32) rfl (by decide) (by decide) k) ?_
  refine own_st (T' := T23) (g' := (mkF m 40 #[rv a1, own_jv p2, .second, rv ky, .val .null, own_jv z23, .second, iv cn, .unset, .unset, .unset, .unset, .unset] [(.ref ky)])) (fun _ k => XS.aloadN X23.here hx rfl (hb hby d10_39) rfl rfl k) ?_
  refine own_st (T' := T23) (g' := (mkF m 41 #[rv a1, own_jv p2, .second, rv ky, .val .null, own_jv z23, .second, iv cn, .unset, .unset, .unset, .unset, .unset] [(.int kl)])) (fun _ k => (own_alen X23 hx hZ e23 Fj9 (g := (mkF m 40 #[rv a1, own_jv p2, .second, rv ky, .val .null, own_jv z23, .second, iv cn, .unset, .unset, .unset, .unset, .unset] [(.ref ky)])) rfl rfl (hb hby d10_40)) _ k) ?_
  refine own_st (T' := T23) (g' := (mkF m 43 #[rv a1, own_jv p2, .second, rv ky, .val .null, own_jv z23, .second, iv cn, iv kl, .unset, .unset, .unset, .unset] [])) (fun _ k => XS.istore X23.here hx rfl (hb hby d10_41) rfl (l' := #[rv a1, own_jv p2, .second, rv ky, .val .null, own_jv z23, .second, iv cn, iv kl, .unset, .unset, .unset, .unset]) rfl k) ?_
  refine own_st (T' := T23) (g' := (mkF m 45 #[rv a1, own_jv p2, .second, rv ky, .val .null, own_jv z23, .second, iv cn, iv kl, .unset, .unset, .unset, .unset] [.null])) (fun _ k => XS.aload X23.here hx rfl (hb hby d10_43) rfl rfl k) ?_
  refine own_st (T' := T23) (g' := (mkF m 48 #[rv a1, own_jv p2, .second, rv ky, .val .null, own_jv z23, .second, iv cn, iv kl, .unset, .unset, .unset, .unset] [])) (fun _ k => XS.ifnonnullNo X23.here hx rfl (hb hby d10_45) rfl k) ?_
  refine own_st (T' := T23) (g' := (mkF m 49 #[rv a1, own_jv p2, .second, rv ky, .val .null, own_jv z23, .second, iv cn, iv kl, .unset, .unset, .unset, .unset] [(.int (-1 : Int32))])) (fun _ k => XS.iconst X23.here hx rfl (hb hby d10_48) k) ?_
  refine own_st (T' := T23) (g' := (mkF m 55 #[rv a1, own_jv p2, .second, rv ky, .val .null, own_jv z23, .second, iv cn, iv kl, .unset, .unset, .unset, .unset] [(.int (-1 : Int32))])) (fun _ k => XS.goto X23.here hx rfl (pc0 := 49) (pc' := 55) rfl (hb hby d10_49) (by decide) (by decide) k) ?_
  refine own_st (T' := T23) (g' := (mkF m 57 #[rv a1, own_jv p2, .second, rv ky, .val .null, own_jv z23, .second, iv cn, iv kl, iv (-1 : Int32), .unset, .unset, .unset] [])) (fun _ k => XS.istore X23.here hx rfl (hb hby d10_55) rfl (l' := #[rv a1, own_jv p2, .second, rv ky, .val .null, own_jv z23, .second, iv cn, iv kl, iv (-1 : Int32), .unset, .unset, .unset]) rfl k) ?_
  refine own_st (T' := T23) (g' := (mkF m 58 #[rv a1, own_jv p2, .second, rv ky, .val .null, own_jv z23, .second, iv cn, iv kl, iv (-1 : Int32), .unset, .unset, .unset] [(.int (1 : Int32))])) (fun _ k => XS.iconst X23.here hx rfl (hb hby d10_57) k) ?_
  refine own_st (T' := T23) (g' := (mkF m 60 #[rv a1, own_jv p2, .second, rv ky, .val .null, own_jv z23, .second, iv cn, iv kl, iv (-1 : Int32), .unset, .unset, .unset] [(.long z23), (.int (1 : Int32))])) (fun _ k => XS.lload X23.here hx rfl (hb hby d10_58) rfl k) ?_
  obtain ⟨v24, T24, L24, X24, hQ24, st24⟩ := own_packS (Jvm.LawKit.callS X23 hx (y := (⟨"com/example/millrace/millrace/wire/ProtocolWriter", "sizeOfVarlong", "(J)I"⟩ : MethodName)) hown (mvT hZ (hw _ (List.mem_of_getElem? (i := 69) rfl))) (mvT hZ (hw _ (List.mem_of_getElem? (i := 70) rfl))) (mvT hZ (hw _ (List.mem_of_getElem? (i := 12) rfl))) (mvT hZ (hw _ (List.mem_of_getElem? (i := 71) rfl))) (by decide) (backOf (W := 1) (rm11 l Z a0 hw [] z23 hJ n0 ZJ ) hZ (hw _ (List.mem_of_getElem? (i := 71) rfl)) (hw _ (List.mem_of_getElem? (i := 12) rfl)) (by decide) (by decide)) (g := (mkF m 60 #[rv a1, own_jv p2, .second, rv ky, .val .null, own_jv z23, .second, iv cn, iv kl, iv (-1 : Int32), .unset, .unset, .unset] [(.long z23), (.int (1 : Int32))])) rfl (by rw [hml]; rfl) (argsL := [(.long z23)]) (rest := [(.int (1 : Int32))]) (lenOf own_pd10_0 rfl) rfl (by show 2 * 0 + _ ≤ _; exact Nat.le_of_eq rfl) (hb hby d10_60) (fun _ _ => ⟨rfl, e23, (by decide : 0 + 0 ≤ _), (by decide : 0 + 0 ≤ _)⟩))
  obtain ⟨rfl, N24q, e24⟩ := hQ24
  obtain ⟨lc24, X24, N24⟩ := own_loc X24 (Fr.app NJ N24q)
  obtain ⟨s24, hs24⟩ : ∃ z, z = own_f11_0 z23 := ⟨_, rfl⟩
  have hb24 := own_vl z23
  rw [← hs24] at hb24
  rw [← hs24] at st24
  refine own_st (T' := T24) (g' := (mkF m 63 #[rv a1, own_jv p2, .second, rv ky, .val .null, own_jv z23, .second, iv cn, iv kl, iv (-1 : Int32), .unset, .unset, .unset] [(.int s24), (.int (1 : Int32))])) (fun _ k => (st24) _ k) ?_
  refine own_st (T' := T24) (g' := (mkF m 64 #[rv a1, own_jv p2, .second, rv ky, .val .null, own_jv z23, .second, iv cn, iv kl, iv (-1 : Int32), .unset, .unset, .unset] [(.int ((1 : Int32) + s24))])) (fun _ k => XS.iadd X24.here hx rfl (hb hby d10_63) rfl k) ?_
  refine own_st (T' := T24) (g' := (mkF m 66 #[rv a1, own_jv p2, .second, rv ky, .val .null, own_jv z23, .second, iv cn, iv kl, iv (-1 : Int32), .unset, .unset, .unset] [(.int cn), (.int ((1 : Int32) + s24))])) (fun _ k => XS.iload X24.here hx rfl (hb hby d10_64) rfl k) ?_
  obtain ⟨v25, T25, L25, X25, hQ25, st25⟩ := own_packS (Jvm.LawKit.callS X24 hx (y := (⟨"com/example/millrace/millrace/wire/ProtocolWriter", "sizeOfVarint", "(I)I"⟩ : MethodName)) hown (mvT hZ (hw _ (List.mem_of_getElem? (i := 73) rfl))) (mvT hZ (hw _ (List.mem_of_getElem? (i := 74) rfl))) (mvT hZ (hw _ (List.mem_of_getElem? (i := 12) rfl))) (mvT hZ (hw _ (List.mem_of_getElem? (i := 75) rfl))) (by decide) (backOf (W := 1) (rm12 l Z a0 hw [] cn hJ n0 ZJ ) hZ (hw _ (List.mem_of_getElem? (i := 75) rfl)) (hw _ (List.mem_of_getElem? (i := 12) rfl)) (by decide) (by decide)) (g := (mkF m 66 #[rv a1, own_jv p2, .second, rv ky, .val .null, own_jv z23, .second, iv cn, iv kl, iv (-1 : Int32), .unset, .unset, .unset] [(.int cn), (.int ((1 : Int32) + s24))])) rfl (by rw [hml]; rfl) (argsL := [(.int cn)]) (rest := [(.int ((1 : Int32) + s24))]) (lenOf own_pd10_1 rfl) rfl (by show 2 * 0 + _ ≤ _; exact Nat.le_of_eq rfl) (hb hby d10_66) (fun _ _ => ⟨rfl, e24, (by decide : 0 + 0 ≤ _), (by decide : 0 + 0 ≤ _)⟩))
  obtain ⟨rfl, N25q, e25⟩ := hQ25
  obtain ⟨lc25, X25, N25⟩ := own_loc X25 (Fr.app N24 N25q)
  obtain ⟨s25, hs25⟩ : ∃ z, z = own_f12_0 cn := ⟨_, rfl⟩
  have hb25 := own_sv cn (by omega) (by omega)
  rw [← hs25] at hb25
  rw [← hs25] at st25
  refine own_st (T' := T25) (g' := (mkF m 69 #[rv a1, own_jv p2, .second, rv ky, .val .null, own_jv z23, .second, iv cn, iv kl, iv (-1 : Int32), .unset, .unset, .unset] [(.int s25), (.int ((1 : Int32) + s24))])) (fun _ k => (st25) _ k) ?_
  refine own_st (T' := T25) (g' := (mkF m 70 #[rv a1, own_jv p2, .second, rv ky, .val .null, own_jv z23, .second, iv cn, iv kl, iv (-1 : Int32), .unset, .unset, .unset] [(.int (((1 : Int32) + s24) + s25))])) (fun _ k => XS.iadd X25.here hx rfl (hb hby d10_69) rfl k) ?_
  refine own_st (T' := T25) (g' := (mkF m 72 #[rv a1, own_jv p2, .second, rv ky, .val .null, own_jv z23, .second, iv cn, iv kl, iv (-1 : Int32), .unset, .unset, .unset] [(.int kl), (.int (((1 : Int32) + s24) + s25))])) (fun _ k => XS.iload X25.here hx rfl (hb hby d10_70) rfl k) ?_
  obtain ⟨v26, T26, L26, X26, hQ26, st26⟩ := own_packS (Jvm.LawKit.callS X25 hx (y := (⟨"com/example/millrace/millrace/wire/ProtocolWriter", "sizeOfVarint", "(I)I"⟩ : MethodName)) hown (mvT hZ (hw _ (List.mem_of_getElem? (i := 73) rfl))) (mvT hZ (hw _ (List.mem_of_getElem? (i := 74) rfl))) (mvT hZ (hw _ (List.mem_of_getElem? (i := 12) rfl))) (mvT hZ (hw _ (List.mem_of_getElem? (i := 75) rfl))) (by decide) (backOf (W := 1) (rm12 l Z a0 hw [] kl hJ n0 ZJ ) hZ (hw _ (List.mem_of_getElem? (i := 75) rfl)) (hw _ (List.mem_of_getElem? (i := 12) rfl)) (by decide) (by decide)) (g := (mkF m 72 #[rv a1, own_jv p2, .second, rv ky, .val .null, own_jv z23, .second, iv cn, iv kl, iv (-1 : Int32), .unset, .unset, .unset] [(.int kl), (.int (((1 : Int32) + s24) + s25))])) rfl (by rw [hml]; rfl) (argsL := [(.int kl)]) (rest := [(.int (((1 : Int32) + s24) + s25))]) (lenOf own_pd10_1 rfl) rfl (by show 2 * 0 + _ ≤ _; exact Nat.le_of_eq rfl) (hb hby d10_72) (fun _ _ => ⟨rfl, e25, (by decide : 0 + 0 ≤ _), (by decide : 0 + 0 ≤ _)⟩))
  obtain ⟨rfl, N26q, e26⟩ := hQ26
  obtain ⟨lc26, X26, N26⟩ := own_loc X26 (Fr.app N25 N26q)
  obtain ⟨s26, hs26⟩ : ∃ z, z = own_f12_0 kl := ⟨_, rfl⟩
  have hb26 := own_sv kl (by omega) (by omega)
  rw [← hs26] at hb26
  rw [← hs26] at st26
  refine own_st (T' := T26) (g' := (mkF m 75 #[rv a1, own_jv p2, .second, rv ky, .val .null, own_jv z23, .second, iv cn, iv kl, iv (-1 : Int32), .unset, .unset, .unset] [(.int s26), (.int (((1 : Int32) + s24) + s25))])) (fun _ k => (st26) _ k) ?_
  refine own_st (T' := T26) (g' := (mkF m 76 #[rv a1, own_jv p2, .second, rv ky, .val .null, own_jv z23, .second, iv cn, iv kl, iv (-1 : Int32), .unset, .unset, .unset] [(.int ((((1 : Int32) + s24) + s25) + s26))])) (fun _ k => XS.iadd X26.here hx rfl (hb hby d10_75) rfl k) ?_
  refine own_st (T' := T26) (g' := (mkF m 78 #[rv a1, own_jv p2, .second, rv ky, .val .null, own_jv z23, .second, iv cn, iv kl, iv (-1 : Int32), .unset, .unset, .unset] [(.int kl), (.int ((((1 : Int32) + s24) + s25) + s26))])) (fun _ k => XS.iload X26.here hx rfl (hb hby d10_76) rfl k) ?_
  refine own_st (T' := T26) (g' := (mkF m 79 #[rv a1, own_jv p2, .second, rv ky, .val .null, own_jv z23, .second, iv cn, iv kl, iv (-1 : Int32), .unset, .unset, .unset] [(.int (0 : Int32)), (.int kl), (.int ((((1 : Int32) + s24) + s25) + s26))])) (fun _ k => XS.iconst X26.here hx rfl (hb hby d10_78) k) ?_
  obtain ⟨v27, T27, L27, X27, hQ27, st27⟩ := own_packS (Jvm.LawKit.callS X26 hx (y := (⟨"java/lang/Math", "max", "(II)I"⟩ : MethodName)) hown (mvT hZ (hw _ (List.mem_of_getElem? (i := 13) rfl))) (mvT hZ (hw _ (List.mem_of_getElem? (i := 14) rfl))) (mvT hZ (hw _ (List.mem_of_getElem? (i := 15) rfl))) (mvT hZ (hw _ (List.mem_of_getElem? (i := 16) rfl))) (by decide) (backOf (W := 1) (rm3 l Z a0 hw [] kl (0 : Int32) hJ n0 ZJ ) hZ (hw _ (List.mem_of_getElem? (i := 16) rfl)) (hw _ (List.mem_of_getElem? (i := 15) rfl)) (by decide) (by decide)) (g := (mkF m 79 #[rv a1, own_jv p2, .second, rv ky, .val .null, own_jv z23, .second, iv cn, iv kl, iv (-1 : Int32), .unset, .unset, .unset] [(.int (0 : Int32)), (.int kl), (.int ((((1 : Int32) + s24) + s25) + s26))])) rfl (by rw [hml]; rfl) (argsL := [(.int kl), (.int (0 : Int32))]) (rest := [(.int ((((1 : Int32) + s24) + s25) + s26))]) (lenOf own_pd10_2 rfl) rfl (by show 2 * 0 + _ ≤ _; exact Nat.le_of_eq rfl) (hb hby d10_79) (fun _ _ => ⟨rfl, e26, (by decide : 0 + 0 ≤ _), (by decide : 0 + 0 ≤ _)⟩))
  obtain ⟨hv27, N27q, e27⟩ := hQ27
  rw [own_maxI kl (by omega)] at hv27
  subst hv27
  obtain ⟨lc27, X27, N27⟩ := own_loc X27 (Fr.app N26 N27q)
  refine own_st (T' := T27) (g' := (mkF m 82 #[rv a1, own_jv p2, .second, rv ky, .val .null, own_jv z23, .second, iv cn, iv kl, iv (-1 : Int32), .unset, .unset, .unset] [(.int kl), (.int ((((1 : Int32) + s24) + s25) + s26))])) (fun _ k => (st27) _ k) ?_
  refine own_st (T' := T27) (g' := (mkF m 83 #[rv a1, own_jv p2, .second, rv ky, .val .null, own_jv z23, .second, iv cn, iv kl, iv (-1 : Int32), .unset, .unset, .unset] [(.int (((((1 : Int32) + s24) + s25) + s26) + kl))])) (fun _ k => XS.iadd X27.here hx rfl (hb hby d10_82) rfl k) ?_
  refine own_st (T' := T27) (g' := (mkF m 85 #[rv a1, own_jv p2, .second, rv ky, .val .null, own_jv z23, .second, iv cn, iv kl, iv (-1 : Int32), .unset, .unset, .unset] [(.int (-1 : Int32)), (.int (((((1 : Int32) + s24) + s25) + s26) + kl))])) (fun _ k => XS.iload X27.here hx rfl (hb hby d10_83) rfl k) ?_
  obtain ⟨v28, T28, L28, X28, hQ28, st28⟩ := own_packS (Jvm.LawKit.callS X27 hx (y := (⟨"com/example/millrace/millrace/wire/ProtocolWriter", "sizeOfVarint", "(I)I"⟩ : MethodName)) hown (mvT hZ (hw _ (List.mem_of_getElem? (i := 73) rfl))) (mvT hZ (hw _ (List.mem_of_getElem? (i := 74) rfl))) (mvT hZ (hw _ (List.mem_of_getElem? (i := 12) rfl))) (mvT hZ (hw _ (List.mem_of_getElem? (i := 75) rfl))) (by decide) (backOf (W := 1) (rm12 l Z a0 hw [] (-1 : Int32) hJ n0 ZJ ) hZ (hw _ (List.mem_of_getElem? (i := 75) rfl)) (hw _ (List.mem_of_getElem? (i := 12) rfl)) (by decide) (by decide)) (g := (mkF m 85 #[rv a1, own_jv p2, .second, rv ky, .val .null, own_jv z23, .second, iv cn, iv kl, iv (-1 : Int32), .unset, .unset, .unset] [(.int (-1 : Int32)), (.int (((((1 : Int32) + s24) + s25) + s26) + kl))])) rfl (by rw [hml]; rfl) (argsL := [(.int (-1 : Int32))]) (rest := [(.int (((((1 : Int32) + s24) + s25) + s26) + kl))]) (lenOf own_pd10_1 rfl) rfl (by show 2 * 0 + _ ≤ _; exact Nat.le_of_eq rfl) (hb hby d10_85) (fun _ _ => ⟨rfl, e27, (by decide : 0 + 0 ≤ _), (by decide : 0 + 0 ≤ _)⟩))
  obtain ⟨rfl, N28q, e28⟩ := hQ28
  obtain ⟨lc28, X28, N28⟩ := own_loc X28 (Fr.app N27 N28q)
  obtain ⟨s28, hs28⟩ : ∃ z, z = own_f12_0 (-1 : Int32) := ⟨_, rfl⟩
  have hb28 := own_sv (-1 : Int32) (by decide) (by decide)
  rw [← hs28] at hb28
  rw [← hs28] at st28
  refine own_st (T' := T28) (g' := (mkF m 88 #[rv a1, own_jv p2, .second, rv ky, .val .null, own_jv z23, .second, iv cn, iv kl, iv (-1 : Int32), .unset, .unset, .unset] [(.int s28), (.int (((((1 : Int32) + s24) + s25) + s26) + kl))])) (fun _ k => (st28) _ k) ?_
  refine own_st (T' := T28) (g' := (mkF m 89 #[rv a1, own_jv p2, .second, rv ky, .val .null, own_jv z23, .second, iv cn, iv kl, iv (-1 : Int32), .unset, .unset, .unset] [(.int ((((((1 : Int32) + s24) + s25) + s26) + kl) + s28))])) (fun _ k => XS.iadd X28.here hx rfl (hb hby d10_88) rfl k) ?_
  refine own_st (T' := T28) (g' := (mkF m 91 #[rv a1, own_jv p2, .second, rv ky, .val .null, own_jv z23, .second, iv cn, iv kl, iv (-1 : Int32), .unset, .unset, .unset] [(.int (-1 : Int32)), (.int ((((((1 : Int32) + s24) + s25) + s26) + kl) + s28))])) (fun _ k => XS.iload X28.here hx rfl (hb hby d10_89) rfl k) ?_
  refine own_st (T' := T28) (g' := (mkF m 92 #[rv a1, own_jv p2, .second, rv ky, .val .null, own_jv z23, .second, iv cn, iv kl, iv (-1 : Int32), .unset, .unset, .unset] [(.int (0 : Int32)), (.int (-1 : Int32)), (.int ((((((1 : Int32) + s24) + s25) + s26) + kl) + s28))])) (fun _ k => XS.iconst X28.here hx rfl (hb hby d10_91) k) ?_
  obtain ⟨v29, T29, L29, X29, hQ29, st29⟩ := own_packS (Jvm.LawKit.callS X28 hx (y := (⟨"java/lang/Math", "max", "(II)I"⟩ : MethodName)) hown (mvT hZ (hw _ (List.mem_of_getElem? (i := 13) rfl))) (mvT hZ (hw _ (List.mem_of_getElem? (i := 14) rfl))) (mvT hZ (hw _ (List.mem_of_getElem? (i := 15) rfl))) (mvT hZ (hw _ (List.mem_of_getElem? (i := 16) rfl))) (by decide) (backOf (W := 1) (rm3 l Z a0 hw [] (-1 : Int32) (0 : Int32) hJ n0 ZJ ) hZ (hw _ (List.mem_of_getElem? (i := 16) rfl)) (hw _ (List.mem_of_getElem? (i := 15) rfl)) (by decide) (by decide)) (g := (mkF m 92 #[rv a1, own_jv p2, .second, rv ky, .val .null, own_jv z23, .second, iv cn, iv kl, iv (-1 : Int32), .unset, .unset, .unset] [(.int (0 : Int32)), (.int (-1 : Int32)), (.int ((((((1 : Int32) + s24) + s25) + s26) + kl) + s28))])) rfl (by rw [hml]; rfl) (argsL := [(.int (-1 : Int32)), (.int (0 : Int32))]) (rest := [(.int ((((((1 : Int32) + s24) + s25) + s26) + kl) + s28))]) (lenOf own_pd10_2 rfl) rfl (by show 2 * 0 + _ ≤ _; exact Nat.le_of_eq rfl) (hb hby d10_92) (fun _ _ => ⟨rfl, e28, (by decide : 0 + 0 ≤ _), (by decide : 0 + 0 ≤ _)⟩))
  obtain ⟨hv29, N29q, e29⟩ := hQ29
  rw [show own_f3_0 (-1 : Int32) (0 : Int32) = (0 : Int32) from by decide] at hv29
  subst hv29
  obtain ⟨lc29, X29, N29⟩ := own_loc X29 (Fr.app N28 N29q)
  refine own_st (T' := T29) (g' := (mkF m 95 #[rv a1, own_jv p2, .second, rv ky, .val .null, own_jv z23, .second, iv cn, iv kl, iv (-1 : Int32), .unset, .unset, .unset] [(.int (0 : Int32)), (.int ((((((1 : Int32) + s24) + s25) + s26) + kl) + s28))])) (fun _ k => (st29) _ k) ?_
  refine own_st (T' := T29) (g' := (mkF m 96 #[rv a1, own_jv p2, .second, rv ky, .val .null, own_jv z23, .second, iv cn, iv kl, iv (-1 : Int32), .unset, .unset, .unset] [(.int (((((((1 : Int32) + s24) + s25) + s26) + kl) + s28) + (0 : Int32)))])) (fun _ k => XS.iadd X29.here hx rfl (hb hby d10_95) rfl k) ?_
  refine own_st (T' := T29) (g' := (mkF m 97 #[rv a1, own_jv p2, .second, rv ky, .val .null, own_jv z23, .second, iv cn, iv kl, iv (-1 : Int32), .unset, .unset, .unset] [(.int (0 : Int32)), (.int (((((((1 : Int32) + s24) + s25) + s26) + kl) + s28) + (0 : Int32)))])) (fun _ k => XS.iconst X29.here hx rfl (hb hby d10_96) k) ?_
  obtain ⟨v30, T30, L30, X30, hQ30, st30⟩ := own_packS (Jvm.LawKit.callS X29 hx (y := (⟨"com/example/millrace/millrace/wire/ProtocolWriter", "sizeOfVarint", "(I)I"⟩ : MethodName)) hown (mvT hZ (hw _ (List.mem_of_getElem? (i := 73) rfl))) (mvT hZ (hw _ (List.mem_of_getElem? (i := 74) rfl))) (mvT hZ (hw _ (List.mem_of_getElem? (i := 12) rfl))) (mvT hZ (hw _ (List.mem_of_getElem? (i := 75) rfl))) (by decide) (backOf (W := 1) (rm12 l Z a0 hw [] (0 : Int32) hJ n0 ZJ ) hZ (hw _ (List.mem_of_getElem? (i := 75) rfl)) (hw _ (List.mem_of_getElem? (i := 12) rfl)) (by decide) (by decide)) (g := (mkF m 97 #[rv a1, own_jv p2, .second, rv ky, .val .null, own_jv z23, .second, iv cn, iv kl, iv (-1 : Int32), .unset, .unset, .unset] [(.int (0 : Int32)), (.int (((((((1 : Int32) + s24) + s25) + s26) + kl) + s28) + (0 : Int32)))])) rfl (by rw [hml]; rfl) (argsL := [(.int (0 : Int32))]) (rest := [(.int (((((((1 : Int32) + s24) + s25) + s26) + kl) + s28) + (0 : Int32)))]) (lenOf own_pd10_1 rfl) rfl (by show 2 * 0 + _ ≤ _; exact Nat.le_of_eq rfl) (hb hby d10_97) (fun _ _ => ⟨rfl, e29, (by decide : 0 + 0 ≤ _), (by decide : 0 + 0 ≤ _)⟩))
  obtain ⟨rfl, N30q, e30⟩ := hQ30
  obtain ⟨lc30, X30, N30⟩ := own_loc X30 (Fr.app N29 N30q)
  obtain ⟨s30, hs30⟩ : ∃ z, z = own_f12_0 (0 : Int32) := ⟨_, rfl⟩
  have hb30 := own_sv (0 : Int32) (by decide) (by decide)
  rw [← hs30] at hb30
  rw [← hs30] at st30
  refine own_st (T' := T30) (g' := (mkF m 100 #[rv a1, own_jv p2, .second, rv ky, .val .null, own_jv z23, .second, iv cn, iv kl, iv (-1 : Int32), .unset, .unset, .unset] [(.int s30), (.int (((((((1 : Int32) + s24) + s25) + s26) + kl) + s28) + (0 : Int32)))])) (fun _ k => (st30) _ k) ?_
  refine own_st (T' := T30) (g' := (mkF m 101 #[rv a1, own_jv p2, .second, rv ky, .val .null, own_jv z23, .second, iv cn, iv kl, iv (-1 : Int32), .unset, .unset, .unset] [(.int ((((((((1 : Int32) + s24) + s25) + s26) + kl) + s28) + (0 : Int32)) + s30))])) (fun _ k => XS.iadd X30.here hx rfl (hb hby d10_100) rfl k) ?_
  generalize hz101 : ((((((((1 : Int32) + s24) + s25) + s26) + kl) + s28) + (0 : Int32)) + s30) = z101
  refine own_st (T' := T30) (g' := (mkF m 103 #[rv a1, own_jv p2, .second, rv ky, .val .null, own_jv z23, .second, iv cn, iv kl, iv (-1 : Int32), iv z101, .unset, .unset] [])) (fun _ k => XS.istore X30.here hx rfl (hb hby d10_101) rfl (l' := #[rv a1, own_jv p2, .second, rv ky, .val .null, own_jv z23, .second, iv cn, iv kl, iv (-1 : Int32), iv z101, .unset, .unset]) rfl k) ?_
  have e00 : (0 : Int32).toInt = 0 := rfl
  have hB := own_body s24 s25 s26 kl s28 (0 : Int32) s30 (by omega) (by omega) (by omega) (by omega) (by omega) (by omega) (by omega)
  rw [hz101] at hB
  refine own_st (T' := T30) (g' := (mkF m 104 #[rv a1, own_jv p2, .second, rv ky, .val .null, own_jv z23, .second, iv cn, iv kl, iv (-1 : Int32), iv z101, .unset, .unset] [(.ref a1)])) (fun _ k => XS.aloadN X30.here hx rfl (hb hby d10_103) rfl rfl k) ?_
  obtain ⟨T31, X31, e31, st31⟩ := getF X30 hx hZ hown (host := "") (Or.inl (hw _ (List.mem_of_getElem? (i := 24) rfl))) Via.refl e30 Fj1 (g := (mkF m 104 #[rv a1, own_jv p2, .second, rv ky, .val .null, own_jv z23, .second, iv cn, iv kl, iv (-1 : Int32), iv z101, .unset, .unset] [(.ref a1)])) rfl rfl (hb hby d10_104)
  refine own_st (T' := T31) (g' := (mkF m 107 #[rv a1, own_jv p2, .second, rv ky, .val .null, own_jv z23, .second, iv cn, iv kl, iv (-1 : Int32), iv z101, .unset, .unset] [(.ref wo)])) (fun _ k => (st31) _ k) ?_
  refine own_st (T' := T31) (g' := (mkF m 109 #[rv a1, own_jv p2, .second, rv ky, .val .null, own_jv z23, .second, iv cn, iv kl, iv (-1 : Int32), iv z101, .unset, .unset] [(.int z101), (.ref wo)])) (fun _ k => XS.iload X31.here hx rfl (hb hby d10_107) rfl k) ?_
  obtain ⟨v32, T32, L32, X32, hQ32, st32⟩ := own_packS (Jvm.LawKit.callS X31 hx (y := (⟨"com/example/millrace/millrace/wire/ProtocolWriter", "sizeOfVarint", "(I)I"⟩ : MethodName)) hown (mvT hZ (hw _ (List.mem_of_getElem? (i := 73) rfl))) (mvT hZ (hw _ (List.mem_of_getElem? (i := 74) rfl))) (mvT hZ (hw _ (List.mem_of_getElem? (i := 12) rfl))) (mvT hZ (hw _ (List.mem_of_getElem? (i := 75) rfl))) (by decide) (backOf (W := 1) (rm12 l Z a0 hw [] z101 hJ n0 ZJ ) hZ (hw _ (List.mem_of_getElem? (i := 75) rfl)) (hw _ (List.mem_of_getElem? (i := 12) rfl)) (by decide) (by decide)) (g := (mkF m 109 #[rv a1, own_jv p2, .second, rv ky, .val .null, own_jv z23, .second, iv cn, iv kl, iv (-1 : Int32), iv z101, .unset, .unset] [(.int z101), (.ref wo)])) rfl (by rw [hml]; rfl) (argsL := [(.int z101)]) (rest := [(.ref wo)]) (lenOf own_pd10_1 rfl) rfl (by show 2 * 0 + _ ≤ _; exact Nat.le_of_eq rfl) (hb hby d10_109) (fun _ _ => ⟨rfl, e31, (by decide : 0 + 0 ≤ _), (by decide : 0 + 0 ≤ _)⟩))
  obtain ⟨rfl, N32q, e32⟩ := hQ32
  obtain ⟨lc32, X32, N32⟩ := own_loc X32 (Fr.app N30 N32q)
  obtain ⟨s32, hs32⟩ : ∃ z, z = own_f12_0 z101 := ⟨_, rfl⟩
  have hb32 := own_sv z101 (by omega) (by omega)
  rw [← hs32] at hb32
  rw [← hs32] at st32
  refine own_st (T' := T32) (g' := (mkF m 112 #[rv a1, own_jv p2, .second, rv ky, .val .null, own_jv z23, .second, iv cn, iv kl, iv (-1 : Int32), iv z101, .unset, .unset] [(.int s32), (.ref wo)])) (fun _ k => (st32) _ k) ?_
  refine own_st (T' := T32) (g' := (mkF m 114 #[rv a1, own_jv p2, .second, rv ky, .val .null, own_jv z23, .second, iv cn, iv kl, iv (-1 : Int32), iv z101, .unset, .unset] [(.int z101), (.int s32), (.ref wo)])) (fun _ k => XS.iload X32.here hx rfl (hb hby d10_112) rfl k) ?_
  refine own_st (T' := T32) (g' := (mkF m 115 #[rv a1, own_jv p2, .second, rv ky, .val .null, own_jv z23, .second, iv cn, iv kl, iv (-1 : Int32), iv z101, .unset, .unset] [(.int (s32 + z101)), (.ref wo)])) (fun _ k => XS.iadd X32.here hx rfl (hb hby d10_114) rfl k) ?_
  generalize hz115 : (s32 + z101) = z115
  have hm115 := own_add s32 z101 (by omega) (by omega)
  rw [hz115] at hm115
  obtain ⟨cq33, kq33, q33a, q33b, q33c⟩ := isOf hZ e32 Fj5
  obtain ⟨v33, T33, L33, X33, hQ33, st33⟩ := own_packV (X32.virtualBack hx (y := (⟨"com/example/millrace/millrace/wire/ProtocolWriter", "reserve", "(I)[B"⟩ : MethodName)) (z := (⟨"com/example/millrace/millrace/wire/ProtocolWriter", "reserve", "(I)[B"⟩ : MethodName)) hown (mvT hZ (hw _ (List.mem_of_getElem? (i := 79) rfl))) (mvT hZ (hw _ (List.mem_of_getElem? (i := 80) rfl))) (notFace_of_selects (args := #[]) (mvT hZ (hw _ (List.mem_of_getElem? (i := 82) rfl)))) (mvT hZ (hw _ (List.mem_of_getElem? (i := 82) rfl))) (mvT hZ (hw _ (List.mem_of_getElem? (i := 81) rfl))) (by decide) (backOf (W := 0) (rm14 l Z a0 hw [] wo z115 t P n hJ n0 ZJ Fj5 Fj6 Fj7 Fj8 gn_wo ne_wo_t gn_t hP0 hP (by omega) (by omega) hn0 hn) hZ (hw _ (List.mem_of_getElem? (i := 83) rfl)) (hw _ (List.mem_of_getElem? (i := 12) rfl)) (by decide) (by decide)) q33a q33c (g := (mkF m 115 #[rv a1, own_jv p2, .second, rv ky, .val .null, own_jv z23, .second, iv cn, iv kl, iv (-1 : Int32), iv z101, .unset, .unset] [(.int z115), (.ref wo)])) rfl (by rw [hml]; rfl) (Steps.refl _) (argsL := [(.int z115)]) (rest := []) (lenOf own_pd10_3 rfl) rfl (by show 2 * 0 + _ ≤ _; exact Nat.le_of_eq rfl) (hb hby d10_115) (fun _ _ => ⟨rfl, e32, (by decide : 0 + 1 ≤ _), (by decide : 0 + 2190 ≤ _)⟩))
  obtain ⟨N33q, Kq33, Eq33, t33, nn33, rfl, ht33, gn_t33, Fb33, Fp33, Yq33, hA33, hB33⟩ := hQ33
  obtain ⟨lc33, X33, N33⟩ := own_loc X33 (Fr.app N32 N33q)
  have ne_a1_t33 : a1 ≠ t33 := own_sep ht33 ne_a1_t Fj0.lt
  have ne_wo_t33 : wo ≠ t33 := own_sep ht33 ne_wo_t Fj5.lt
  have ne_ky_t33 : ky ≠ t33 := own_sep ht33 (Ne.symm ne_t_ky) Fj9.lt
  have Zs33 : n0 ≤ T33.heap.size := Nat.le_trans ZJ Kq33.1
  have ws_t33 : t33 ∈ [a1, wo, t] ∨ h0.size ≤ t33 := ht33.elim (fun q => by rw [q]; exact (Or.inl (List.mem_of_getElem? (i := 2) rfl))) (fun q => Or.inr (Nat.le_trans KJ.1 q))
  have hto33 : t33 = t ∨ h0.size ≤ t33 := ht33.imp id (fun q => Nat.le_trans KJ.1 q)
  have Fa34 : Exa Z T33.heap a1 "com/example/millrace/millrace/wire/RecordBatchBuilder" := Fj0.keep Kq33
  have Fa35 : Fld Z T33.heap a1 "com/example/millrace/millrace/wire/RecordBatchBuilder" "out" "Lcom/example/millrace/millrace/wire/ProtocolWriter;" (.ref wo) := Fj1.keep Kq33 (ninS ne_a1_wo nin0)
  have Fa36 : Fld Z T33.heap a1 "com/example/millrace/millrace/wire/RecordBatchBuilder" "baseTimestamp" "J" (.long bt1) := Fj2.keep Kq33 (ninS ne_a1_wo nin0)
  have Fa37 : Fld Z T33.heap a1 "com/example/millrace/millrace/wire/RecordBatchBuilder" "maxTimestamp" "J" (.long mt1) := Fj3.keep Kq33 (ninS ne_a1_wo nin0)
  have Fa38 : Fld Z T33.heap a1 "com/example/millrace/millrace/wire/RecordBatchBuilder" "count" "I" (.int cn) := Fj4.keep Kq33 (ninS ne_a1_wo nin0)
  have Fa39 : own_Y Z T33.heap ky kl := Fj9.keep Kq33 (ninS (Ne.symm ne_wo_ky) nin0)
  have Ke33 : Keep h0 T33.heap [a1, wo, t] := KJ.trans Kq33 (allS (Or.inl (List.mem_of_getElem? (i := 1) rfl)) all0)
  refine own_st (T' := T33) (g' := (mkF m 118 #[rv a1, own_jv p2, .second, rv ky, .val .null, own_jv z23, .second, iv cn, iv kl, iv (-1 : Int32), iv z101, .unset, .unset] [(.ref t33)])) (fun _ k => (st33) _ k) ?_
  refine own_st (T' := T33) (g' := (mkF m 120 #[rv a1, own_jv p2, .second, rv ky, .val .null, own_jv z23, .second, iv cn, iv kl, iv (-1 : Int32), iv z101, rv t33, .unset] [])) (fun _ k => XS.astore X33.here hx rfl (hb hby d10_118) rfl rfl (l' := #[rv a1, own_jv p2, .second, rv ky, .val .null, own_jv z23, .second, iv cn, iv kl, iv (-1 : Int32), iv z101, rv t33, .unset]) rfl k) ?_
  refine own_st (T' := T33) (g' := (mkF m 122 #[rv a1, own_jv p2, .second, rv ky, .val .null, own_jv z23, .second, iv cn, iv kl, iv (-1 : Int32), iv z101, rv t33, .unset] [(.ref t33)])) (fun _ k => XS.aload X33.here hx rfl (hb hby d10_120) rfl rfl k) ?_
  refine own_st (T' := T33) (g' := (mkF m 123 #[rv a1, own_jv p2, .second, rv ky, .val .null, own_jv z23, .second, iv cn, iv kl, iv (-1 : Int32), iv z101, rv t33, .unset] [(.ref a1), (.ref t33)])) (fun _ k => XS.aloadN X33.here hx rfl (hb hby d10_122) rfl rfl k) ?_
  obtain ⟨T40, X40, e40, st40⟩ := getF X33 hx hZ hown (host := "") (Or.inl (hw _ (List.mem_of_getElem? (i := 24) rfl))) Via.refl rfl Fa35 (g := (mkF m 123 #[rv a1, own_jv p2, .second, rv ky, .val .null, own_jv z23, .second, iv cn, iv kl, iv (-1 : Int32), iv z101, rv t33, .unset] [(.ref a1), (.ref t33)])) rfl rfl (hb hby d10_123)
  refine own_st (T' := T40) (g' := (mkF m 126 #[rv a1, own_jv p2, .second, rv ky, .val .null, own_jv z23, .second, iv cn, iv kl, iv (-1 : Int32), iv z101, rv t33, .unset] [(.ref wo), (.ref t33)])) (fun _ k => (st40) _ k) ?_
  obtain ⟨cq41, kq41, q41a, q41b, q41c⟩ := isOf hZ e40 Eq33
  obtain ⟨v41, T41, L41, X41, hQ41, st41⟩ := own_packV (X40.virtualBack hx (y := (⟨"com/example/millrace/millrace/wire/ProtocolWriter", "position", "()I"⟩ : MethodName)) (z := (⟨"com/example/millrace/millrace/wire/ProtocolWriter", "position", "()I"⟩ : MethodName)) hown (mvT hZ (hw _ (List.mem_of_getElem? (i := 53) rfl))) (mvT hZ (hw _ (List.mem_of_getElem? (i := 54) rfl))) (notFace_of_selects (args := #[]) (mvT hZ (hw _ (List.mem_of_getElem? (i := 56) rfl)))) (mvT hZ (hw _ (List.mem_of_getElem? (i := 56) rfl))) (mvT hZ (hw _ (List.mem_of_getElem? (i := 55) rfl))) (by decide) (backOf (W := 1) (rm9 l Z a0 hw [] wo P T33.heap n0 Zs33 Fp33) hZ (hw _ (List.mem_of_getElem? (i := 57) rfl)) (hw _ (List.mem_of_getElem? (i := 12) rfl)) (by decide) (by decide)) q41a q41c (g := (mkF m 126 #[rv a1, own_jv p2, .second, rv ky, .val .null, own_jv z23, .second, iv cn, iv kl, iv (-1 : Int32), iv z101, rv t33, .unset] [(.ref wo), (.ref t33)])) rfl (by rw [hml]; rfl) (Steps.refl _) (argsL := []) (rest := [(.ref t33)]) (lenOf own_pd10_4 rfl) rfl (by show 2 * 0 + _ ≤ _; exact Nat.le_of_eq rfl) (hb hby d10_126) (fun _ _ => ⟨rfl, e40, (by decide : 1 + 0 ≤ _), (by decide : 2190 + 0 ≤ _)⟩))
  obtain ⟨rfl, N41q, e41⟩ := hQ41
  obtain ⟨lc41, X41, N41⟩ := own_loc X41 (Fr.app N33 N41q)
  refine own_st (T' := T41) (g' := (mkF m 129 #[rv a1, own_jv p2, .second, rv ky, .val .null, own_jv z23, .second, iv cn, iv kl, iv (-1 : Int32), iv z101, rv t33, .unset] [(.int P), (.ref t33)])) (fun _ k => (st41) _ k) ?_
  refine own_st (T' := T41) (g' := (mkF m 131 #[rv a1, own_jv p2, .second, rv ky, .val .null, own_jv z23, .second, iv cn, iv kl, iv (-1 : Int32), iv z101, rv t33, .unset] [(.int z101), (.int P), (.ref t33)])) (fun _ k => XS.iload X41.here hx rfl (hb hby d10_129) rfl k) ?_
  obtain ⟨v42, T42, L42, X42, hQ42, st42⟩ := own_packS (Jvm.LawKit.callS X41 hx (y := (⟨"com/example/millrace/millrace/wire/ProtocolWriter", "putVarint", "([BII)I"⟩ : MethodName)) hown (mvT hZ (hw _ (List.mem_of_getElem? (i := 104) rfl))) (mvT hZ (hw _ (List.mem_of_getElem? (i := 105) rfl))) (mvT hZ (hw _ (List.mem_of_getElem? (i := 12) rfl))) (mvT hZ (hw _ (List.mem_of_getElem? (i := 106) rfl))) (by decide) (backOf (W := 0) (rm20 l Z a0 hw [] t33 P z101 nn33 T33.heap n0 Zs33 Yq33 gn_t33 (by omega) (by omega) (by omega) (by rw [← hs32]; omega)) hZ (hw _ (List.mem_of_getElem? (i := 106) rfl)) (hw _ (List.mem_of_getElem? (i := 12) rfl)) (by decide) (by decide)) (g := (mkF m 131 #[rv a1, own_jv p2, .second, rv ky, .val .null, own_jv z23, .second, iv cn, iv kl, iv (-1 : Int32), iv z101, rv t33, .unset] [(.int z101), (.int P), (.ref t33)])) rfl (by rw [hml]; rfl) (argsL := [(.ref t33), (.int P), (.int z101)]) (rest := []) (lenOf own_pd10_5 rfl) rfl (by show 2 * 0 + _ ≤ _; exact Nat.le_of_eq rfl) (hb hby d10_131) (fun _ _ => ⟨rfl, e41, (by decide : 1 + 0 ≤ _), (by decide : 2190 + 0 ≤ _)⟩))
  obtain ⟨r42, rfl, hr42, N42q, Kq42, Yq42⟩ := hQ42
  obtain ⟨lc42, X42, N42⟩ := own_loc X42 (Fr.app N41 N42q)
  have Zs42 : n0 ≤ T42.heap.size := Nat.le_trans Zs33 Kq42.1
  have Fa43 : Exa Z T42.heap a1 "com/example/millrace/millrace/wire/RecordBatchBuilder" := Fa34.keep Kq42
  have Fa44 : Fld Z T42.heap a1 "com/example/millrace/millrace/wire/RecordBatchBuilder" "out" "Lcom/example/millrace/millrace/wire/ProtocolWriter;" (.ref wo) := Fa35.keep Kq42 (ninS ne_a1_t33 nin0)
  have Fa45 : Fld Z T42.heap a1 "com/example/millrace/millrace/wire/RecordBatchBuilder" "baseTimestamp" "J" (.long bt1) := Fa36.keep Kq42 (ninS ne_a1_t33 nin0)
  have Fa46 : Fld Z T42.heap a1 "com/example/millrace/millrace/wire/RecordBatchBuilder" "maxTimestamp" "J" (.long mt1) := Fa37.keep Kq42 (ninS ne_a1_t33 nin0)
  have Fa47 : Fld Z T42.heap a1 "com/example/millrace/millrace/wire/RecordBatchBuilder" "count" "I" (.int cn) := Fa38.keep Kq42 (ninS ne_a1_t33 nin0)
  have Fa48 : own_Y Z T42.heap ky kl := Fa39.keep Kq42 (ninS ne_ky_t33 nin0)
  have Fa49 : Exa Z T42.heap wo "com/example/millrace/millrace/wire/ProtocolWriter" := Eq33.keep Kq42
  have Fa50 : Fld Z T42.heap wo "com/example/millrace/millrace/wire/ProtocolWriter" "bytes" "[B" (.ref t33) := Fb33.keep Kq42 (ninS ne_wo_t33 nin0)
  have Fa51 : Fld Z T42.heap wo "com/example/millrace/millrace/wire/ProtocolWriter" "position" "I" (.int P) := Fp33.keep Kq42 (ninS ne_wo_t33 nin0)
  have Ke42 : Keep h0 T42.heap [a1, wo, t] := Ke33.trans Kq42 (allS ws_t33 all0)
  rw [← hs32] at hr42
  refine own_st (T' := T42) (g' := (mkF m 134 #[rv a1, own_jv p2, .second, rv ky, .val .null, own_jv z23, .second, iv cn, iv kl, iv (-1 : Int32), iv z101, rv t33, .unset] [(.int r42)])) (fun _ k => (st42) _ k) ?_
  refine own_st (T' := T42) (g' := (mkF m 136 #[rv a1, own_jv p2, .second, rv ky, .val .null, own_jv z23, .second, iv cn, iv kl, iv (-1 : Int32), iv z101, rv t33, iv r42] [])) (fun _ k => XS.istore X42.here hx rfl (hb hby d10_134) rfl (l' := #[rv a1, own_jv p2, .second, rv ky, .val .null, own_jv z23, .second, iv cn, iv kl, iv (-1 : Int32), iv z101, rv t33, iv r42]) rfl k) ?_
  refine own_st (T' := T42) (g' := (mkF m 138 #[rv a1, own_jv p2, .second, rv ky, .val .null, own_jv z23, .second, iv cn, iv kl, iv (-1 : Int32), iv z101, rv t33, iv r42] [(.ref t33)])) (fun _ k => XS.aload X42.here hx rfl (hb hby d10_136) rfl rfl k) ?_
  refine own_st (T' := T42) (g' := (mkF m 140 #[rv a1, own_jv p2, .second, rv ky, .val .null, own_jv z23, .second, iv cn, iv kl, iv (-1 : Int32), iv z101, rv t33, iv r42] [(.int r42), (.ref t33)])) (fun _ k => XS.iload X42.here hx rfl (hb hby d10_138) rfl k) ?_
  refine own_st (T' := T42) (g' := (mkF m 143 #[rv a1, own_jv p2, .second, rv ky, .val .null, own_jv z23, .second, iv cn, iv kl, iv (-1 : Int32), iv z101, rv t33, iv (r42 + (1 : Int32))] [(.int r42), (.ref t33)])) (fun _ k => XS.iinc X42.here hx rfl (hb hby d10_140) rfl (l' := #[rv a1, own_jv p2, .second, rv ky, .val .null, own_jv z23, .second, iv cn, iv kl, iv (-1 : Int32), iv z101, rv t33, iv (r42 + (1 : Int32))]) rfl k) ?_
  have hi143 := own_add r42 1 (by rw [own_i1]; omega) (by rw [own_i1]; have := rng32 nn33; omega)
  rw [own_i1] at hi143
  have i1 := own_i1
  refine own_st (T' := T42) (g' := (mkF m 144 #[rv a1, own_jv p2, .second, rv ky, .val .null, own_jv z23, .second, iv cn, iv kl, iv (-1 : Int32), iv z101, rv t33, iv (r42 + (1 : Int32))] [(.int (0 : Int32)), (.int r42), (.ref t33)])) (fun _ k => XS.iconst X42.here hx rfl (hb hby d10_143) k) ?_
  obtain ⟨T52, h52, lc52, X52, e52, N52, ⟨sl52, vv52, W52⟩, Yn52, st52⟩ := own_stB X42 hx hZ rfl Yq42 (j := r42) (x := (0 : Int32)) (own_in r42 nn33 (by omega) (by omega)) N42 gn_t33 (g := (mkF m 144 #[rv a1, own_jv p2, .second, rv ky, .val .null, own_jv z23, .second, iv cn, iv kl, iv (-1 : Int32), iv z101, rv t33, iv (r42 + (1 : Int32))] [(.int (0 : Int32)), (.int r42), (.ref t33)])) rfl rfl (hb hby d10_144)
  have Zs52 : n0 ≤ h52.size := Nat.le_trans Zs42 (Keep.of_wr W52).1
  have Fa53 : Exa Z h52 a1 "com/example/millrace/millrace/wire/RecordBatchBuilder" := Fa43.wr W52
  have Fa54 : Fld Z h52 a1 "com/example/millrace/millrace/wire/RecordBatchBuilder" "out" "Lcom/example/millrace/millrace/wire/ProtocolWriter;" (.ref wo) := Fa44.other W52 (Or.inl ne_a1_t33)
  have Fa55 : Fld Z h52 a1 "com/example/millrace/millrace/wire/RecordBatchBuilder" "baseTimestamp" "J" (.long bt1) := Fa45.other W52 (Or.inl ne_a1_t33)
  have Fa56 : Fld Z h52 a1 "com/example/millrace/millrace/wire/RecordBatchBuilder" "maxTimestamp" "J" (.long mt1) := Fa46.other W52 (Or.inl ne_a1_t33)
  have Fa57 : Fld Z h52 a1 "com/example/millrace/millrace/wire/RecordBatchBuilder" "count" "I" (.int cn) := Fa47.other W52 (Or.inl ne_a1_t33)
  have Fa58 : own_Y Z h52 ky kl := Fa48.other W52 ne_ky_t33
  have Fa59 : Exa Z h52 wo "com/example/millrace/millrace/wire/ProtocolWriter" := Fa49.wr W52
  have Fa60 : Fld Z h52 wo "com/example/millrace/millrace/wire/ProtocolWriter" "bytes" "[B" (.ref t33) := Fa50.other W52 (Or.inl ne_wo_t33)
  have Fa61 : Fld Z h52 wo "com/example/millrace/millrace/wire/ProtocolWriter" "position" "I" (.int P) := Fa51.other W52 (Or.inl ne_wo_t33)
  have Ke52 : Keep h0 h52 [a1, wo, t] := Ke42.wr W52 ws_t33
  refine own_st (T' := T52) (g' := (mkF m 145 #[rv a1, own_jv p2, .second, rv ky, .val .null, own_jv z23, .second, iv cn, iv kl, iv (-1 : Int32), iv z101, rv t33, iv (r42 + (1 : Int32))] [])) (fun _ k => (st52) _ k) ?_
  refine own_st (T' := T52) (g' := (mkF m 147 #[rv a1, own_jv p2, .second, rv ky, .val .null, own_jv z23, .second, iv cn, iv kl, iv (-1 : Int32), iv z101, rv t33, iv (r42 + (1 : Int32))] [(.ref t33)])) (fun _ k => XS.aload X52.here hx rfl (hb hby d10_145) rfl rfl k) ?_
  refine own_st (T' := T52) (g' := (mkF m 149 #[rv a1, own_jv p2, .second, rv ky, .val .null, own_jv z23, .second, iv cn, iv kl, iv (-1 : Int32), iv z101, rv t33, iv (r42 + (1 : Int32))] [(.int (r42 + (1 : Int32))), (.ref t33)])) (fun _ k => XS.iload X52.here hx rfl (hb hby d10_147) rfl k) ?_
  refine own_st (T' := T52) (g' := (mkF m 151 #[rv a1, own_jv p2, .second, rv ky, .val .null, own_jv z23, .second, iv cn, iv kl, iv (-1 : Int32), iv z101, rv t33, iv (r42 + (1 : Int32))] [(.long z23), (.int (r42 + (1 : Int32))), (.ref t33)])) (fun _ k => XS.lload X52.here hx rfl (hb hby d10_149) rfl k) ?_
  obtain ⟨v62, T62, L62, X62, hQ62, st62⟩ := own_packS (Jvm.LawKit.callS X52 hx (y := (⟨"com/example/millrace/millrace/wire/ProtocolWriter", "putVarlong", "([BIJ)I"⟩ : MethodName)) hown (mvT hZ (hw _ (List.mem_of_getElem? (i := 110) rfl))) (mvT hZ (hw _ (List.mem_of_getElem? (i := 111) rfl))) (mvT hZ (hw _ (List.mem_of_getElem? (i := 12) rfl))) (mvT hZ (hw _ (List.mem_of_getElem? (i := 112) rfl))) (by decide) (backOf (W := 0) (rm22 l Z a0 hw [] t33 (r42 + (1 : Int32)) z23 nn33 h52 n0 Zs52 Yn52 gn_t33 (by omega) (by have := hb24; omega)) hZ (hw _ (List.mem_of_getElem? (i := 112) rfl)) (hw _ (List.mem_of_getElem? (i := 12) rfl)) (by decide) (by decide)) (g := (mkF m 151 #[rv a1, own_jv p2, .second, rv ky, .val .null, own_jv z23, .second, iv cn, iv kl, iv (-1 : Int32), iv z101, rv t33, iv (r42 + (1 : Int32))] [(.long z23), (.int (r42 + (1 : Int32))), (.ref t33)])) rfl (by rw [hml]; rfl) (argsL := [(.ref t33), (.int (r42 + (1 : Int32))), (.long z23)]) (rest := []) (lenOf own_pd10_6 rfl) rfl (by show 2 * 0 + _ ≤ _; exact Nat.le_of_eq rfl) (hb hby d10_151) (fun _ _ => ⟨rfl, e52, (by decide : 1 + 0 ≤ _), (by decide : 2190 + 0 ≤ _)⟩))
  obtain ⟨r62, rfl, hr62, N62q, Kq62, Yq62⟩ := hQ62
  obtain ⟨lc62, X62, N62⟩ := own_loc X62 (Fr.app N52 N62q)
  have Zs62 : n0 ≤ T62.heap.size := Nat.le_trans Zs52 Kq62.1
  have Fa63 : Exa Z T62.heap a1 "com/example/millrace/millrace/wire/RecordBatchBuilder" := Fa53.keep Kq62
  have Fa64 : Fld Z T62.heap a1 "com/example/millrace/millrace/wire/RecordBatchBuilder" "out" "Lcom/example/millrace/millrace/wire/ProtocolWriter;" (.ref wo) := Fa54.keep Kq62 (ninS ne_a1_t33 nin0)
  have Fa65 : Fld Z T62.heap a1 "com/example/millrace/millrace/wire/RecordBatchBuilder" "baseTimestamp" "J" (.long bt1) := Fa55.keep Kq62 (ninS ne_a1_t33 nin0)
  have Fa66 : Fld Z T62.heap a1 "com/example/millrace/millrace/wire/RecordBatchBuilder" "maxTimestamp" "J" (.long mt1) := Fa56.keep Kq62 (ninS ne_a1_t33 nin0)
  have Fa67 : Fld Z T62.heap a1 "com/example/millrace/millrace/wire/RecordBatchBuilder" "count" "I" (.int cn) := Fa57.keep Kq62 (ninS ne_a1_t33 nin0)
  have Fa68 : own_Y Z T62.heap ky kl := Fa58.keep Kq62 (ninS ne_ky_t33 nin0)
  have Fa69 : Exa Z T62.heap wo "com/example/millrace/millrace/wire/ProtocolWriter" := Fa59.keep Kq62
  have Fa70 : Fld Z T62.heap wo "com/example/millrace/millrace/wire/ProtocolWriter" "bytes" "[B" (.ref t33) := Fa60.keep Kq62 (ninS ne_wo_t33 nin0)
  have Fa71 : Fld Z T62.heap wo "com/example/millrace/millrace/wire/ProtocolWriter" "position" "I" (.int P) := Fa61.keep Kq62 (ninS ne_wo_t33 nin0)
  have Ke62 : Keep h0 T62.heap [a1, wo, t] := Ke52.trans Kq62 (allS ws_t33 all0)
  refine own_st (T' := T62) (g' := (mkF m 154 #[rv a1, own_jv p2, .second, rv ky, .val .null, own_jv z23, .second, iv cn, iv kl, iv (-1 : Int32), iv z101, rv t33, iv (r42 + (1 : Int32))] [(.int r62)])) (fun _ k => (st62) _ k) ?_
  refine own_st (T' := T62) (g' := (mkF m 156 #[rv a1, own_jv p2, .second, rv ky, .val .null, own_jv z23, .second, iv cn, iv kl, iv (-1 : Int32), iv z101, rv t33, iv r62] [])) (fun _ k => XS.istore X62.here hx rfl (hb hby d10_154) rfl (l' := #[rv a1, own_jv p2, .second, rv ky, .val .null, own_jv z23, .second, iv cn, iv kl, iv (-1 : Int32), iv z101, rv t33, iv r62]) rfl k) ?_
  refine own_st (T' := T62) (g' := (mkF m 158 #[rv a1, own_jv p2, .second, rv ky, .val .null, own_jv z23, .second, iv cn, iv kl, iv (-1 : Int32), iv z101, rv t33, iv r62] [(.ref t33)])) (fun _ k => XS.aload X62.here hx rfl (hb hby d10_156) rfl rfl k) ?_
  refine own_st (T' := T62) (g' := (mkF m 160 #[rv a1, own_jv p2, .second, rv ky, .val .null, own_jv z23, .second, iv cn, iv kl, iv (-1 : Int32), iv z101, rv t33, iv r62] [(.int r62), (.ref t33)])) (fun _ k => XS.iload X62.here hx rfl (hb hby d10_158) rfl k) ?_
  refine own_st (T' := T62) (g' := (mkF m 162 #[rv a1, own_jv p2, .second, rv ky, .val .null, own_jv z23, .second, iv cn, iv kl, iv (-1 : Int32), iv z101, rv t33, iv r62] [(.int cn), (.int r62), (.ref t33)])) (fun _ k => XS.iload X62.here hx rfl (hb hby d10_160) rfl k) ?_
  obtain ⟨v72, T72, L72, X72, hQ72, st72⟩ := own_packS (Jvm.LawKit.callS X62 hx (y := (⟨"com/example/millrace/millrace/wire/ProtocolWriter", "putVarint", "([BII)I"⟩ : MethodName)) hown (mvT hZ (hw _ (List.mem_of_getElem? (i := 104) rfl))) (mvT hZ (hw _ (List.mem_of_getElem? (i := 105) rfl))) (mvT hZ (hw _ (List.mem_of_getElem? (i := 12) rfl))) (mvT hZ (hw _ (List.mem_of_getElem? (i := 106) rfl))) (by decide) (backOf (W := 0) (rm20 l Z a0 hw [] t33 r62 cn nn33 T62.heap n0 Zs62 Yq62 gn_t33 (by omega) (by omega) (by omega) (by rw [← hs25]; omega)) hZ (hw _ (List.mem_of_getElem? (i := 106) rfl)) (hw _ (List.mem_of_getElem? (i := 12) rfl)) (by decide) (by decide)) (g := (mkF m 162 #[rv a1, own_jv p2, .second, rv ky, .val .null, own_jv z23, .second, iv cn, iv kl, iv (-1 : Int32), iv z101, rv t33, iv r62] [(.int cn), (.int r62), (.ref t33)])) rfl (by rw [hml]; rfl) (argsL := [(.ref t33), (.int r62), (.int cn)]) (rest := []) (lenOf own_pd10_5 rfl) rfl (by show 2 * 0 + _ ≤ _; exact Nat.le_of_eq rfl) (hb hby d10_162) (fun _ _ => ⟨rfl, rfl, (by decide : 1 + 0 ≤ _), (by decide : 2190 + 0 ≤ _)⟩))
  obtain ⟨r72, rfl, hr72, N72q, Kq72, Yq72⟩ := hQ72
  obtain ⟨lc72, X72, N72⟩ := own_loc X72 (Fr.app N62 N72q)
  have Zs72 : n0 ≤ T72.heap.size := Nat.le_trans Zs62 Kq72.1
  have Fa73 : Exa Z T72.heap a1 "com/example/millrace/millrace/wire/RecordBatchBuilder" := Fa63.keep Kq72
  have Fa74 : Fld Z T72.heap a1 "com/example/millrace/millrace/wire/RecordBatchBuilder" "out" "Lcom/example/millrace/millrace/wire/ProtocolWriter;" (.ref wo) := Fa64.keep Kq72 (ninS ne_a1_t33 nin0)
  have Fa75 : Fld Z T72.heap a1 "com/example/millrace/millrace/wire/RecordBatchBuilder" "baseTimestamp" "J" (.long bt1) := Fa65.keep Kq72 (ninS ne_a1_t33 nin0)
  have Fa76 : Fld Z T72.heap a1 "com/example/millrace/millrace/wire/RecordBatchBuilder" "maxTimestamp" "J" (.long mt1) := Fa66.keep Kq72 (ninS ne_a1_t33 nin0)
  have Fa77 : Fld Z T72.heap a1 "com/example/millrace/millrace/wire/RecordBatchBuilder" "count" "I" (.int cn) := Fa67.keep Kq72 (ninS ne_a1_t33 nin0)
  have Fa78 : own_Y Z T72.heap ky kl := Fa68.keep Kq72 (ninS ne_ky_t33 nin0)
  have Fa79 : Exa Z T72.heap wo "com/example/millrace/millrace/wire/ProtocolWriter" := Fa69.keep Kq72
  have Fa80 : Fld Z T72.heap wo "com/example/millrace/millrace/wire/ProtocolWriter" "bytes" "[B" (.ref t33) := Fa70.keep Kq72 (ninS ne_wo_t33 nin0)
  have Fa81 : Fld Z T72.heap wo "com/example/millrace/millrace/wire/ProtocolWriter" "position" "I" (.int P) := Fa71.keep Kq72 (ninS ne_wo_t33 nin0)
  have Ke72 : Keep h0 T72.heap [a1, wo, t] := Ke62.trans Kq72 (allS ws_t33 all0)
  rw [← hs25] at hr72
  refine own_st (T' := T72) (g' := (mkF m 165 #[rv a1, own_jv p2, .second, rv ky, .val .null, own_jv z23, .second, iv cn, iv kl, iv (-1 : Int32), iv z101, rv t33, iv r62] [(.int r72)])) (fun _ k => (st72) _ k) ?_
  refine own_st (T' := T72) (g' := (mkF m 167 #[rv a1, own_jv p2, .second, rv ky, .val .null, own_jv z23, .second, iv cn, iv kl, iv (-1 : Int32), iv z101, rv t33, iv r72] [])) (fun _ k => XS.istore X72.here hx rfl (hb hby d10_165) rfl (l' := #[rv a1, own_jv p2, .second, rv ky, .val .null, own_jv z23, .second, iv cn, iv kl, iv (-1 : Int32), iv z101, rv t33, iv r72]) rfl k) ?_
  refine own_st (T' := T72) (g' := (mkF m 169 #[rv a1, own_jv p2, .second, rv ky, .val .null, own_jv z23, .second, iv cn, iv kl, iv (-1 : Int32), iv z101, rv t33, iv r72] [(.ref t33)])) (fun _ k => XS.aload X72.here hx rfl (hb hby d10_167) rfl rfl k) ?_
  refine own_st (T' := T72) (g' := (mkF m 171 #[rv a1, own_jv p2, .second, rv ky, .val .null, own_jv z23, .second, iv cn, iv kl, iv (-1 : Int32), iv z101, rv t33, iv r72] [(.int r72), (.ref t33)])) (fun _ k => XS.iload X72.here hx rfl (hb hby d10_169) rfl k) ?_
  refine own_st (T' := T72) (g' := (mkF m 173 #[rv a1, own_jv p2, .second, rv ky, .val .null, own_jv z23, .second, iv cn, iv kl, iv (-1 : Int32), iv z101, rv t33, iv r72] [(.int kl), (.int r72), (.ref t33)])) (fun _ k => XS.iload X72.here hx rfl (hb hby d10_171) rfl k) ?_
  obtain ⟨v82, T82, L82, X82, hQ82, st82⟩ := own_packS (Jvm.LawKit.callS X72 hx (y := (⟨"com/example/millrace/millrace/wire/ProtocolWriter", "putVarint", "([BII)I"⟩ : MethodName)) hown (mvT hZ (hw _ (List.mem_of_getElem? (i := 104) rfl))) (mvT hZ (hw _ (List.mem_of_getElem? (i := 105) rfl))) (mvT hZ (hw _ (List.mem_of_getElem? (i := 12) rfl))) (mvT hZ (hw _ (List.mem_of_getElem? (i := 106) rfl))) (by decide) (backOf (W := 0) (rm20 l Z a0 hw [] t33 r72 kl nn33 T72.heap n0 Zs72 Yq72 gn_t33 (by omega) (by omega) (by omega) (by rw [← hs26]; omega)) hZ (hw _ (List.mem_of_getElem? (i := 106) rfl)) (hw _ (List.mem_of_getElem? (i := 12) rfl)) (by decide) (by decide)) (g := (mkF m 173 #[rv a1, own_jv p2, .second, rv ky, .val .null, own_jv z23, .second, iv cn, iv kl, iv (-1 : Int32), iv z101, rv t33, iv r72] [(.int kl), (.int r72), (.ref t33)])) rfl (by rw [hml]; rfl) (argsL := [(.ref t33), (.int r72), (.int kl)]) (rest := []) (lenOf own_pd10_5 rfl) rfl (by show 2 * 0 + _ ≤ _; exact Nat.le_of_eq rfl) (hb hby d10_173) (fun _ _ => ⟨rfl, rfl, (by decide : 1 + 0 ≤ _), (by decide : 2190 + 0 ≤ _)⟩))
  obtain ⟨r82, rfl, hr82, N82q, Kq82, Yq82⟩ := hQ82
  obtain ⟨lc82, X82, N82⟩ := own_loc X82 (Fr.app N72 N82q)
  have Zs82 : n0 ≤ T82.heap.size := Nat.le_trans Zs72 Kq82.1
  have Fa83 : Exa Z T82.heap a1 "com/example/millrace/millrace/wire/RecordBatchBuilder" := Fa73.keep Kq82
  have Fa84 : Fld Z T82.heap a1 "com/example/millrace/millrace/wire/RecordBatchBuilder" "out" "Lcom/example/millrace/millrace/wire/ProtocolWriter;" (.ref wo) := Fa74.keep Kq82 (ninS ne_a1_t33 nin0)
  have Fa85 : Fld Z T82.heap a1 "com/example/millrace/millrace/wire/RecordBatchBuilder" "baseTimestamp" "J" (.long bt1) := Fa75.keep Kq82 (ninS ne_a1_t33 nin0)
  have Fa86 : Fld Z T82.heap a1 "com/example/millrace/millrace/wire/RecordBatchBuilder" "maxTimestamp" "J" (.long mt1) := Fa76.keep Kq82 (ninS ne_a1_t33 nin0)
  have Fa87 : Fld Z T82.heap a1 "com/example/millrace/millrace/wire/RecordBatchBuilder" "count" "I" (.int cn) := Fa77.keep Kq82 (ninS ne_a1_t33 nin0)
  have Fa88 : own_Y Z T82.heap ky kl := Fa78.keep Kq82 (ninS ne_ky_t33 nin0)
  have Fa89 : Exa Z T82.heap wo "com/example/millrace/millrace/wire/ProtocolWriter" := Fa79.keep Kq82
  have Fa90 : Fld Z T82.heap wo "com/example/millrace/millrace/wire/ProtocolWriter" "bytes" "[B" (.ref t33) := Fa80.keep Kq82 (ninS ne_wo_t33 nin0)
  have Fa91 : Fld Z T82.heap wo "com/example/millrace/millrace/wire/ProtocolWriter" "position" "I" (.int P) := Fa81.keep Kq82 (ninS ne_wo_t33 nin0)
  have Ke82 : Keep h0 T82.heap [a1, wo, t] := Ke72.trans Kq82 (allS ws_t33 all0)
  rw [← hs26] at hr82
  refine own_st (T' := T82) (g' := (mkF m 176 #[rv a1, own_jv p2, .second, rv ky, .val .null, own_jv z23, .second, iv cn, iv kl, iv (-1 : Int32), iv z101, rv t33, iv r72] [(.int r82)])) (fun _ k => (st82) _ k) ?_
  refine own_st (T' := T82) (g' := (mkF m 178 #[rv a1, own_jv p2, .second, rv ky, .val .null, own_jv z23, .second, iv cn, iv kl, iv (-1 : Int32), iv z101, rv t33, iv r82] [])) (fun _ k => XS.istore X82.here hx rfl (hb hby d10_176) rfl (l' := #[rv a1, own_jv p2, .second, rv ky, .val .null, own_jv z23, .second, iv cn, iv kl, iv (-1 : Int32), iv z101, rv t33, iv r82]) rfl k) ?_
  refine own_st (T' := T82) (g' := (mkF m 179 #[rv a1, own_jv p2, .second, rv ky, .val .null, own_jv z23, .second, iv cn, iv kl, iv (-1 : Int32), iv z101, rv t33, iv r82] [(.ref ky)])) (fun _ k => XS.aloadN X82.here hx rfl (hb hby d10_178) rfl rfl k) ?_
  refine own_st (T' := T82) (g' := (mkF m 182 #[rv a1, own_jv p2, .second, rv ky, .val .null, own_jv z23, .second, iv cn, iv kl, iv (-1 : Int32), iv z101, rv t33, iv r82] [])) (fun _ k => XS.ifnullNo X82.here hx rfl (hb hby d10_179) rfl k) ?_
  refine own_st (T' := T82) (g' := (mkF m 183 #[rv a1, own_jv p2, .second, rv ky, .val .null, own_jv z23, .second, iv cn, iv kl, iv (-1 : Int32), iv z101, rv t33, iv r82] [(.ref ky)])) (fun _ k => XS.aloadN X82.here hx rfl (hb hby d10_182) rfl rfl k) ?_
  refine own_st (T' := T82) (g' := (mkF m 184 #[rv a1, own_jv p2, .second, rv ky, .val .null, own_jv z23, .second, iv cn, iv kl, iv (-1 : Int32), iv z101, rv t33, iv r82] [(.int (0 : Int32)), (.ref ky)])) (fun _ k => XS.iconst X82.here hx rfl (hb hby d10_183) k) ?_
  refine own_st (T' := T82) (g' := (mkF m 186 #[rv a1, own_jv p2, .second, rv ky, .val .null, own_jv z23, .second, iv cn, iv kl, iv (-1 : Int32), iv z101, rv t33, iv r82] [(.ref t33), (.int (0 : Int32)), (.ref ky)])) (fun _ k => XS.aload X82.here hx rfl (hb hby d10_184) rfl rfl k) ?_
  refine own_st (T' := T82) (g' := (mkF m 188 #[rv a1, own_jv p2, .second, rv ky, .val .null, own_jv z23, .second, iv cn, iv kl, iv (-1 : Int32), iv z101, rv t33, iv r82] [(.int r82), (.ref t33), (.int (0 : Int32)), (.ref ky)])) (fun _ k => XS.iload X82.here hx rfl (hb hby d10_186) rfl k) ?_
  refine own_st (T' := T82) (g' := (mkF m 189 #[rv a1, own_jv p2, .second, rv ky, .val .null, own_jv z23, .second, iv cn, iv kl, iv (-1 : Int32), iv z101, rv t33, iv r82] [(.ref ky), (.int r82), (.ref t33), (.int (0 : Int32)), (.ref ky)])) (fun _ k => XS.aloadN X82.here hx rfl (hb hby d10_188) rfl rfl k) ?_
  refine own_st (T' := T82) (g' := (mkF m 190 #[rv a1, own_jv p2, .second, rv ky, .val .null, own_jv z23, .second, iv cn, iv kl, iv (-1 : Int32), iv z101, rv t33, iv r82] [(.int kl), (.int r82), (.ref t33), (.int (0 : Int32)), (.ref ky)])) (fun _ k => (own_alen X82 hx hZ rfl Fa88 (g := (mkF m 189 #[rv a1, own_jv p2, .second, rv ky, .val .null, own_jv z23, .second, iv cn, iv kl, iv (-1 : Int32), iv z101, rv t33, iv r82] [(.ref ky), (.int r82), (.ref t33), (.int (0 : Int32)), (.ref ky)])) rfl rfl (hb hby d10_189)) _ k) ?_
  obtain ⟨T92, h92, lc92, X92, e92, N92, Kq92, Yq92, st92⟩ := own_cp X82 hx hZ hown (hw _ (List.mem_of_getElem? (i := 113) rfl)) (hw _ (List.mem_of_getElem? (i := 47) rfl)) (hw _ (List.mem_of_getElem? (i := 45) rfl)) (hw _ (List.mem_of_getElem? (i := 46) rfl)) rfl Fa88 Yq82 (by decide) (by omega) (by omega) (by rw [own_i0]; omega) (by omega) N82 gn_t33 (g := (mkF m 190 #[rv a1, own_jv p2, .second, rv ky, .val .null, own_jv z23, .second, iv cn, iv kl, iv (-1 : Int32), iv z101, rv t33, iv r82] [(.int kl), (.int r82), (.ref t33), (.int (0 : Int32)), (.ref ky)])) rfl (by rw [hml]; rfl) (rest := []) rfl (hb hby d10_190) (by decide) (W := 0) (by show 2 * 0 + _ ≤ _; exact Nat.le_of_eq rfl) (by decide)
  have Zs92 : n0 ≤ h92.size := Nat.le_trans Zs82 Kq92.1
  have Fa93 : Exa Z h92 a1 "com/example/millrace/millrace/wire/RecordBatchBuilder" := Fa83.keep Kq92
  have Fa94 : Fld Z h92 a1 "com/example/millrace/millrace/wire/RecordBatchBuilder" "out" "Lcom/example/millrace/millrace/wire/ProtocolWriter;" (.ref wo) := Fa84.keep Kq92 (ninS ne_a1_t33 nin0)
  have Fa95 : Fld Z h92 a1 "com/example/millrace/millrace/wire/RecordBatchBuilder" "baseTimestamp" "J" (.long bt1) := Fa85.keep Kq92 (ninS ne_a1_t33 nin0)
  have Fa96 : Fld Z h92 a1 "com/example/millrace/millrace/wire/RecordBatchBuilder" "maxTimestamp" "J" (.long mt1) := Fa86.keep Kq92 (ninS ne_a1_t33 nin0)
  have Fa97 : Fld Z h92 a1 "com/example/millrace/millrace/wire/RecordBatchBuilder" "count" "I" (.int cn) := Fa87.keep Kq92 (ninS ne_a1_t33 nin0)
  have Fa98 : own_Y Z h92 ky kl := Fa88.keep Kq92 (ninS ne_ky_t33 nin0)
  have Fa99 : Exa Z h92 wo "com/example/millrace/millrace/wire/ProtocolWriter" := Fa89.keep Kq92
  have Fa100 : Fld Z h92 wo "com/example/millrace/millrace/wire/ProtocolWriter" "bytes" "[B" (.ref t33) := Fa90.keep Kq92 (ninS ne_wo_t33 nin0)
  have Fa101 : Fld Z h92 wo "com/example/millrace/millrace/wire/ProtocolWriter" "position" "I" (.int P) := Fa91.keep Kq92 (ninS ne_wo_t33 nin0)
  have Ke92 : Keep h0 h92 [a1, wo, t] := Ke82.trans Kq92 (allS ws_t33 all0)
  refine own_st (T' := T92) (g' := (mkF m 193 #[rv a1, own_jv p2, .second, rv ky, .val .null, own_jv z23, .second, iv cn, iv kl, iv (-1 : Int32), iv z101, rv t33, iv r82] [])) (fun _ k => (st92) _ k) ?_
  refine own_st (T' := T92) (g' := (mkF m 195 #[rv a1, own_jv p2, .second, rv ky, .val .null, own_jv z23, .second, iv cn, iv kl, iv (-1 : Int32), iv z101, rv t33, iv r82] [(.int r82)])) (fun _ k => XS.iload X92.here hx rfl (hb hby d10_193) rfl k) ?_
  refine own_st (T' := T92) (g' := (mkF m 196 #[rv a1, own_jv p2, .second, rv ky, .val .null, own_jv z23, .second, iv cn, iv kl, iv (-1 : Int32), iv z101, rv t33, iv r82] [(.ref ky), (.int r82)])) (fun _ k => XS.aloadN X92.here hx rfl (hb hby d10_195) rfl rfl k) ?_
  refine own_st (T' := T92) (g' := (mkF m 197 #[rv a1, own_jv p2, .second, rv ky, .val .null, own_jv z23, .second, iv cn, iv kl, iv (-1 : Int32), iv z101, rv t33, iv r82] [(.int kl), (.int r82)])) (fun _ k => (own_alen X92 hx hZ e92 Fa98 (g := (mkF m 196 #[rv a1, own_jv p2, .second, rv ky, .val .null, own_jv z23, .second, iv cn, iv kl, iv (-1 : Int32), iv z101, rv t33, iv r82] [(.ref ky), (.int r82)])) rfl rfl (hb hby d10_196)) _ k) ?_
  refine own_st (T' := T92) (g' := (mkF m 198 #[rv a1, own_jv p2, .second, rv ky, .val .null, own_jv z23, .second, iv cn, iv kl, iv (-1 : Int32), iv z101, rv t33, iv r82] [(.int (r82 + kl))])) (fun _ k => XS.iadd X92.here hx rfl (hb hby d10_197) rfl k) ?_
  generalize hz198 : (r82 + kl) = z198
  refine own_st (T' := T92) (g' := (mkF m 200 #[rv a1, own_jv p2, .second, rv ky, .val .null, own_jv z23, .second, iv cn, iv kl, iv (-1 : Int32), iv z101, rv t33, iv z198] [])) (fun _ k => XS.istore X92.here hx rfl (hb hby d10_198) rfl (l' := #[rv a1, own_jv p2, .second, rv ky, .val .null, own_jv z23, .second, iv cn, iv kl, iv (-1 : Int32), iv z101, rv t33, iv z198]) rfl k) ?_
  have hm198 := own_add r82 kl (by omega) (by have := rng32 nn33; omega)
  rw [hz198] at hm198
  refine own_st (T' := T92) (g' := (mkF m 202 #[rv a1, own_jv p2, .second, rv ky, .val .null, own_jv z23, .second, iv cn, iv kl, iv (-1 : Int32), iv z101, rv t33, iv z198] [(.ref t33)])) (fun _ k => XS.aload X92.here hx rfl (hb hby d10_200) rfl rfl k) ?_
  refine own_st (T' := T92) (g' := (mkF m 204 #[rv a1, own_jv p2, .second, rv ky, .val .null, own_jv z23, .second, iv cn, iv kl, iv (-1 : Int32), iv z101, rv t33, iv z198] [(.int z198), (.ref t33)])) (fun _ k => XS.iload X92.here hx rfl (hb hby d10_202) rfl k) ?_
  refine own_st (T' := T92) (g' := (mkF m 206 #[rv a1, own_jv p2, .second, rv ky, .val .null, own_jv z23, .second, iv cn, iv kl, iv (-1 : Int32), iv z101, rv t33, iv z198] [(.int (-1 : Int32)), (.int z198), (.ref t33)])) (fun _ k => XS.iload X92.here hx rfl (hb hby d10_204) rfl k) ?_
  obtain ⟨v102, T102, L102, X102, hQ102, st102⟩ := own_packS (Jvm.LawKit.callS X92 hx (y := (⟨"com/example/millrace/millrace/wire/ProtocolWriter", "putVarint", "([BII)I"⟩ : MethodName)) hown (mvT hZ (hw _ (List.mem_of_getElem? (i := 104) rfl))) (mvT hZ (hw _ (List.mem_of_getElem? (i := 105) rfl))) (mvT hZ (hw _ (List.mem_of_getElem? (i := 12) rfl))) (mvT hZ (hw _ (List.mem_of_getElem? (i := 106) rfl))) (by decide) (backOf (W := 0) (rm20 l Z a0 hw [] t33 z198 (-1 : Int32) nn33 h92 n0 Zs92 Yq92 gn_t33 (by omega) (by decide) (by decide) (by rw [← hs28]; omega)) hZ (hw _ (List.mem_of_getElem? (i := 106) rfl)) (hw _ (List.mem_of_getElem? (i := 12) rfl)) (by decide) (by decide)) (g := (mkF m 206 #[rv a1, own_jv p2, .second, rv ky, .val .null, own_jv z23, .second, iv cn, iv kl, iv (-1 : Int32), iv z101, rv t33, iv z198] [(.int (-1 : Int32)), (.int z198), (.ref t33)])) rfl (by rw [hml]; rfl) (argsL := [(.ref t33), (.int z198), (.int (-1 : Int32))]) (rest := []) (lenOf own_pd10_5 rfl) rfl (by show 2 * 0 + _ ≤ _; exact Nat.le_of_eq rfl) (hb hby d10_206) (fun _ _ => ⟨rfl, e92, (by decide : 1 + 0 ≤ _), (by decide : 2190 + 0 ≤ _)⟩))
  obtain ⟨r102, rfl, hr102, N102q, Kq102, Yq102⟩ := hQ102
  obtain ⟨lc102, X102, N102⟩ := own_loc X102 (Fr.app N92 N102q)
  have Zs102 : n0 ≤ T102.heap.size := Nat.le_trans Zs92 Kq102.1
  have Fa103 : Exa Z T102.heap a1 "com/example/millrace/millrace/wire/RecordBatchBuilder" := Fa93.keep Kq102
  have Fa104 : Fld Z T102.heap a1 "com/example/millrace/millrace/wire/RecordBatchBuilder" "out" "Lcom/example/millrace/millrace/wire/ProtocolWriter;" (.ref wo) := Fa94.keep Kq102 (ninS ne_a1_t33 nin0)
  have Fa105 : Fld Z T102.heap a1 "com/example/millrace/millrace/wire/RecordBatchBuilder" "baseTimestamp" "J" (.long bt1) := Fa95.keep Kq102 (ninS ne_a1_t33 nin0)
  have Fa106 : Fld Z T102.heap a1 "com/example/millrace/millrace/wire/RecordBatchBuilder" "maxTimestamp" "J" (.long mt1) := Fa96.keep Kq102 (ninS ne_a1_t33 nin0)
  have Fa107 : Fld Z T102.heap a1 "com/example/millrace/millrace/wire/RecordBatchBuilder" "count" "I" (.int cn) := Fa97.keep Kq102 (ninS ne_a1_t33 nin0)
  have Fa108 : own_Y Z T102.heap ky kl := Fa98.keep Kq102 (ninS ne_ky_t33 nin0)
  have Fa109 : Exa Z T102.heap wo "com/example/millrace/millrace/wire/ProtocolWriter" := Fa99.keep Kq102
  have Fa110 : Fld Z T102.heap wo "com/example/millrace/millrace/wire/ProtocolWriter" "bytes" "[B" (.ref t33) := Fa100.keep Kq102 (ninS ne_wo_t33 nin0)
  have Fa111 : Fld Z T102.heap wo "com/example/millrace/millrace/wire/ProtocolWriter" "position" "I" (.int P) := Fa101.keep Kq102 (ninS ne_wo_t33 nin0)
  have Ke102 : Keep h0 T102.heap [a1, wo, t] := Ke92.trans Kq102 (allS ws_t33 all0)
  rw [← hs28] at hr102
  refine own_st (T' := T102) (g' := (mkF m 209 #[rv a1, own_jv p2, .second, rv ky, .val .null, own_jv z23, .second, iv cn, iv kl, iv (-1 : Int32), iv z101, rv t33, iv z198] [(.int r102)])) (fun _ k => (st102) _ k) ?_
  refine own_st (T' := T102) (g' := (mkF m 211 #[rv a1, own_jv p2, .second, rv ky, .val .null, own_jv z23, .second, iv cn, iv kl, iv (-1 : Int32), iv z101, rv t33, iv r102] [])) (fun _ k => XS.istore X102.here hx rfl (hb hby d10_209) rfl (l' := #[rv a1, own_jv p2, .second, rv ky, .val .null, own_jv z23, .second, iv cn, iv kl, iv (-1 : Int32), iv z101, rv t33, iv r102]) rfl k) ?_
  refine own_st (T' := T102) (g' := (mkF m 213 #[rv a1, own_jv p2, .second, rv ky, .val .null, own_jv z23, .second, iv cn, iv kl, iv (-1 : Int32), iv z101, rv t33, iv r102] [.null])) (fun _ k => XS.aload X102.here hx rfl (hb hby d10_211) rfl rfl k) ?_
  refine own_st (T' := T102) (g' := (mkF m 237 #[rv a1, own_jv p2, .second, rv ky, .val .null, own_jv z23, .second, iv cn, iv kl, iv (-1 : Int32), iv z101, rv t33, iv r102] [])) (fun _ k => XS.ifnullYes X102.here hx rfl (pc0 := 213) (pc' := 237) rfl (hb hby d10_213) rfl (by decide) (by decide) k) ?_
  refine own_st (T' := T102) (g' := (mkF m 239 #[rv a1, own_jv p2, .second, rv ky, .val .null, own_jv z23, .second, iv cn, iv kl, iv (-1 : Int32), iv z101, rv t33, iv r102] [(.ref t33)])) (fun _ k => XS.aload X102.here hx rfl (hb hby d10_237) rfl rfl k) ?_
  refine own_st (T' := T102) (g' := (mkF m 241 #[rv a1, own_jv p2, .second, rv ky, .val .null, own_jv z23, .second, iv cn, iv kl, iv (-1 : Int32), iv z101, rv t33, iv r102] [(.int r102), (.ref t33)])) (fun _ k => XS.iload X102.here hx rfl (hb hby d10_239) rfl k) ?_
  refine own_st (T' := T102) (g' := (mkF m 242 #[rv a1, own_jv p2, .second, rv ky, .val .null, own_jv z23, .second, iv cn, iv kl, iv (-1 : Int32), iv z101, rv t33, iv r102] [(.int (0 : Int32)), (.int r102), (.ref t33)])) (fun _ k => XS.iconst X102.here hx rfl (hb hby d10_241) k) ?_
  obtain ⟨v112, T112, L112, X112, hQ112, st112⟩ := own_packS (Jvm.LawKit.callS X102 hx (y := (⟨"com/example/millrace/millrace/wire/ProtocolWriter", "putVarint", "([BII)I"⟩ : MethodName)) hown (mvT hZ (hw _ (List.mem_of_getElem? (i := 104) rfl))) (mvT hZ (hw _ (List.mem_of_getElem? (i := 105) rfl))) (mvT hZ (hw _ (List.mem_of_getElem? (i := 12) rfl))) (mvT hZ (hw _ (List.mem_of_getElem? (i := 106) rfl))) (by decide) (backOf (W := 0) (rm20 l Z a0 hw [] t33 r102 (0 : Int32) nn33 T102.heap n0 Zs102 Yq102 gn_t33 (by omega) (by decide) (by decide) (by rw [← hs30]; omega)) hZ (hw _ (List.mem_of_getElem? (i := 106) rfl)) (hw _ (List.mem_of_getElem? (i := 12) rfl)) (by decide) (by decide)) (g := (mkF m 242 #[rv a1, own_jv p2, .second, rv ky, .val .null, own_jv z23, .second, iv cn, iv kl, iv (-1 : Int32), iv z101, rv t33, iv r102] [(.int (0 : Int32)), (.int r102), (.ref t33)])) rfl (by rw [hml]; rfl) (argsL := [(.ref t33), (.int r102), (.int (0 : Int32))]) (rest := []) (lenOf own_pd10_5 rfl) rfl (by show 2 * 0 + _ ≤ _; exact Nat.le_of_eq rfl) (hb hby d10_242) (fun _ _ => ⟨rfl, rfl, (by decide : 1 + 0 ≤ _), (by decide : 2190 + 0 ≤ _)⟩))
  obtain ⟨r112, rfl, hr112, N112q, Kq112, Yq112⟩ := hQ112
  obtain ⟨lc112, X112, N112⟩ := own_loc X112 (Fr.app N102 N112q)
  have Zs112 : n0 ≤ T112.heap.size := Nat.le_trans Zs102 Kq112.1
  have Fa113 : Exa Z T112.heap a1 "com/example/millrace/millrace/wire/RecordBatchBuilder" := Fa103.keep Kq112
  have Fa114 : Fld Z T112.heap a1 "com/example/millrace/millrace/wire/RecordBatchBuilder" "out" "Lcom/example/millrace/millrace/wire/ProtocolWriter;" (.ref wo) := Fa104.keep Kq112 (ninS ne_a1_t33 nin0)
  have Fa115 : Fld Z T112.heap a1 "com/example/millrace/millrace/wire/RecordBatchBuilder" "baseTimestamp" "J" (.long bt1) := Fa105.keep Kq112 (ninS ne_a1_t33 nin0)
  have Fa116 : Fld Z T112.heap a1 "com/example/millrace/millrace/wire/RecordBatchBuilder" "maxTimestamp" "J" (.long mt1) := Fa106.keep Kq112 (ninS ne_a1_t33 nin0)
  have Fa117 : Fld Z T112.heap a1 "com/example/millrace/millrace/wire/RecordBatchBuilder" "count" "I" (.int cn) := Fa107.keep Kq112 (ninS ne_a1_t33 nin0)
  have Fa118 : own_Y Z T112.heap ky kl := Fa108.keep Kq112 (ninS ne_ky_t33 nin0)
  have Fa119 : Exa Z T112.heap wo "com/example/millrace/millrace/wire/ProtocolWriter" := Fa109.keep Kq112
  have Fa120 : Fld Z T112.heap wo "com/example/millrace/millrace/wire/ProtocolWriter" "bytes" "[B" (.ref t33) := Fa110.keep Kq112 (ninS ne_wo_t33 nin0)
  have Fa121 : Fld Z T112.heap wo "com/example/millrace/millrace/wire/ProtocolWriter" "position" "I" (.int P) := Fa111.keep Kq112 (ninS ne_wo_t33 nin0)
  have Ke112 : Keep h0 T112.heap [a1, wo, t] := Ke102.trans Kq112 (allS ws_t33 all0)
  rw [← hs30] at hr112
  refine own_st (T' := T112) (g' := (mkF m 245 #[rv a1, own_jv p2, .second, rv ky, .val .null, own_jv z23, .second, iv cn, iv kl, iv (-1 : Int32), iv z101, rv t33, iv r102] [(.int r112)])) (fun _ k => (st112) _ k) ?_
  refine own_st (T' := T112) (g' := (mkF m 247 #[rv a1, own_jv p2, .second, rv ky, .val .null, own_jv z23, .second, iv cn, iv kl, iv (-1 : Int32), iv z101, rv t33, iv r112] [])) (fun _ k => XS.istore X112.here hx rfl (hb hby d10_245) rfl (l' := #[rv a1, own_jv p2, .second, rv ky, .val .null, own_jv z23, .second, iv cn, iv kl, iv (-1 : Int32), iv z101, rv t33, iv r112]) rfl k) ?_
  refine own_st (T' := T112) (g' := (mkF m 248 #[rv a1, own_jv p2, .second, rv ky, .val .null, own_jv z23, .second, iv cn, iv kl, iv (-1 : Int32), iv z101, rv t33, iv r112] [(.ref a1)])) (fun _ k => XS.aloadN X112.here hx rfl (hb hby d10_247) rfl rfl k) ?_
  obtain ⟨T122, X122, e122, st122⟩ := getF X112 hx hZ hown (host := "") (Or.inl (hw _ (List.mem_of_getElem? (i := 24) rfl))) Via.refl rfl Fa114 (g := (mkF m 248 #[rv a1, own_jv p2, .second, rv ky, .val .null, own_jv z23, .second, iv cn, iv kl, iv (-1 : Int32), iv z101, rv t33, iv r112] [(.ref a1)])) rfl rfl (hb hby d10_248)
  refine own_st (T' := T122) (g' := (mkF m 251 #[rv a1, own_jv p2, .second, rv ky, .val .null, own_jv z23, .second, iv cn, iv kl, iv (-1 : Int32), iv z101, rv t33, iv r112] [(.ref wo)])) (fun _ k => (st122) _ k) ?_
  refine own_st (T' := T122) (g' := (mkF m 253 #[rv a1, own_jv p2, .second, rv ky, .val .null, own_jv z23, .second, iv cn, iv kl, iv (-1 : Int32), iv z101, rv t33, iv r112] [(.int r112), (.ref wo)])) (fun _ k => XS.iload X122.here hx rfl (hb hby d10_251) rfl k) ?_
  obtain ⟨cq123, kq123, q123a, q123b, q123c⟩ := isOf hZ e122 Fa119
  obtain ⟨v123, T123, L123, X123, hQ123, st123⟩ := own_packV (X122.virtualBack hx (y := (⟨"com/example/millrace/millrace/wire/ProtocolWriter", "advanceTo", "(I)V"⟩ : MethodName)) (z := (⟨"com/example/millrace/millrace/wire/ProtocolWriter", "advanceTo", "(I)V"⟩ : MethodName)) hown (mvT hZ (hw _ (List.mem_of_getElem? (i := 114) rfl))) (mvT hZ (hw _ (List.mem_of_getElem? (i := 115) rfl))) (notFace_of_selects (args := #[]) (mvT hZ (hw _ (List.mem_of_getElem? (i := 117) rfl)))) (mvT hZ (hw _ (List.mem_of_getElem? (i := 117) rfl))) (mvT hZ (hw _ (List.mem_of_getElem? (i := 116) rfl))) (by decide) (backOf (W := 0) (rm23 l Z a0 hw [] wo r112 P t33 T112.heap n0 Zs112 Fa119 Fa121 Fa120 gn_wo) hZ (hw _ (List.mem_of_getElem? (i := 118) rfl)) (hw _ (List.mem_of_getElem? (i := 12) rfl)) (by decide) (by decide)) q123a q123c (g := (mkF m 253 #[rv a1, own_jv p2, .second, rv ky, .val .null, own_jv z23, .second, iv cn, iv kl, iv (-1 : Int32), iv z101, rv t33, iv r112] [(.int r112), (.ref wo)])) rfl (by rw [hml]; rfl) (Steps.refl _) (argsL := [(.int r112)]) (rest := []) (lenOf own_pd10_7 rfl) rfl (by show 2 * 0 + _ ≤ _; exact Nat.le_of_eq rfl) (hb hby d10_253) (fun _ _ => ⟨rfl, e122, (by decide : 1 + 0 ≤ _), (by decide : 2190 + 0 ≤ _)⟩))
  obtain ⟨rfl, N123q, Kq123, Fq123_0, Fq123_1, Fq123_2⟩ := hQ123
  obtain ⟨lc123, X123, N123⟩ := own_loc X123 (Fr.app N112 N123q)
  have Zs123 : n0 ≤ T123.heap.size := Nat.le_trans Zs112 Kq123.1
  have Fa124 : Exa Z T123.heap a1 "com/example/millrace/millrace/wire/RecordBatchBuilder" := Fa113.keep Kq123
  have Fa125 : Fld Z T123.heap a1 "com/example/millrace/millrace/wire/RecordBatchBuilder" "out" "Lcom/example/millrace/millrace/wire/ProtocolWriter;" (.ref wo) := Fa114.keep Kq123 (ninS ne_a1_wo nin0)
  have Fa126 : Fld Z T123.heap a1 "com/example/millrace/millrace/wire/RecordBatchBuilder" "baseTimestamp" "J" (.long bt1) := Fa115.keep Kq123 (ninS ne_a1_wo nin0)
  have Fa127 : Fld Z T123.heap a1 "com/example/millrace/millrace/wire/RecordBatchBuilder" "maxTimestamp" "J" (.long mt1) := Fa116.keep Kq123 (ninS ne_a1_wo nin0)
  have Fa128 : Fld Z T123.heap a1 "com/example/millrace/millrace/wire/RecordBatchBuilder" "count" "I" (.int cn) := Fa117.keep Kq123 (ninS ne_a1_wo nin0)
  have Fa129 : own_Y Z T123.heap ky kl := Fa118.keep Kq123 (ninS (Ne.symm ne_wo_ky) nin0)
  have Fa130 : own_Y Z T123.heap t33 nn33 := Yq112.keep Kq123 (ninS (Ne.symm ne_wo_t33) nin0)
  have Ke123 : Keep h0 T123.heap [a1, wo, t] := Ke112.trans Kq123 (allS (Or.inl (List.mem_of_getElem? (i := 1) rfl)) all0)
  refine own_st (T' := T123) (g' := (mkF m 256 #[rv a1, own_jv p2, .second, rv ky, .val .null, own_jv z23, .second, iv cn, iv kl, iv (-1 : Int32), iv z101, rv t33, iv r112] [])) (fun _ k => (st123) _ k) ?_
  refine own_st (T' := T123) (g' := (mkF m 257 #[rv a1, own_jv p2, .second, rv ky, .val .null, own_jv z23, .second, iv cn, iv kl, iv (-1 : Int32), iv z101, rv t33, iv r112] [(.ref a1)])) (fun _ k => XS.aloadN X123.here hx rfl (hb hby d10_256) rfl rfl k) ?_
  refine own_st (T' := T123) (g' := (mkF m 258 #[rv a1, own_jv p2, .second, rv ky, .val .null, own_jv z23, .second, iv cn, iv kl, iv (-1 : Int32), iv z101, rv t33, iv r112] [(.ref a1), (.ref a1)])) (fun _ k => XS.aloadN X123.here hx rfl (hb hby d10_257) rfl rfl k) ?_
  obtain ⟨T131, X131, e131, st131⟩ := getF X123 hx hZ hown (host := "") (Or.inl (hw _ (List.mem_of_getElem? (i := 67) rfl))) Via.refl rfl Fa127 (g := (mkF m 258 #[rv a1, own_jv p2, .second, rv ky, .val .null, own_jv z23, .second, iv cn, iv kl, iv (-1 : Int32), iv z101, rv t33, iv r112] [(.ref a1), (.ref a1)])) rfl rfl (hb hby d10_258)
  refine own_st (T' := T131) (g' := (mkF m 261 #[rv a1, own_jv p2, .second, rv ky, .val .null, own_jv z23, .second, iv cn, iv kl, iv (-1 : Int32), iv z101, rv t33, iv r112] [(.long mt1), (.ref a1)])) (fun _ k => (st131) _ k) ?_
  refine own_st (T' := T131) (g' := (mkF m 262 #[rv a1, own_jv p2, .second, rv ky, .val .null, own_jv z23, .second, iv cn, iv kl, iv (-1 : Int32), iv z101, rv t33, iv r112] [(.long p2), (.long mt1), (.ref a1)])) (fun _ k => XS.lloadN X131.here hx rfl (hb hby d10_261) rfl k) ?_
  obtain ⟨v132, T132, L132, X132, hQ132, st132⟩ := own_packS (Jvm.LawKit.callS X131 hx (y := (⟨"java/lang/Math", "max", "(JJ)J"⟩ : MethodName)) hown (mvT hZ (hw _ (List.mem_of_getElem? (i := 119) rfl))) (mvT hZ (hw _ (List.mem_of_getElem? (i := 94) rfl))) (mvT hZ (hw _ (List.mem_of_getElem? (i := 15) rfl))) (mvT hZ (hw _ (List.mem_of_getElem? (i := 95) rfl))) (by decide) (backOf (W := 1) (rm17 l Z a0 hw [] mt1 p2 T123.heap n0 Zs123 ) hZ (hw _ (List.mem_of_getElem? (i := 95) rfl)) (hw _ (List.mem_of_getElem? (i := 15) rfl)) (by decide) (by decide)) (g := (mkF m 262 #[rv a1, own_jv p2, .second, rv ky, .val .null, own_jv z23, .second, iv cn, iv kl, iv (-1 : Int32), iv z101, rv t33, iv r112] [(.long p2), (.long mt1), (.ref a1)])) rfl (by rw [hml]; rfl) (argsL := [(.long mt1), (.long p2)]) (rest := [(.ref a1)]) (lenOf own_pd10_8 rfl) rfl (by show 2 * 0 + _ ≤ _; exact Nat.le_of_eq rfl) (hb hby d10_262) (fun _ _ => ⟨rfl, e131, (by decide : 1 + 0 ≤ _), (by decide : 2190 + 0 ≤ _)⟩))
  obtain ⟨rfl, N132q, e132⟩ := hQ132
  obtain ⟨lc132, X132, N132⟩ := own_loc X132 (Fr.app N123 N132q)
  refine own_st (T' := T132) (g' := (mkF m 265 #[rv a1, own_jv p2, .second, rv ky, .val .null, own_jv z23, .second, iv cn, iv kl, iv (-1 : Int32), iv z101, rv t33, iv r112] [(.long (own_f17_0 mt1 p2)), (.ref a1)])) (fun _ k => (st132) _ k) ?_
  obtain ⟨T133, h133, X133, e133, W133, st133⟩ := putF X132 hx hZ hown (host := "") (Or.inl (hw _ (List.mem_of_getElem? (i := 67) rfl))) Via.refl e132 Fa127 Fa124 (Or.inl (hw _ (List.mem_of_getElem? (i := 68) rfl))) (hw _ (List.mem_of_getElem? (i := 2) rfl)) (ty := .long) (by decide) rfl rfl (g := (mkF m 265 #[rv a1, own_jv p2, .second, rv ky, .val .null, own_jv z23, .second, iv cn, iv kl, iv (-1 : Int32), iv z101, rv t33, iv r112] [(.long (own_f17_0 mt1 p2)), (.ref a1)])) rfl rfl (hb hby d10_265)
  have Fw133 := Fa127.same W133
  have Zs133 : n0 ≤ h133.size := Nat.le_trans Zs123 (Keep.of_wr W133).1
  obtain ⟨lc133, X133, N133⟩ := own_loc X133 (Fr.snoc X133 N132 gn_a1)
  have Fa134 : Exa Z h133 a1 "com/example/millrace/millrace/wire/RecordBatchBuilder" := Fa124.wr W133
  have Fa135 : Fld Z h133 a1 "com/example/millrace/millrace/wire/RecordBatchBuilder" "out" "Lcom/example/millrace/millrace/wire/ProtocolWriter;" (.ref wo) := Fa125.other W133 (Or.inr (slot_ne (Or.inr (hw _ (List.mem_of_getElem? (i := 25) rfl))) (Or.inl (hw _ (List.mem_of_getElem? (i := 68) rfl))) (by decide) (t := (.object "com/example/millrace/millrace/wire/ProtocolWriter")) (t' := .long) (by decide) (by decide)))
  have Fa136 : Fld Z h133 a1 "com/example/millrace/millrace/wire/RecordBatchBuilder" "baseTimestamp" "J" (.long bt1) := Fa126.other W133 (Or.inr (slot_ne (Or.inl (hw _ (List.mem_of_getElem? (i := 66) rfl))) (Or.inl (hw _ (List.mem_of_getElem? (i := 68) rfl))) (by decide) (t := .long) (t' := .long) (by decide) (by decide)))
  have Fa137 : Fld Z h133 a1 "com/example/millrace/millrace/wire/RecordBatchBuilder" "count" "I" (.int cn) := Fa128.other W133 (Or.inr (slot_ne (Or.inl (hw _ (List.mem_of_getElem? (i := 64) rfl))) (Or.inl (hw _ (List.mem_of_getElem? (i := 68) rfl))) (by decide) (t := .int) (t' := .long) (by decide) (by decide)))
  have Fa138 : own_Y Z h133 ky kl := Fa129.other W133 (Ne.symm ne_a1_ky)
  have Fa139 : own_Y Z h133 t33 nn33 := Fa130.other W133 (Ne.symm ne_a1_t33)
  have Fa140 : Exa Z h133 wo "com/example/millrace/millrace/wire/ProtocolWriter" := Fq123_0.wr W133
  have Fa141 : Fld Z h133 wo "com/example/millrace/millrace/wire/ProtocolWriter" "position" "I" (.int r112) := Fq123_1.other W133 (Or.inl (Ne.symm ne_a1_wo))
  have Fa142 : Fld Z h133 wo "com/example/millrace/millrace/wire/ProtocolWriter" "bytes" "[B" (.ref t33) := Fq123_2.other W133 (Or.inl (Ne.symm ne_a1_wo))
  have Ke133 : Keep h0 h133 [a1, wo, t] := Ke123.wr W133 (Or.inl (List.mem_of_getElem? (i := 0) rfl))
  refine own_st (T' := T133) (g' := (mkF m 268 #[rv a1, own_jv p2, .second, rv ky, .val .null, own_jv z23, .second, iv cn, iv kl, iv (-1 : Int32), iv z101, rv t33, iv r112] [])) (fun _ k => (st133) _ k) ?_
  refine own_st (T' := T133) (g' := (mkF m 269 #[rv a1, own_jv p2, .second, rv ky, .val .null, own_jv z23, .second, iv cn, iv kl, iv (-1 : Int32), iv z101, rv t33, iv r112] [(.ref a1)])) (fun _ k => XS.aloadN X133.here hx rfl (hb hby d10_268) rfl rfl k) ?_
  refine own_st (T' := T133) (g' := (mkF m 270 #[rv a1, own_jv p2, .second, rv ky, .val .null, own_jv z23, .second, iv cn, iv kl, iv (-1 : Int32), iv z101, rv t33, iv r112] [(.ref a1), (.ref a1)])) (fun _ k => XS.dup X133.here hx rfl (hb hby d10_269) rfl rfl k) ?_
  obtain ⟨T143, X143, e143, st143⟩ := getF X133 hx hZ hown (host := "") (Or.inl (hw _ (List.mem_of_getElem? (i := 63) rfl))) Via.refl e133 Fa137 (g := (mkF m 270 #[rv a1, own_jv p2, .second, rv ky, .val .null, own_jv z23, .second, iv cn, iv kl, iv (-1 : Int32), iv z101, rv t33, iv r112] [(.ref a1), (.ref a1)])) rfl rfl (hb hby d10_270)
  refine own_st (T' := T143) (g' := (mkF m 273 #[rv a1, own_jv p2, .second, rv ky, .val .null, own_jv z23, .second, iv cn, iv kl, iv (-1 : Int32), iv z101, rv t33, iv r112] [(.int cn), (.ref a1)])) (fun _ k => (st143) _ k) ?_
  refine own_st (T' := T143) (g' := (mkF m 274 #[rv a1, own_jv p2, .second, rv ky, .val .null, own_jv z23, .second, iv cn, iv kl, iv (-1 : Int32), iv z101, rv t33, iv r112] [(.int (1 : Int32)), (.int cn), (.ref a1)])) (fun _ k => XS.iconst X143.here hx rfl (hb hby d10_273) k) ?_
  refine own_st (T' := T143) (g' := (mkF m 275 #[rv a1, own_jv p2, .second, rv ky, .val .null, own_jv z23, .second, iv cn, iv kl, iv (-1 : Int32), iv z101, rv t33, iv r112] [(.int (cn + (1 : Int32))), (.ref a1)])) (fun _ k => XS.iadd X143.here hx rfl (hb hby d10_274) rfl k) ?_
  obtain ⟨T144, h144, X144, e144, W144, st144⟩ := putF X143 hx hZ hown (host := "") (Or.inl (hw _ (List.mem_of_getElem? (i := 63) rfl))) Via.refl e143 Fa137 Fa134 (Or.inl (hw _ (List.mem_of_getElem? (i := 64) rfl))) (hw _ (List.mem_of_getElem? (i := 2) rfl)) (ty := .int) (by decide) rfl rfl (g := (mkF m 275 #[rv a1, own_jv p2, .second, rv ky, .val .null, own_jv z23, .second, iv cn, iv kl, iv (-1 : Int32), iv z101, rv t33, iv r112] [(.int (cn + (1 : Int32))), (.ref a1)])) rfl rfl (hb hby d10_275)
  have Fw144 := Fa137.same W144
  have Zs144 : n0 ≤ h144.size := Nat.le_trans Zs133 (Keep.of_wr W144).1
  obtain ⟨lc144, X144, N144⟩ := own_loc X144 (Fr.snoc X144 N133 gn_a1)
  have Fa145 : Exa Z h144 a1 "com/example/millrace/millrace/wire/RecordBatchBuilder" := Fa134.wr W144
  have Fa146 : Fld Z h144 a1 "com/example/millrace/millrace/wire/RecordBatchBuilder" "out" "Lcom/example/millrace/millrace/wire/ProtocolWriter;" (.ref wo) := Fa135.other W144 (Or.inr (slot_ne (Or.inr (hw _ (List.mem_of_getElem? (i := 25) rfl))) (Or.inl (hw _ (List.mem_of_getElem? (i := 64) rfl))) (by decide) (t := (.object "com/example/millrace/millrace/wire/ProtocolWriter")) (t' := .int) (by decide) (by decide)))
  have Fa147 : Fld Z h144 a1 "com/example/millrace/millrace/wire/RecordBatchBuilder" "baseTimestamp" "J" (.long bt1) := Fa136.other W144 (Or.inr (slot_ne (Or.inl (hw _ (List.mem_of_getElem? (i := 66) rfl))) (Or.inl (hw _ (List.mem_of_getElem? (i := 64) rfl))) (by decide) (t := .long) (t' := .int) (by decide) (by decide)))
  have Fa148 : own_Y Z h144 ky kl := Fa138.other W144 (Ne.symm ne_a1_ky)
  have Fa149 : own_Y Z h144 t33 nn33 := Fa139.other W144 (Ne.symm ne_a1_t33)
  have Fa150 : Exa Z h144 wo "com/example/millrace/millrace/wire/ProtocolWriter" := Fa140.wr W144
  have Fa151 : Fld Z h144 wo "com/example/millrace/millrace/wire/ProtocolWriter" "position" "I" (.int r112) := Fa141.other W144 (Or.inl (Ne.symm ne_a1_wo))
  have Fa152 : Fld Z h144 wo "com/example/millrace/millrace/wire/ProtocolWriter" "bytes" "[B" (.ref t33) := Fa142.other W144 (Or.inl (Ne.symm ne_a1_wo))
  have Fa153 : Fld Z h144 a1 "com/example/millrace/millrace/wire/RecordBatchBuilder" "maxTimestamp" "J" (.long (own_f17_0 mt1 p2)) := Fw133.other W144 (Or.inr (slot_ne (Or.inl (hw _ (List.mem_of_getElem? (i := 68) rfl))) (Or.inl (hw _ (List.mem_of_getElem? (i := 64) rfl))) (by decide) (t := .long) (t' := .int) (by decide) (by decide)))
  have Ke144 : Keep h0 h144 [a1, wo, t] := Ke133.wr W144 (Or.inl (List.mem_of_getElem? (i := 0) rfl))
  refine own_st (T' := T144) (g' := (mkF m 278 #[rv a1, own_jv p2, .second, rv ky, .val .null, own_jv z23, .second, iv cn, iv kl, iv (-1 : Int32), iv z101, rv t33, iv r112] [])) (fun _ k => (st144) _ k) ?_
  exact own_end (Q := Q10_01 Z a1 p2 ky wo t bt mt cn P n kl h0 n0) (v := none) X144 (fun _ => rfl) (fun fs hr => X144.returnOut hx Bd.returns (hb hby d10_278) hr) (by rw [e144]; exact ⟨rfl, N144, Ke144, ⟨t33, nn33, r112, bt1, _, hto33, gn_t33, by omega, by omega, by omega, by omega, ⟨Fa145, Fa146, Fa147, Fa153, Fw144, Fa150, Fa152, Fa151, Fa149⟩⟩⟩) (by decide) (by decide)
theorem own_ef10_00 (m : MethodId) (x0 : Addr) (x1 : Int64) (x2 : Addr) (x3 : Addr) : entryFrame m #[(.ref x0), (.long x1), (.ref x2), (.ref x3)] 13 = mkF m 0 #[rv x0, own_jv x1, .second, rv x2, rv x3, .unset, .unset, .unset, .unset, .unset, .unset, .unset, .unset] [] := by first | (simp [entryFrame, mkF, argsToLocals, Value.category]; done) | rfl
def Q10_00 (Z : State) (a1 : Addr) (p2 : Int64) (ky : Addr) (vy : Addr) (wo t : Addr) (bt mt : Int64) (cn P n : Int32) (kl : Int32) (vl : Int32) (h0 : Heap) (n0 : Nat) (v : Option Value) (h : Heap) (L : List Loc) : Prop := v = none ∧ Fr n0 L ∧ Keep h0 h [a1, wo, t] ∧ ∃ (t' : Addr) (n' P' : Int32) (bt' mt' : Int64), (t' = t ∨ h0.size ≤ t') ∧ n0 ≤ t' ∧ P.toInt ≤ P'.toInt ∧ P'.toInt ≤ P.toInt + 21 + kl.toInt + vl.toInt ∧ (n'.toInt ≤ P.toInt + 21 + kl.toInt + vl.toInt ∨ n'.toInt ≤ 2 * n.toInt) ∧ 0 < n'.toInt ∧ own_S Z h a1 wo t' bt' mt' (cn + (1 : Int32)) P' n'
set_option maxRecDepth 65536 in
set_option maxHeartbeats 40000000 in
theorem rm10_00 (l : Launch) (Z : State) (a0 : Array Value) (hw : ∀ d ∈ tables_1, d.before a0 Z = true) (ws : List Jvm.Cond) (a1 : Addr) (p2 : Int64) (ky : Addr) (vy : Addr) (wo t : Addr) (bt mt : Int64) (cn P n : Int32) (kl : Int32) (vl : Int32) (h0 : Heap) (n0 : Nat) (Z0 : n0 ≤ h0.size) (E_a1 : Exa Z h0 a1 "com/example/millrace/millrace/wire/RecordBatchBuilder") (F_o : Fld Z h0 a1 "com/example/millrace/millrace/wire/RecordBatchBuilder" "out" "Lcom/example/millrace/millrace/wire/ProtocolWriter;" (.ref wo)) (F_bt : Fld Z h0 a1 "com/example/millrace/millrace/wire/RecordBatchBuilder" "baseTimestamp" "J" (.long bt)) (F_mt : Fld Z h0 a1 "com/example/millrace/millrace/wire/RecordBatchBuilder" "maxTimestamp" "J" (.long mt)) (F_c : Fld Z h0 a1 "com/example/millrace/millrace/wire/RecordBatchBuilder" "count" "I" (.int cn)) (E_wo : Exa Z h0 wo "com/example/millrace/millrace/wire/ProtocolWriter") (F_b : Fld Z h0 wo "com/example/millrace/millrace/wire/ProtocolWriter" "bytes" "[B" (.ref t)) (F_p : Fld Z h0 wo "com/example/millrace/millrace/wire/ProtocolWriter" "position" "I" (.int P)) (Y_t : own_Y Z h0 t n) (Y_k : own_Y Z h0 ky kl) (Y_v : own_Y Z h0 vy vl) (gn_a1 : n0 ≤ a1) (gn_wo : n0 ≤ wo) (gn_t : n0 ≤ t) (ne_a1_wo : a1 ≠ wo) (ne_a1_t : a1 ≠ t) (ne_wo_t : wo ≠ t) (ne_a1_ky : a1 ≠ ky) (ne_wo_ky : wo ≠ ky) (ne_t_ky : t ≠ ky) (ne_a1_vy : a1 ≠ vy) (ne_wo_vy : wo ≠ vy) (ne_t_vy : t ≠ vy) (hc0 : 0 ≤ cn.toInt) (hc1 : cn.toInt ≤ 100) (hP0 : 0 ≤ P.toInt) (hP : P.toInt ≤ 90) (hn0 : 0 < n.toInt) (hn : n.toInt ≤ 300) (hk0 : 0 ≤ kl.toInt) (hk1 : kl.toInt ≤ 1023) (hv0 : 0 ≤ vl.toInt) (hv1 : vl.toInt ≤ 1023) :
    MetFree l (⟨"com/example/millrace/millrace/wire/RecordBatchBuilder", "append", "(J[B[B)V"⟩ : MethodName) (head1 (Jvm.Cond.code (⟨"com/example/millrace/millrace/wire/RecordBatchBuilder", "append", "(J[B[B)V"⟩ : MethodName) prog_130_method_6_code 13 none :: ws) ({ frames := 5, cells := 1, slots := 2190, locals := 110 } : Room)) (fun a U => a = #[(.ref a1), (.long p2), (.ref ky), (.ref vy)] ∧ Z.Warmed39 U.vm ∧ U.heap = h0) (fun _ _ _ _ _ => True) (fun _ U o U' => ∃ v L, o = .returned v ∧ Q10_00 Z a1 p2 ky vy wo t bt mt cn P n kl vl h0 n0 v U'.heap L ∧ FrameEnd U o U' L ({ frames := 5, cells := 1, slots := 2190, locals := 110 } : Room).cells ({ frames := 5, cells := 1, slots := 2190, locals := 110 } : Room).slots) := by
  refine MetFree.of_bodySF (plainFor_of_name own_pn10) hisR ?_
  intro p e s m args below meth c s₁ Bd hml0 hP hK
  obtain ⟨rfl, hZ, hh⟩ := hP
  have hx := Bd.exec
  have hby := Bd.bytes
  have hml : c.maxLocals = 13 := hml0
  have hown : s.vm.findClass "com/example/millrace/millrace/wire/RecordBatchBuilder" = some m.cls := findClass_of_methodNamed Bd.named
  have hnm := (name_of_methodNamed Bd.named Bd.method).1
  have hlk := Bd.notSynchronized
  have X0 : Stand p l e ({ frames := 5, cells := 1, slots := 2190, locals := 110 } : Room) s m #[(.ref a1), (.long p2), (.ref ky), (.ref vy)] below meth c s₁ [] 0 0 := Stand.of_body Bd
  have e0 : s₁.heap = h0 := by rw [← hh, Bd.state]; rfl
  have N0 := Fr.nil n0
  show own_Goes p e below (fun o U' => ∃ v L, o = .returned v ∧ Q10_00 Z a1 p2 ky vy wo t bt mt cn P n kl vl h0 n0 v U'.heap L ∧ FrameEnd s o U' L ({ frames := 5, cells := 1, slots := 2190, locals := 110 } : Room).cells ({ frames := 5, cells := 1, slots := 2190, locals := 110 } : Room).slots) s₁ (entryFrame m #[(.ref a1), (.long p2), (.ref ky), (.ref vy)] 13)
  refine own_st (T' := s₁) (g' := mkF m 0 #[rv a1, own_jv p2, .second, rv ky, rv vy, .unset, .unset, .unset, .unset, .unset, .unset, .unset, .unset] []) (fun _ k => castTop (own_ef10_00 m a1 p2 ky vy) k) ?_
  suffices J17 : ∀ (T' : State) (h' : Heap) (lc' : List Loc) (bt1 mt1 : Int64) (X' : Stand p l e ({ frames := 5, cells := 1, slots := 2190, locals := 110 } : Room) s m #[(.ref a1), (.long p2), (.ref ky), (.ref vy)] below meth c T' lc' 0 0) (e' : T'.heap = h') (N' : Fr n0 lc') (Zh' : n0 ≤ h'.size) (Kp' : Keep h0 h' [a1, wo, t]) (Fj0 : Exa Z h' a1 "com/example/millrace/millrace/wire/RecordBatchBuilder") (Fj1 : Fld Z h' a1 "com/example/millrace/millrace/wire/RecordBatchBuilder" "out" "Lcom/example/millrace/millrace/wire/ProtocolWriter;" (.ref wo)) (Fj2 : Fld Z h' a1 "com/example/millrace/millrace/wire/RecordBatchBuilder" "baseTimestamp" "J" (.long bt1)) (Fj3 : Fld Z h' a1 "com/example/millrace/millrace/wire/RecordBatchBuilder" "maxTimestamp" "J" (.long mt1)) (Fj4 : Fld Z h' a1 "com/example/millrace/millrace/wire/RecordBatchBuilder" "count" "I" (.int cn)) (Fj5 : Exa Z h' wo "com/example/millrace/millrace/wire/ProtocolWriter") (Fj6 : Fld Z h' wo "com/example/millrace/millrace/wire/ProtocolWriter" "bytes" "[B" (.ref t)) (Fj7 : Fld Z h' wo "com/example/millrace/millrace/wire/ProtocolWriter" "position" "I" (.int P)) (Fj8 : own_Y Z h' t n) (Fj9 : own_Y Z h' ky kl) (Fj10 : own_Y Z h' vy vl), own_Goes p e below (fun o U' => ∃ v L, o = .returned v ∧ Q10_00 Z a1 p2 ky vy wo t bt mt cn P n kl vl h0 n0 v U'.heap L ∧ FrameEnd s o U' L ({ frames := 5, cells := 1, slots := 2190, locals := 110 } : Room).cells ({ frames := 5, cells := 1, slots := 2190, locals := 110 } : Room).slots) T' (mkF m 17 #[rv a1, own_jv p2, .second, rv ky, rv vy, .unset, .unset, .unset, .unset, .unset, .unset, .unset, .unset] []) by
    refine own_st (T' := s₁) (g' := (mkF m 1 #[rv a1, own_jv p2, .second, rv ky, rv vy, .unset, .unset, .unset, .unset, .unset, .unset, .unset, .unset] [(.ref a1)])) (fun _ k => XS.aloadN X0.here hx rfl (hb hby d10_0) rfl rfl k) ?_
    obtain ⟨T1, X1, e1, st1⟩ := getF X0 hx hZ hown (host := "") (Or.inl (hw _ (List.mem_of_getElem? (i := 63) rfl))) Via.refl e0 F_c (g := (mkF m 1 #[rv a1, own_jv p2, .second, rv ky, rv vy, .unset, .unset, .unset, .unset, .unset, .unset, .unset, .unset] [(.ref a1)])) rfl rfl (hb hby d10_1)
    refine own_st (T' := T1) (g' := (mkF m 4 #[rv a1, own_jv p2, .second, rv ky, rv vy, .unset, .unset, .unset, .unset, .unset, .unset, .unset, .unset] [(.int cn)])) (fun _ k => (st1) _ k) ?_
    by_cases hc4 : cn = (0 : Int32)
    · refine own_st (T' := T1) (g' := (mkF m 7 #[rv a1, own_jv p2, .second, rv ky, rv vy, .unset, .unset, .unset, .unset, .unset, .unset, .unset, .unset] [])) (fun _ k => XS.ifNo X1.here hx rfl (hb hby d10_4) rfl ((if0 _ _).trans (teq hc4).2) k) ?_
      refine own_st (T' := T1) (g' := (mkF m 8 #[rv a1, own_jv p2, .second, rv ky, rv vy, .unset, .unset, .unset, .unset, .unset, .unset, .unset, .unset] [(.ref a1)])) (fun _ k => XS.aloadN X1.here hx rfl (hb hby d10_7) rfl rfl k) ?_
      refine own_st (T' := T1) (g' := (mkF m 9 #[rv a1, own_jv p2, .second, rv ky, rv vy, .unset, .unset, .unset, .unset, .unset, .unset, .unset, .unset] [(.long p2), (.ref a1)])) (fun _ k => XS.lloadN X1.here hx rfl (hb hby d10_8) rfl k) ?_
      obtain ⟨T2, h2, X2, e2, W2, st2⟩ := putF X1 hx hZ hown (host := "") (Or.inl (hw _ (List.mem_of_getElem? (i := 65) rfl))) Via.refl e1 F_bt E_a1 (Or.inl (hw _ (List.mem_of_getElem? (i := 66) rfl))) (hw _ (List.mem_of_getElem? (i := 2) rfl)) (ty := .long) (by decide) rfl rfl (g := (mkF m 9 #[rv a1, own_jv p2, .second, rv ky, rv vy, .unset, .unset, .unset, .unset, .unset, .unset, .unset, .unset] [(.long p2), (.ref a1)])) rfl rfl (hb hby d10_9)
      have Fw2 := F_bt.same W2
      have Zs2 : n0 ≤ h2.size := Nat.le_trans Z0 (Keep.of_wr W2).1
      obtain ⟨lc2, X2, N2⟩ := own_loc X2 (Fr.snoc X2 N0 gn_a1)
      have Fa3 : Exa Z h2 a1 "com/example/millrace/millrace/wire/RecordBatchBuilder" := E_a1.wr W2
      have Fa4 : Fld Z h2 a1 "com/example/millrace/millrace/wire/RecordBatchBuilder" "out" "Lcom/example/millrace/millrace/wire/ProtocolWriter;" (.ref wo) := F_o.other W2 (Or.inr (slot_ne (Or.inr (hw _ (List.mem_of_getElem? (i := 25) rfl))) (Or.inl (hw _ (List.mem_of_getElem? (i := 66) rfl))) (by decide) (t := (.object "com/example/millrace/millrace/wire/ProtocolWriter")) (t' := .long) (by decide) (by decide)))
      have Fa5 : Fld Z h2 a1 "com/example/millrace/millrace/wire/RecordBatchBuilder" "maxTimestamp" "J" (.long mt) := F_mt.other W2 (Or.inr (slot_ne (Or.inl (hw _ (List.mem_of_getElem? (i := 68) rfl))) (Or.inl (hw _ (List.mem_of_getElem? (i := 66) rfl))) (by decide) (t := .long) (t' := .long) (by decide) (by decide)))
      have Fa6 : Fld Z h2 a1 "com/example/millrace/millrace/wire/RecordBatchBuilder" "count" "I" (.int cn) := F_c.other W2 (Or.inr (slot_ne (Or.inl (hw _ (List.mem_of_getElem? (i := 64) rfl))) (Or.inl (hw _ (List.mem_of_getElem? (i := 66) rfl))) (by decide) (t := .int) (t' := .long) (by decide) (by decide)))
      have Fa7 : Exa Z h2 wo "com/example/millrace/millrace/wire/ProtocolWriter" := E_wo.wr W2
      have Fa8 : Fld Z h2 wo "com/example/millrace/millrace/wire/ProtocolWriter" "bytes" "[B" (.ref t) := F_b.other W2 (Or.inl (Ne.symm ne_a1_wo))
      have Fa9 : Fld Z h2 wo "com/example/millrace/millrace/wire/ProtocolWriter" "position" "I" (.int P) := F_p.other W2 (Or.inl (Ne.symm ne_a1_wo))
      have Fa10 : own_Y Z h2 t n := Y_t.other W2 (Ne.symm ne_a1_t)
      have Fa11 : own_Y Z h2 ky kl := Y_k.other W2 (Ne.symm ne_a1_ky)
      have Fa12 : own_Y Z h2 vy vl := Y_v.other W2 (Ne.symm ne_a1_vy)
      have Ke2 : Keep h0 h2 [a1, wo, t] := (Keep.refl h0 [a1, wo, t]).wr W2 (Or.inl (List.mem_of_getElem? (i := 0) rfl))
      refine own_st (T' := T2) (g' := (mkF m 12 #[rv a1, own_jv p2, .second, rv ky, rv vy, .unset, .unset, .unset, .unset, .unset, .unset, .unset, .unset] [])) (fun _ k => (st2) _ k) ?_
      refine own_st (T' := T2) (g' := (mkF m 13 #[rv a1, own_jv p2, .second, rv ky, rv vy, .unset, .unset, .unset, .unset, .unset, .unset, .unset, .unset] [(.ref a1)])) (fun _ k => XS.aloadN X2.here hx rfl (hb hby d10_12) rfl rfl k) ?_
      refine own_st (T' := T2) (g' := (mkF m 14 #[rv a1, own_jv p2, .second, rv ky, rv vy, .unset, .unset, .unset, .unset, .unset, .unset, .unset, .unset] [(.long p2), (.ref a1)])) (fun _ k => XS.lloadN X2.here hx rfl (hb hby d10_13) rfl k) ?_
      obtain ⟨T13, h13, X13, e13, W13, st13⟩ := putF X2 hx hZ hown (host := "") (Or.inl (hw _ (List.mem_of_getElem? (i := 67) rfl))) Via.refl e2 Fa5 Fa3 (Or.inl (hw _ (List.mem_of_getElem? (i := 68) rfl))) (hw _ (List.mem_of_getElem? (i := 2) rfl)) (ty := .long) (by decide) rfl rfl (g := (mkF m 14 #[rv a1, own_jv p2, .second, rv ky, rv vy, .unset, .unset, .unset, .unset, .unset, .unset, .unset, .unset] [(.long p2), (.ref a1)])) rfl rfl (hb hby d10_14)
      have Fw13 := Fa5.same W13
      have Zs13 : n0 ≤ h13.size := Nat.le_trans Zs2 (Keep.of_wr W13).1
      obtain ⟨lc13, X13, N13⟩ := own_loc X13 (Fr.snoc X13 N2 gn_a1)
      have Fa14 : Exa Z h13 a1 "com/example/millrace/millrace/wire/RecordBatchBuilder" := Fa3.wr W13
      have Fa15 : Fld Z h13 a1 "com/example/millrace/millrace/wire/RecordBatchBuilder" "out" "Lcom/example/millrace/millrace/wire/ProtocolWriter;" (.ref wo) := Fa4.other W13 (Or.inr (slot_ne (Or.inr (hw _ (List.mem_of_getElem? (i := 25) rfl))) (Or.inl (hw _ (List.mem_of_getElem? (i := 68) rfl))) (by decide) (t := (.object "com/example/millrace/millrace/wire/ProtocolWriter")) (t' := .long) (by decide) (by decide)))
      have Fa16 : Fld Z h13 a1 "com/example/millrace/millrace/wire/RecordBatchBuilder" "count" "I" (.int cn) := Fa6.other W13 (Or.inr (slot_ne (Or.inl (hw _ (List.mem_of_getElem? (i := 64) rfl))) (Or.inl (hw _ (List.mem_of_getElem? (i := 68) rfl))) (by decide) (t := .int) (t' := .long) (by decide) (by decide)))
      have Fa17 : Exa Z h13 wo "com/example/millrace/millrace/wire/ProtocolWriter" := Fa7.wr W13
      have Fa18 : Fld Z h13 wo "com/example/millrace/millrace/wire/ProtocolWriter" "bytes" "[B" (.ref t) := Fa8.other W13 (Or.inl (Ne.symm ne_a1_wo))
      have Fa19 : Fld Z h13 wo "com/example/millrace/millrace/wire/ProtocolWriter" "position" "I" (.int P) := Fa9.other W13 (Or.inl (Ne.symm ne_a1_wo))
      have Fa20 : own_Y Z h13 t n := Fa10.other W13 (Ne.symm ne_a1_t)
      have Fa21 : own_Y Z h13 ky kl := Fa11.other W13 (Ne.symm ne_a1_ky)
      have Fa22 : own_Y Z h13 vy vl := Fa12.other W13 (Ne.symm ne_a1_vy)
      have Fa23 : Fld Z h13 a1 "com/example/millrace/millrace/wire/RecordBatchBuilder" "baseTimestamp" "J" (.long p2) := Fw2.other W13 (Or.inr (slot_ne (Or.inl (hw _ (List.mem_of_getElem? (i := 66) rfl))) (Or.inl (hw _ (List.mem_of_getElem? (i := 68) rfl))) (by decide) (t := .long) (t' := .long) (by decide) (by decide)))
      have Ke13 : Keep h0 h13 [a1, wo, t] := Ke2.wr W13 (Or.inl (List.mem_of_getElem? (i := 0) rfl))
      refine own_st (T' := T13) (g' := (mkF m 17 #[rv a1, own_jv p2, .second, rv ky, rv vy, .unset, .unset, .unset, .unset, .unset, .unset, .unset, .unset] [])) (fun _ k => (st13) _ k) ?_
      exact J17 _ _ _ _ _ X13 e13 N13 Zs13 Ke13 Fa14 Fa15 Fa23 Fw13 Fa16 Fa17 Fa18 Fa19 Fa20 Fa21 Fa22
    · refine own_st (T' := T1) (g' := (mkF m 17 #[rv a1, own_jv p2, .second, rv ky, rv vy, .unset, .unset, .unset, .unset, .unset, .unset, .unset, .unset] [])) (fun _ k => XS.ifYes X1.here hx rfl (pc0 := 4) (pc' := 17) rfl (hb hby d10_4) rfl ((if0 _ _).trans (feq hc4).2) (by decide) (by decide) k) ?_
      exact J17 _ _ _ _ _ X1 e1 N0 Z0 (Keep.refl h0 [a1, wo, t]) E_a1 F_o F_bt F_mt F_c E_wo F_b F_p Y_t Y_k Y_v
  intro TJ hJ lcJ bt1 mt1 XJ eJ NJ ZJ KJ Fj0 Fj1 Fj2 Fj3 Fj4 Fj5 Fj6 Fj7 Fj8 Fj9 Fj10
  refine own_st (T' := TJ) (g' := (mkF m 18 #[rv a1, own_jv p2, .second, rv ky, rv vy, .unset, .unset, .unset, .unset, .unset, .unset, .unset, .unset] [(.long p2)])) (fun _ k => XS.lloadN XJ.here hx rfl (hb hby d10_17) rfl k) ?_
  refine own_st (T' := TJ) (g' := (mkF m 19 #[rv a1, own_jv p2, .second, rv ky, rv vy, .unset, .unset, .unset, .unset, .unset, .unset, .unset, .unset] [(.ref a1), (.long p2)])) (fun _ k => XS.aloadN XJ.here hx rfl (hb hby d10_18) rfl rfl k) ?_
  obtain ⟨T24, X24, e24, st24⟩ := getF XJ hx hZ hown (host := "") (Or.inl (hw _ (List.mem_of_getElem? (i := 65) rfl))) Via.refl eJ Fj2 (g := (mkF m 19 #[rv a1, own_jv p2, .second, rv ky, rv vy, .unset, .unset, .unset, .unset, .unset, .unset, .unset, .unset] [(.ref a1), (.long p2)])) rfl rfl (hb hby d10_19)
  refine own_st (T' := T24) (g' := (mkF m 22 #[rv a1, own_jv p2, .second, rv ky, rv vy, .unset, .unset, .unset, .unset, .unset, .unset, .unset, .unset] [(.long bt1), (.long p2)])) (fun _ k => (st24) _ k) ?_
  refine own_st (T' := T24) (g' := (mkF m 23 #[rv a1, own_jv p2, .second, rv ky, rv vy, .unset, .unset, .unset, .unset, .unset, .unset, .unset, .unset] [(.long (p2 - bt1))])) (fun _ k => XS.lsub X24.here hx rfl (hb hby d10_22) rfl k) ?_
  generalize hz23 : (p2 - bt1) = z23
  refine own_st (T' := T24) (g' := (mkF m 25 #[rv a1, own_jv p2, .second, rv ky, rv vy, own_jv z23, .second, .unset, .unset, .unset, .unset, .unset, .unset] [])) (fun _ k => XS.lstore X24.here hx rfl (hb hby d10_23) rfl (l' := #[rv a1, own_jv p2, .second, rv ky, rv vy, own_jv z23, .second, .unset, .unset, .unset, .unset, .unset, .unset]) rfl k) ?_
  refine own_st (T' := T24) (g' := (mkF m 26 #[rv a1, own_jv p2, .second, rv ky, rv vy, own_jv z23, .second, .unset, .unset, .unset, .unset, .unset, .unset] [(.ref a1)])) (fun _ k => XS.aloadN X24.here hx rfl (hb hby d10_25) rfl rfl k) ?_
  obtain ⟨T25, X25, e25, st25⟩ := getF X24 hx hZ hown (host := "") (Or.inl (hw _ (List.mem_of_getElem? (i := 63) rfl))) Via.refl e24 Fj4 (g := (mkF m 26 #[rv a1, own_jv p2, .second, rv ky, rv vy, own_jv z23, .second, .unset, .unset, .unset, .unset, .unset, .unset] [(.ref a1)])) rfl rfl (hb hby d10_26)
  refine own_st (T' := T25) (g' := (mkF m 29 #[rv a1, own_jv p2, .second, rv ky, rv vy, own_jv z23, .second, .unset, .unset, .unset, .unset, .unset, .unset] [(.int cn)])) (fun _ k => (st25) _ k) ?_
  refine own_st (T' := T25) (g' := (mkF m 31 #[rv a1, own_jv p2, .second, rv ky, rv vy, own_jv z23, .second, iv cn, .unset, .unset, .unset, .unset, .unset] [])) (fun _ k => XS.istore X25.here hx rfl (hb hby d10_29) rfl (l' := #[rv a1, own_jv p2, .second, rv ky, rv vy, own_jv z23, .second, iv cn, .unset, .unset, .unset, .unset, .unset]) rfl k) ?_
  refine own_st (T' := T25) (g' := (mkF m 32 #[rv a1, own_jv p2, .second, rv ky, rv vy, own_jv z23, .second, iv cn, .unset, .unset, .unset, .unset, .unset] [(.ref ky)])) (fun _ k => XS.aloadN X25.here hx rfl (hb hby d10_31) rfl rfl k) ?_
  refine own_st (T' := T25) (g' := (mkF m 39 #[rv a1, own_jv p2, .second, rv ky, rv vy, own_jv z23, .second, iv cn, .unset, .unset, .unset, .unset, .unset] [])) (fun _ k => XS.ifnonnullYes X25.here hx rfl (pc0 := 32) (pc' := 39) rfl (hb hby d10_32) rfl (by decide) (by decide) k) ?_
  refine own_st (T' := T25) (g' := (mkF m 40 #[rv a1, own_jv p2, .second, rv ky, rv vy, own_jv z23, .second, iv cn, .unset, .unset, .unset, .unset, .unset] [(.ref ky)])) (fun _ k => XS.aloadN X25.here hx rfl (hb hby d10_39) rfl rfl k) ?_
  refine own_st (T' := T25) (g' := (mkF m 41 #[rv a1, own_jv p2, .second, rv ky, rv vy, own_jv z23, .second, iv cn, .unset, .unset, .unset, .unset, .unset] [(.int kl)])) (fun _ k => (own_alen X25 hx hZ e25 Fj9 (g := (mkF m 40 #[rv a1, own_jv p2, .second, rv ky, rv vy, own_jv z23, .second, iv cn, .unset, .unset, .unset, .unset, .unset] [(.ref ky)])) rfl rfl (hb hby d10_40)) _ k) ?_
  refine own_st (T' := T25) (g' := (mkF m 43 #[rv a1, own_jv p2, .second, rv ky, rv vy, own_jv z23, .second, iv cn, iv kl, .unset, .unset, .unset, .unset] [])) (fun _ k => XS.istore X25.here hx rfl (hb hby d10_41) rfl (l' := #[rv a1, own_jv p2, .second, rv ky, rv vy, own_jv z23, .second, iv cn, iv kl, .unset, .unset, .unset, .unset]) rfl k) ?_
  refine own_st (T' := T25) (g' := (mkF m 45 #[rv a1, own_jv p2, .second, rv ky, rv vy, own_jv z23, .second, iv cn, iv kl, .unset, .unset, .unset, .unset] [(.ref vy)])) (fun _ k => XS.aload X25.here hx rfl (hb hby d10_43) rfl rfl k) ?_
  refine own_st (T' := T25) (g' := (mkF m 52 #[rv a1, own_jv p2, .second, rv ky, rv vy, own_jv z23, .second, iv cn, iv kl, .unset, .unset, .unset, .unset] [])) (fun _ k => XS.ifnonnullYes X25.here hx rfl (pc0 := 45) (pc' := 52) rfl (hb hby d10_45) rfl (by decide) (by decide) k) ?_
  refine own_st (T' := T25) (g' := (mkF m 54 #[rv a1, own_jv p2, .second, rv ky, rv vy, own_jv z23, .second, iv cn, iv kl, .unset, .unset, .unset, .unset] [(.ref vy)])) (fun _ k => XS.aload X25.here hx rfl (hb hby d10_52) rfl rfl k) ?_
  refine own_st (T' := T25) (g' := (mkF m 55 #[rv a1, own_jv p2, .second, rv ky, rv vy, own_jv z23, .second, iv cn, iv kl, .unset, .unset, .unset, .unset] [(.int vl)])) (fun _ k => (own_alen X25 hx hZ e25 Fj10 (g := (mkF m 54 #[rv a1, own_jv p2, .second, rv ky, rv vy, own_jv z23, .second, iv cn, iv kl, .unset, .unset, .unset, .unset] [(.ref vy)])) rfl rfl (hb hby d10_54)) _ k) ?_
  refine own_st (T' := T25) (g' := (mkF m 57 #[rv a1, own_jv p2, .second, rv ky, rv vy, own_jv z23, .second, iv cn, iv kl, iv vl, .unset, .unset, .unset] [])) (fun _ k => XS.istore X25.here hx rfl (hb hby d10_55) rfl (l' := #[rv a1, own_jv p2, .second, rv ky, rv vy, own_jv z23, .second, iv cn, iv kl, iv vl, .unset, .unset, .unset]) rfl k) ?_
  refine own_st (T' := T25) (g' := (mkF m 58 #[rv a1, own_jv p2, .second, rv ky, rv vy, own_jv z23, .second, iv cn, iv kl, iv vl, .unset, .unset, .unset] [(.int (1 : Int32))])) (fun _ k => XS.iconst X25.here hx rfl (hb hby d10_57) k) ?_
  refine own_st (T' := T25) (g' := (mkF m 60 #[rv a1, own_jv p2, .second, rv ky, rv vy, own_jv z23, .second, iv cn, iv kl, iv vl, .unset, .unset, .unset] [(.long z23), (.int (1 : Int32))])) (fun _ k => XS.lload X25.here hx rfl (hb hby d10_58) rfl k) ?_
  obtain ⟨v26, T26, L26, X26, hQ26, st26⟩ := own_packS (Jvm.LawKit.callS X25 hx (y := (⟨"com/example/millrace/millrace/wire/ProtocolWriter", "sizeOfVarlong", "(J)I"⟩ : MethodName)) hown (mvT hZ (hw _ (List.mem_of_getElem? (i := 69) rfl))) (mvT hZ (hw _ (List.mem_of_getElem? (i := 70) rfl))) (mvT hZ (hw _ (List.mem_of_getElem? (i := 12) rfl))) (mvT hZ (hw _ (List.mem_of_getElem? (i := 71) rfl))) (by decide) (backOf (W := 1) (rm11 l Z a0 hw [] z23 hJ n0 ZJ ) hZ (hw _ (List.mem_of_getElem? (i := 71) rfl)) (hw _ (List.mem_of_getElem? (i := 12) rfl)) (by decide) (by decide)) (g := (mkF m 60 #[rv a1, own_jv p2, .second, rv ky, rv vy, own_jv z23, .second, iv cn, iv kl, iv vl, .unset, .unset, .unset] [(.long z23), (.int (1 : Int32))])) rfl (by rw [hml]; rfl) (argsL := [(.long z23)]) (rest := [(.int (1 : Int32))]) (lenOf own_pd10_0 rfl) rfl (by show 2 * 0 + _ ≤ _; exact Nat.le_of_eq rfl) (hb hby d10_60) (fun _ _ => ⟨rfl, e25, (by decide : 0 + 0 ≤ _), (by decide : 0 + 0 ≤ _)⟩))
  obtain ⟨rfl, N26q, e26⟩ := hQ26
  obtain ⟨lc26, X26, N26⟩ := own_loc X26 (Fr.app NJ N26q)
  obtain ⟨s26, hs26⟩ : ∃ z, z = own_f11_0 z23 := ⟨_, rfl⟩
  have hb26 := own_vl z23
  rw [← hs26] at hb26
  rw [← hs26] at st26
  refine own_st (T' := T26) (g' := (mkF m 63 #[rv a1, own_jv p2, .second, rv ky, rv vy, own_jv z23, .second, iv cn, iv kl, iv vl, .unset, .unset, .unset] [(.int s26), (.int (1 : Int32))])) (fun _ k => (st26) _ k) ?_
  refine own_st (T' := T26) (g' := (mkF m 64 #[rv a1, own_jv p2, .second, rv ky, rv vy, own_jv z23, .second, iv cn, iv kl, iv vl, .unset, .unset, .unset] [(.int ((1 : Int32) + s26))])) (fun _ k => XS.iadd X26.here hx rfl (hb hby d10_63) rfl k) ?_
  refine own_st (T' := T26) (g' := (mkF m 66 #[rv a1, own_jv p2, .second, rv ky, rv vy, own_jv z23, .second, iv cn, iv kl, iv vl, .unset, .unset, .unset] [(.int cn), (.int ((1 : Int32) + s26))])) (fun _ k => XS.iload X26.here hx rfl (hb hby d10_64) rfl k) ?_
  obtain ⟨v27, T27, L27, X27, hQ27, st27⟩ := own_packS (Jvm.LawKit.callS X26 hx (y := (⟨"com/example/millrace/millrace/wire/ProtocolWriter", "sizeOfVarint", "(I)I"⟩ : MethodName)) hown (mvT hZ (hw _ (List.mem_of_getElem? (i := 73) rfl))) (mvT hZ (hw _ (List.mem_of_getElem? (i := 74) rfl))) (mvT hZ (hw _ (List.mem_of_getElem? (i := 12) rfl))) (mvT hZ (hw _ (List.mem_of_getElem? (i := 75) rfl))) (by decide) (backOf (W := 1) (rm12 l Z a0 hw [] cn hJ n0 ZJ ) hZ (hw _ (List.mem_of_getElem? (i := 75) rfl)) (hw _ (List.mem_of_getElem? (i := 12) rfl)) (by decide) (by decide)) (g := (mkF m 66 #[rv a1, own_jv p2, .second, rv ky, rv vy, own_jv z23, .second, iv cn, iv kl, iv vl, .unset, .unset, .unset] [(.int cn), (.int ((1 : Int32) + s26))])) rfl (by rw [hml]; rfl) (argsL := [(.int cn)]) (rest := [(.int ((1 : Int32) + s26))]) (lenOf own_pd10_1 rfl) rfl (by show 2 * 0 + _ ≤ _; exact Nat.le_of_eq rfl) (hb hby d10_66) (fun _ _ => ⟨rfl, e26, (by decide : 0 + 0 ≤ _), (by decide : 0 + 0 ≤ _)⟩))
  obtain ⟨rfl, N27q, e27⟩ := hQ27
  obtain ⟨lc27, X27, N27⟩ := own_loc X27 (Fr.app N26 N27q)
  obtain ⟨s27, hs27⟩ : ∃ z, z = own_f12_0 cn := ⟨_, rfl⟩
  have hb27 := own_sv cn (by omega) (by omega)
  rw [← hs27] at hb27
  rw [← hs27] at st27
  refine own_st (T' := T27) (g' := (mkF m 69 #[rv a1, own_jv p2, .second, rv ky, rv vy, own_jv z23, .second, iv cn, iv kl, iv vl, .unset, .unset, .unset] [(.int s27), (.int ((1 : Int32) + s26))])) (fun _ k => (st27) _ k) ?_
  refine own_st (T' := T27) (g' := (mkF m 70 #[rv a1, own_jv p2, .second, rv ky, rv vy, own_jv z23, .second, iv cn, iv kl, iv vl, .unset, .unset, .unset] [(.int (((1 : Int32) + s26) + s27))])) (fun _ k => XS.iadd X27.here hx rfl (hb hby d10_69) rfl k) ?_
  refine own_st (T' := T27) (g' := (mkF m 72 #[rv a1, own_jv p2, .second, rv ky, rv vy, own_jv z23, .second, iv cn, iv kl, iv vl, .unset, .unset, .unset] [(.int kl), (.int (((1 : Int32) + s26) + s27))])) (fun _ k => XS.iload X27.here hx rfl (hb hby d10_70) rfl k) ?_
  obtain ⟨v28, T28, L28, X28, hQ28, st28⟩ := own_packS (Jvm.LawKit.callS X27 hx (y := (⟨"com/example/millrace/millrace/wire/ProtocolWriter", "sizeOfVarint", "(I)I"⟩ : MethodName)) hown (mvT hZ (hw _ (List.mem_of_getElem? (i := 73) rfl))) (mvT hZ (hw _ (List.mem_of_getElem? (i := 74) rfl))) (mvT hZ (hw _ (List.mem_of_getElem? (i := 12) rfl))) (mvT hZ (hw _ (List.mem_of_getElem? (i := 75) rfl))) (by decide) (backOf (W := 1) (rm12 l Z a0 hw [] kl hJ n0 ZJ ) hZ (hw _ (List.mem_of_getElem? (i := 75) rfl)) (hw _ (List.mem_of_getElem? (i := 12) rfl)) (by decide) (by decide)) (g := (mkF m 72 #[rv a1, own_jv p2, .second, rv ky, rv vy, own_jv z23, .second, iv cn, iv kl, iv vl, .unset, .unset, .unset] [(.int kl), (.int (((1 : Int32) + s26) + s27))])) rfl (by rw [hml]; rfl) (argsL := [(.int kl)]) (rest := [(.int (((1 : Int32) + s26) + s27))]) (lenOf own_pd10_1 rfl) rfl (by show 2 * 0 + _ ≤ _; exact Nat.le_of_eq rfl) (hb hby d10_72) (fun _ _ => ⟨rfl, e27, (by decide : 0 + 0 ≤ _), (by decide : 0 + 0 ≤ _)⟩))
  obtain ⟨rfl, N28q, e28⟩ := hQ28
  obtain ⟨lc28, X28, N28⟩ := own_loc X28 (Fr.app N27 N28q)
  obtain ⟨s28, hs28⟩ : ∃ z, z = own_f12_0 kl := ⟨_, rfl⟩
  have hb28 := own_sv kl (by omega) (by omega)
  rw [← hs28] at hb28
  rw [← hs28] at st28
  refine own_st (T' := T28) (g' := (mkF m 75 #[rv a1, own_jv p2, .second, rv ky, rv vy, own_jv z23, .second, iv cn, iv kl, iv vl, .unset, .unset, .unset] [(.int s28), (.int (((1 : Int32) + s26) + s27))])) (fun _ k => (st28) _ k) ?_
  refine own_st (T' := T28) (g' := (mkF m 76 #[rv a1, own_jv p2, .second, rv ky, rv vy, own_jv z23, .second, iv cn, iv kl, iv vl, .unset, .unset, .unset] [(.int ((((1 : Int32) + s26) + s27) + s28))])) (fun _ k => XS.iadd X28.here hx rfl (hb hby d10_75) rfl k) ?_
  refine own_st (T' := T28) (g' := (mkF m 78 #[rv a1, own_jv p2, .second, rv ky, rv vy, own_jv z23, .second, iv cn, iv kl, iv vl, .unset, .unset, .unset] [(.int kl), (.int ((((1 : Int32) + s26) + s27) + s28))])) (fun _ k => XS.iload X28.here hx rfl (hb hby d10_76) rfl k) ?_
  refine own_st (T' := T28) (g' := (mkF m 79 #[rv a1, own_jv p2, .second, rv ky, rv vy, own_jv z23, .second, iv cn, iv kl, iv vl, .unset, .unset, .unset] [(.int (0 : Int32)), (.int kl), (.int ((((1 : Int32) + s26) + s27) + s28))])) (fun _ k => XS.iconst X28.here hx rfl (hb hby d10_78) k) ?_
  obtain ⟨v29, T29, L29, X29, hQ29, st29⟩ := own_packS (Jvm.LawKit.callS X28 hx (y := (⟨"java/lang/Math", "max", "(II)I"⟩ : MethodName)) hown (mvT hZ (hw _ (List.mem_of_getElem? (i := 13) rfl))) (mvT hZ (hw _ (List.mem_of_getElem? (i := 14) rfl))) (mvT hZ (hw _ (List.mem_of_getElem? (i := 15) rfl))) (mvT hZ (hw _ (List.mem_of_getElem? (i := 16) rfl))) (by decide) (backOf (W := 1) (rm3 l Z a0 hw [] kl (0 : Int32) hJ n0 ZJ ) hZ (hw _ (List.mem_of_getElem? (i := 16) rfl)) (hw _ (List.mem_of_getElem? (i := 15) rfl)) (by decide) (by decide)) (g := (mkF m 79 #[rv a1, own_jv p2, .second, rv ky, rv vy, own_jv z23, .second, iv cn, iv kl, iv vl, .unset, .unset, .unset] [(.int (0 : Int32)), (.int kl), (.int ((((1 : Int32) + s26) + s27) + s28))])) rfl (by rw [hml]; rfl) (argsL := [(.int kl), (.int (0 : Int32))]) (rest := [(.int ((((1 : Int32) + s26) + s27) + s28))]) (lenOf own_pd10_2 rfl) rfl (by show 2 * 0 + _ ≤ _; exact Nat.le_of_eq rfl) (hb hby d10_79) (fun _ _ => ⟨rfl, e28, (by decide : 0 + 0 ≤ _), (by decide : 0 + 0 ≤ _)⟩))
  obtain ⟨hv29, N29q, e29⟩ := hQ29
  rw [own_maxI kl (by omega)] at hv29
  subst hv29
  obtain ⟨lc29, X29, N29⟩ := own_loc X29 (Fr.app N28 N29q)
  refine own_st (T' := T29) (g' := (mkF m 82 #[rv a1, own_jv p2, .second, rv ky, rv vy, own_jv z23, .second, iv cn, iv kl, iv vl, .unset, .unset, .unset] [(.int kl), (.int ((((1 : Int32) + s26) + s27) + s28))])) (fun _ k => (st29) _ k) ?_
  refine own_st (T' := T29) (g' := (mkF m 83 #[rv a1, own_jv p2, .second, rv ky, rv vy, own_jv z23, .second, iv cn, iv kl, iv vl, .unset, .unset, .unset] [(.int (((((1 : Int32) + s26) + s27) + s28) + kl))])) (fun _ k => XS.iadd X29.here hx rfl (hb hby d10_82) rfl k) ?_
  refine own_st (T' := T29) (g' := (mkF m 85 #[rv a1, own_jv p2, .second, rv ky, rv vy, own_jv z23, .second, iv cn, iv kl, iv vl, .unset, .unset, .unset] [(.int vl), (.int (((((1 : Int32) + s26) + s27) + s28) + kl))])) (fun _ k => XS.iload X29.here hx rfl (hb hby d10_83) rfl k) ?_
  obtain ⟨v30, T30, L30, X30, hQ30, st30⟩ := own_packS (Jvm.LawKit.callS X29 hx (y := (⟨"com/example/millrace/millrace/wire/ProtocolWriter", "sizeOfVarint", "(I)I"⟩ : MethodName)) hown (mvT hZ (hw _ (List.mem_of_getElem? (i := 73) rfl))) (mvT hZ (hw _ (List.mem_of_getElem? (i := 74) rfl))) (mvT hZ (hw _ (List.mem_of_getElem? (i := 12) rfl))) (mvT hZ (hw _ (List.mem_of_getElem? (i := 75) rfl))) (by decide) (backOf (W := 1) (rm12 l Z a0 hw [] vl hJ n0 ZJ ) hZ (hw _ (List.mem_of_getElem? (i := 75) rfl)) (hw _ (List.mem_of_getElem? (i := 12) rfl)) (by decide) (by decide)) (g := (mkF m 85 #[rv a1, own_jv p2, .second, rv ky, rv vy, own_jv z23, .second, iv cn, iv kl, iv vl, .unset, .unset, .unset] [(.int vl), (.int (((((1 : Int32) + s26) + s27) + s28) + kl))])) rfl (by rw [hml]; rfl) (argsL := [(.int vl)]) (rest := [(.int (((((1 : Int32) + s26) + s27) + s28) + kl))]) (lenOf own_pd10_1 rfl) rfl (by show 2 * 0 + _ ≤ _; exact Nat.le_of_eq rfl) (hb hby d10_85) (fun _ _ => ⟨rfl, e29, (by decide : 0 + 0 ≤ _), (by decide : 0 + 0 ≤ _)⟩))
  obtain ⟨rfl, N30q, e30⟩ := hQ30
  obtain ⟨lc30, X30, N30⟩ := own_loc X30 (Fr.app N29 N30q)
  obtain ⟨s30, hs30⟩ : ∃ z, z = own_f12_0 vl := ⟨_, rfl⟩
  have hb30 := own_sv vl (by omega) (by omega)
  rw [← hs30] at hb30
  rw [← hs30] at st30
  refine own_st (T' := T30) (g' := (mkF m 88 #[rv a1, own_jv p2, .second, rv ky, rv vy, own_jv z23, .second, iv cn, iv kl, iv vl, .unset, .unset, .unset] [(.int s30), (.int (((((1 : Int32) + s26) + s27) + s28) + kl))])) (fun _ k => (st30) _ k) ?_
  refine own_st (T' := T30) (g' := (mkF m 89 #[rv a1, own_jv p2, .second, rv ky, rv vy, own_jv z23, .second, iv cn, iv kl, iv vl, .unset, .unset, .unset] [(.int ((((((1 : Int32) + s26) + s27) + s28) + kl) + s30))])) (fun _ k => XS.iadd X30.here hx rfl (hb hby d10_88) rfl k) ?_
  refine own_st (T' := T30) (g' := (mkF m 91 #[rv a1, own_jv p2, .second, rv ky, rv vy, own_jv z23, .second, iv cn, iv kl, iv vl, .unset, .unset, .unset] [(.int vl), (.int ((((((1 : Int32) + s26) + s27) + s28) + kl) + s30))])) (fun _ k => XS.iload X30.here hx rfl (hb hby d10_89) rfl k) ?_
  refine own_st (T' := T30) (g' := (mkF m 92 #[rv a1, own_jv p2, .second, rv ky, rv vy, own_jv z23, .second, iv cn, iv kl, iv vl, .unset, .unset, .unset] [(.int (0 : Int32)), (.int vl), (.int ((((((1 : Int32) + s26) + s27) + s28) + kl) + s30))])) (fun _ k => XS.iconst X30.here hx rfl (hb hby d10_91) k) ?_
  obtain ⟨v31, T31, L31, X31, hQ31, st31⟩ := own_packS (Jvm.LawKit.callS X30 hx (y := (⟨"java/lang/Math", "max", "(II)I"⟩ : MethodName)) hown (mvT hZ (hw _ (List.mem_of_getElem? (i := 13) rfl))) (mvT hZ (hw _ (List.mem_of_getElem? (i := 14) rfl))) (mvT hZ (hw _ (List.mem_of_getElem? (i := 15) rfl))) (mvT hZ (hw _ (List.mem_of_getElem? (i := 16) rfl))) (by decide) (backOf (W := 1) (rm3 l Z a0 hw [] vl (0 : Int32) hJ n0 ZJ ) hZ (hw _ (List.mem_of_getElem? (i := 16) rfl)) (hw _ (List.mem_of_getElem? (i := 15) rfl)) (by decide) (by decide)) (g := (mkF m 92 #[rv a1, own_jv p2, .second, rv ky, rv vy, own_jv z23, .second, iv cn, iv kl, iv vl, .unset, .unset, .unset] [(.int (0 : Int32)), (.int vl), (.int ((((((1 : Int32) + s26) + s27) + s28) + kl) + s30))])) rfl (by rw [hml]; rfl) (argsL := [(.int vl), (.int (0 : Int32))]) (rest := [(.int ((((((1 : Int32) + s26) + s27) + s28) + kl) + s30))]) (lenOf own_pd10_2 rfl) rfl (by show 2 * 0 + _ ≤ _; exact Nat.le_of_eq rfl) (hb hby d10_92) (fun _ _ => ⟨rfl, e30, (by decide : 0 + 0 ≤ _), (by decide : 0 + 0 ≤ _)⟩))
  obtain ⟨hv31, N31q, e31⟩ := hQ31
  rw [own_maxI vl (by omega)] at hv31
  subst hv31
  obtain ⟨lc31, X31, N31⟩ := own_loc X31 (Fr.app N30 N31q)
  refine own_st (T' := T31) (g' := (mkF m 95 #[rv a1, own_jv p2, .second, rv ky, rv vy, own_jv z23, .second, iv cn, iv kl, iv vl, .unset, .unset, .unset] [(.int vl), (.int ((((((1 : Int32) + s26) + s27) + s28) + kl) + s30))])) (fun _ k => (st31) _ k) ?_
  refine own_st (T' := T31) (g' := (mkF m 96 #[rv a1, own_jv p2, .second, rv ky, rv vy, own_jv z23, .second, iv cn, iv kl, iv vl, .unset, .unset, .unset] [(.int (((((((1 : Int32) + s26) + s27) + s28) + kl) + s30) + vl))])) (fun _ k => XS.iadd X31.here hx rfl (hb hby d10_95) rfl k) ?_
  refine own_st (T' := T31) (g' := (mkF m 97 #[rv a1, own_jv p2, .second, rv ky, rv vy, own_jv z23, .second, iv cn, iv kl, iv vl, .unset, .unset, .unset] [(.int (0 : Int32)), (.int (((((((1 : Int32) + s26) + s27) + s28) + kl) + s30) + vl))])) (fun _ k => XS.iconst X31.here hx rfl (hb hby d10_96) k) ?_
  obtain ⟨v32, T32, L32, X32, hQ32, st32⟩ := own_packS (Jvm.LawKit.callS X31 hx (y := (⟨"com/example/millrace/millrace/wire/ProtocolWriter", "sizeOfVarint", "(I)I"⟩ : MethodName)) hown (mvT hZ (hw _ (List.mem_of_getElem? (i := 73) rfl))) (mvT hZ (hw _ (List.mem_of_getElem? (i := 74) rfl))) (mvT hZ (hw _ (List.mem_of_getElem? (i := 12) rfl))) (mvT hZ (hw _ (List.mem_of_getElem? (i := 75) rfl))) (by decide) (backOf (W := 1) (rm12 l Z a0 hw [] (0 : Int32) hJ n0 ZJ ) hZ (hw _ (List.mem_of_getElem? (i := 75) rfl)) (hw _ (List.mem_of_getElem? (i := 12) rfl)) (by decide) (by decide)) (g := (mkF m 97 #[rv a1, own_jv p2, .second, rv ky, rv vy, own_jv z23, .second, iv cn, iv kl, iv vl, .unset, .unset, .unset] [(.int (0 : Int32)), (.int (((((((1 : Int32) + s26) + s27) + s28) + kl) + s30) + vl))])) rfl (by rw [hml]; rfl) (argsL := [(.int (0 : Int32))]) (rest := [(.int (((((((1 : Int32) + s26) + s27) + s28) + kl) + s30) + vl))]) (lenOf own_pd10_1 rfl) rfl (by show 2 * 0 + _ ≤ _; exact Nat.le_of_eq rfl) (hb hby d10_97) (fun _ _ => ⟨rfl, e31, (by decide : 0 + 0 ≤ _), (by decide : 0 + 0 ≤ _)⟩))
  obtain ⟨rfl, N32q, e32⟩ := hQ32
  obtain ⟨lc32, X32, N32⟩ := own_loc X32 (Fr.app N31 N32q)
  obtain ⟨s32, hs32⟩ : ∃ z, z = own_f12_0 (0 : Int32) := ⟨_, rfl⟩
  have hb32 := own_sv (0 : Int32) (by decide) (by decide)
  rw [← hs32] at hb32
  rw [← hs32] at st32
  refine own_st (T' := T32) (g' := (mkF m 100 #[rv a1, own_jv p2, .second, rv ky, rv vy, own_jv z23, .second, iv cn, iv kl, iv vl, .unset, .unset, .unset] [(.int s32), (.int (((((((1 : Int32) + s26) + s27) + s28) + kl) + s30) + vl))])) (fun _ k => (st32) _ k) ?_
  refine own_st (T' := T32) (g' := (mkF m 101 #[rv a1, own_jv p2, .second, rv ky, rv vy, own_jv z23, .second, iv cn, iv kl, iv vl, .unset, .unset, .unset] [(.int ((((((((1 : Int32) + s26) + s27) + s28) + kl) + s30) + vl) + s32))])) (fun _ k => XS.iadd X32.here hx rfl (hb hby d10_100) rfl k) ?_
  generalize hz101 : ((((((((1 : Int32) + s26) + s27) + s28) + kl) + s30) + vl) + s32) = z101
  refine own_st (T' := T32) (g' := (mkF m 103 #[rv a1, own_jv p2, .second, rv ky, rv vy, own_jv z23, .second, iv cn, iv kl, iv vl, iv z101, .unset, .unset] [])) (fun _ k => XS.istore X32.here hx rfl (hb hby d10_101) rfl (l' := #[rv a1, own_jv p2, .second, rv ky, rv vy, own_jv z23, .second, iv cn, iv kl, iv vl, iv z101, .unset, .unset]) rfl k) ?_
  have e00 : (0 : Int32).toInt = 0 := rfl
  have hB := own_body s26 s27 s28 kl s30 vl s32 (by omega) (by omega) (by omega) (by omega) (by omega) (by omega) (by omega)
  rw [hz101] at hB
  refine own_st (T' := T32) (g' := (mkF m 104 #[rv a1, own_jv p2, .second, rv ky, rv vy, own_jv z23, .second, iv cn, iv kl, iv vl, iv z101, .unset, .unset] [(.ref a1)])) (fun _ k => XS.aloadN X32.here hx rfl (hb hby d10_103) rfl rfl k) ?_
  obtain ⟨T33, X33, e33, st33⟩ := getF X32 hx hZ hown (host := "") (Or.inl (hw _ (List.mem_of_getElem? (i := 24) rfl))) Via.refl e32 Fj1 (g := (mkF m 104 #[rv a1, own_jv p2, .second, rv ky, rv vy, own_jv z23, .second, iv cn, iv kl, iv vl, iv z101, .unset, .unset] [(.ref a1)])) rfl rfl (hb hby d10_104)
  refine own_st (T' := T33) (g' := (mkF m 107 #[rv a1, own_jv p2, .second, rv ky, rv vy, own_jv z23, .second, iv cn, iv kl, iv vl, iv z101, .unset, .unset] [(.ref wo)])) (fun _ k => (st33) _ k) ?_
  refine own_st (T' := T33) (g' := (mkF m 109 #[rv a1, own_jv p2, .second, rv ky, rv vy, own_jv z23, .second, iv cn, iv kl, iv vl, iv z101, .unset, .unset] [(.int z101), (.ref wo)])) (fun _ k => XS.iload X33.here hx rfl (hb hby d10_107) rfl k) ?_
  obtain ⟨v34, T34, L34, X34, hQ34, st34⟩ := own_packS (Jvm.LawKit.callS X33 hx (y := (⟨"com/example/millrace/millrace/wire/ProtocolWriter", "sizeOfVarint", "(I)I"⟩ : MethodName)) hown (mvT hZ (hw _ (List.mem_of_getElem? (i := 73) rfl))) (mvT hZ (hw _ (List.mem_of_getElem? (i := 74) rfl))) (mvT hZ (hw _ (List.mem_of_getElem? (i := 12) rfl))) (mvT hZ (hw _ (List.mem_of_getElem? (i := 75) rfl))) (by decide) (backOf (W := 1) (rm12 l Z a0 hw [] z101 hJ n0 ZJ ) hZ (hw _ (List.mem_of_getElem? (i := 75) rfl)) (hw _ (List.mem_of_getElem? (i := 12) rfl)) (by decide) (by decide)) (g := (mkF m 109 #[rv a1, own_jv p2, .second, rv ky, rv vy, own_jv z23, .second, iv cn, iv kl, iv vl, iv z101, .unset, .unset] [(.int z101), (.ref wo)])) rfl (by rw [hml]; rfl) (argsL := [(.int z101)]) (rest := [(.ref wo)]) (lenOf own_pd10_1 rfl) rfl (by show 2 * 0 + _ ≤ _; exact Nat.le_of_eq rfl) (hb hby d10_109) (fun _ _ => ⟨rfl, e33, (by decide : 0 + 0 ≤ _), (by decide : 0 + 0 ≤ _)⟩))
  obtain ⟨rfl, N34q, e34⟩ := hQ34
  obtain ⟨lc34, X34, N34⟩ := own_loc X34 (Fr.app N32 N34q)
  obtain ⟨s34, hs34⟩ : ∃ z, z = own_f12_0 z101 := ⟨_, rfl⟩
  have hb34 := own_sv z101 (by omega) (by omega)
  rw [← hs34] at hb34
  rw [← hs34] at st34
  refine own_st (T' := T34) (g' := (mkF m 112 #[rv a1, own_jv p2, .second, rv ky, rv vy, own_jv z23, .second, iv cn, iv kl, iv vl, iv z101, .unset, .unset] [(.int s34), (.ref wo)])) (fun _ k => (st34) _ k) ?_
  refine own_st (T' := T34) (g' := (mkF m 114 #[rv a1, own_jv p2, .second, rv ky, rv vy, own_jv z23, .second, iv cn, iv kl, iv vl, iv z101, .unset, .unset] [(.int z101), (.int s34), (.ref wo)])) (fun _ k => XS.iload X34.here hx rfl (hb hby d10_112) rfl k) ?_
  refine own_st (T' := T34) (g' := (mkF m 115 #[rv a1, own_jv p2, .second, rv ky, rv vy, own_jv z23, .second, iv cn, iv kl, iv vl, iv z101, .unset, .unset] [(.int (s34 + z101)), (.ref wo)])) (fun _ k => XS.iadd X34.here hx rfl (hb hby d10_114) rfl k) ?_
  generalize hz115 : (s34 + z101) = z115
  have hm115 := own_add s34 z101 (by omega) (by omega)
  rw [hz115] at hm115
  obtain ⟨cq35, kq35, q35a, q35b, q35c⟩ := isOf hZ e34 Fj5
  obtain ⟨v35, T35, L35, X35, hQ35, st35⟩ := own_packV (X34.virtualBack hx (y := (⟨"com/example/millrace/millrace/wire/ProtocolWriter", "reserve", "(I)[B"⟩ : MethodName)) (z := (⟨"com/example/millrace/millrace/wire/ProtocolWriter", "reserve", "(I)[B"⟩ : MethodName)) hown (mvT hZ (hw _ (List.mem_of_getElem? (i := 79) rfl))) (mvT hZ (hw _ (List.mem_of_getElem? (i := 80) rfl))) (notFace_of_selects (args := #[]) (mvT hZ (hw _ (List.mem_of_getElem? (i := 82) rfl)))) (mvT hZ (hw _ (List.mem_of_getElem? (i := 82) rfl))) (mvT hZ (hw _ (List.mem_of_getElem? (i := 81) rfl))) (by decide) (backOf (W := 0) (rm14 l Z a0 hw [] wo z115 t P n hJ n0 ZJ Fj5 Fj6 Fj7 Fj8 gn_wo ne_wo_t gn_t hP0 hP (by omega) (by omega) hn0 hn) hZ (hw _ (List.mem_of_getElem? (i := 83) rfl)) (hw _ (List.mem_of_getElem? (i := 12) rfl)) (by decide) (by decide)) q35a q35c (g := (mkF m 115 #[rv a1, own_jv p2, .second, rv ky, rv vy, own_jv z23, .second, iv cn, iv kl, iv vl, iv z101, .unset, .unset] [(.int z115), (.ref wo)])) rfl (by rw [hml]; rfl) (Steps.refl _) (argsL := [(.int z115)]) (rest := []) (lenOf own_pd10_3 rfl) rfl (by show 2 * 0 + _ ≤ _; exact Nat.le_of_eq rfl) (hb hby d10_115) (fun _ _ => ⟨rfl, e34, (by decide : 0 + 1 ≤ _), (by decide : 0 + 2190 ≤ _)⟩))
  obtain ⟨N35q, Kq35, Eq35, t35, nn35, rfl, ht35, gn_t35, Fb35, Fp35, Yq35, hA35, hB35⟩ := hQ35
  obtain ⟨lc35, X35, N35⟩ := own_loc X35 (Fr.app N34 N35q)
  have ne_a1_t35 : a1 ≠ t35 := own_sep ht35 ne_a1_t Fj0.lt
  have ne_wo_t35 : wo ≠ t35 := own_sep ht35 ne_wo_t Fj5.lt
  have ne_ky_t35 : ky ≠ t35 := own_sep ht35 (Ne.symm ne_t_ky) Fj9.lt
  have ne_vy_t35 : vy ≠ t35 := own_sep ht35 (Ne.symm ne_t_vy) Fj10.lt
  have Zs35 : n0 ≤ T35.heap.size := Nat.le_trans ZJ Kq35.1
  have ws_t35 : t35 ∈ [a1, wo, t] ∨ h0.size ≤ t35 := ht35.elim (fun q => by rw [q]; exact (Or.inl (List.mem_of_getElem? (i := 2) rfl))) (fun q => Or.inr (Nat.le_trans KJ.1 q))
  have hto35 : t35 = t ∨ h0.size ≤ t35 := ht35.imp id (fun q => Nat.le_trans KJ.1 q)
  have Fa36 : Exa Z T35.heap a1 "com/example/millrace/millrace/wire/RecordBatchBuilder" := Fj0.keep Kq35
  have Fa37 : Fld Z T35.heap a1 "com/example/millrace/millrace/wire/RecordBatchBuilder" "out" "Lcom/example/millrace/millrace/wire/ProtocolWriter;" (.ref wo) := Fj1.keep Kq35 (ninS ne_a1_wo nin0)
  have Fa38 : Fld Z T35.heap a1 "com/example/millrace/millrace/wire/RecordBatchBuilder" "baseTimestamp" "J" (.long bt1) := Fj2.keep Kq35 (ninS ne_a1_wo nin0)
  have Fa39 : Fld Z T35.heap a1 "com/example/millrace/millrace/wire/RecordBatchBuilder" "maxTimestamp" "J" (.long mt1) := Fj3.keep Kq35 (ninS ne_a1_wo nin0)
  have Fa40 : Fld Z T35.heap a1 "com/example/millrace/millrace/wire/RecordBatchBuilder" "count" "I" (.int cn) := Fj4.keep Kq35 (ninS ne_a1_wo nin0)
  have Fa41 : own_Y Z T35.heap ky kl := Fj9.keep Kq35 (ninS (Ne.symm ne_wo_ky) nin0)
  have Fa42 : own_Y Z T35.heap vy vl := Fj10.keep Kq35 (ninS (Ne.symm ne_wo_vy) nin0)
  have Ke35 : Keep h0 T35.heap [a1, wo, t] := KJ.trans Kq35 (allS (Or.inl (List.mem_of_getElem? (i := 1) rfl)) all0)
  refine own_st (T' := T35) (g' := (mkF m 118 #[rv a1, own_jv p2, .second, rv ky, rv vy, own_jv z23, .second, iv cn, iv kl, iv vl, iv z101, .unset, .unset] [(.ref t35)])) (fun _ k => (st35) _ k) ?_
  refine own_st (T' := T35) (g' := (mkF m 120 #[rv a1, own_jv p2, .second, rv ky, rv vy, own_jv z23, .second, iv cn, iv kl, iv vl, iv z101, rv t35, .unset] [])) (fun _ k => XS.astore X35.here hx rfl (hb hby d10_118) rfl rfl (l' := #[rv a1, own_jv p2, .second, rv ky, rv vy, own_jv z23, .second, iv cn, iv kl, iv vl, iv z101, rv t35, .unset]) rfl k) ?_
  refine own_st (T' := T35) (g' := (mkF m 122 #[rv a1, own_jv p2, .second, rv ky, rv vy, own_jv z23, .second, iv cn, iv kl, iv vl, iv z101, rv t35, .unset] [(.ref t35)])) (fun _ k => XS.aload X35.here hx rfl (hb hby d10_120) rfl rfl k) ?_
  refine own_st (T' := T35) (g' := (mkF m 123 #[rv a1, own_jv p2, .second, rv ky, rv vy, own_jv z23, .second, iv cn, iv kl, iv vl, iv z101, rv t35, .unset] [(.ref a1), (.ref t35)])) (fun _ k => XS.aloadN X35.here hx rfl (hb hby d10_122) rfl rfl k) ?_
  obtain ⟨T43, X43, e43, st43⟩ := getF X35 hx hZ hown (host := "") (Or.inl (hw _ (List.mem_of_getElem? (i := 24) rfl))) Via.refl rfl Fa37 (g := (mkF m 123 #[rv a1, own_jv p2, .second, rv ky, rv vy, own_jv z23, .second, iv cn, iv kl, iv vl, iv z101, rv t35, .unset] [(.ref a1), (.ref t35)])) rfl rfl (hb hby d10_123)
  refine own_st (T' := T43) (g' := (mkF m 126 #[rv a1, own_jv p2, .second, rv ky, rv vy, own_jv z23, .second, iv cn, iv kl, iv vl, iv z101, rv t35, .unset] [(.ref wo), (.ref t35)])) (fun _ k => (st43) _ k) ?_
  obtain ⟨cq44, kq44, q44a, q44b, q44c⟩ := isOf hZ e43 Eq35
  obtain ⟨v44, T44, L44, X44, hQ44, st44⟩ := own_packV (X43.virtualBack hx (y := (⟨"com/example/millrace/millrace/wire/ProtocolWriter", "position", "()I"⟩ : MethodName)) (z := (⟨"com/example/millrace/millrace/wire/ProtocolWriter", "position", "()I"⟩ : MethodName)) hown (mvT hZ (hw _ (List.mem_of_getElem? (i := 53) rfl))) (mvT hZ (hw _ (List.mem_of_getElem? (i := 54) rfl))) (notFace_of_selects (args := #[]) (mvT hZ (hw _ (List.mem_of_getElem? (i := 56) rfl)))) (mvT hZ (hw _ (List.mem_of_getElem? (i := 56) rfl))) (mvT hZ (hw _ (List.mem_of_getElem? (i := 55) rfl))) (by decide) (backOf (W := 1) (rm9 l Z a0 hw [] wo P T35.heap n0 Zs35 Fp35) hZ (hw _ (List.mem_of_getElem? (i := 57) rfl)) (hw _ (List.mem_of_getElem? (i := 12) rfl)) (by decide) (by decide)) q44a q44c (g := (mkF m 126 #[rv a1, own_jv p2, .second, rv ky, rv vy, own_jv z23, .second, iv cn, iv kl, iv vl, iv z101, rv t35, .unset] [(.ref wo), (.ref t35)])) rfl (by rw [hml]; rfl) (Steps.refl _) (argsL := []) (rest := [(.ref t35)]) (lenOf own_pd10_4 rfl) rfl (by show 2 * 0 + _ ≤ _; exact Nat.le_of_eq rfl) (hb hby d10_126) (fun _ _ => ⟨rfl, e43, (by decide : 1 + 0 ≤ _), (by decide : 2190 + 0 ≤ _)⟩))
  obtain ⟨rfl, N44q, e44⟩ := hQ44
  obtain ⟨lc44, X44, N44⟩ := own_loc X44 (Fr.app N35 N44q)
  refine own_st (T' := T44) (g' := (mkF m 129 #[rv a1, own_jv p2, .second, rv ky, rv vy, own_jv z23, .second, iv cn, iv kl, iv vl, iv z101, rv t35, .unset] [(.int P), (.ref t35)])) (fun _ k => (st44) _ k) ?_
  refine own_st (T' := T44) (g' := (mkF m 131 #[rv a1, own_jv p2, .second, rv ky, rv vy, own_jv z23, .second, iv cn, iv kl, iv vl, iv z101, rv t35, .unset] [(.int z101), (.int P), (.ref t35)])) (fun _ k => XS.iload X44.here hx rfl (hb hby d10_129) rfl k) ?_
  obtain ⟨v45, T45, L45, X45, hQ45, st45⟩ := own_packS (Jvm.LawKit.callS X44 hx (y := (⟨"com/example/millrace/millrace/wire/ProtocolWriter", "putVarint", "([BII)I"⟩ : MethodName)) hown (mvT hZ (hw _ (List.mem_of_getElem? (i := 104) rfl))) (mvT hZ (hw _ (List.mem_of_getElem? (i := 105) rfl))) (mvT hZ (hw _ (List.mem_of_getElem? (i := 12) rfl))) (mvT hZ (hw _ (List.mem_of_getElem? (i := 106) rfl))) (by decide) (backOf (W := 0) (rm20 l Z a0 hw [] t35 P z101 nn35 T35.heap n0 Zs35 Yq35 gn_t35 (by omega) (by omega) (by omega) (by rw [← hs34]; omega)) hZ (hw _ (List.mem_of_getElem? (i := 106) rfl)) (hw _ (List.mem_of_getElem? (i := 12) rfl)) (by decide) (by decide)) (g := (mkF m 131 #[rv a1, own_jv p2, .second, rv ky, rv vy, own_jv z23, .second, iv cn, iv kl, iv vl, iv z101, rv t35, .unset] [(.int z101), (.int P), (.ref t35)])) rfl (by rw [hml]; rfl) (argsL := [(.ref t35), (.int P), (.int z101)]) (rest := []) (lenOf own_pd10_5 rfl) rfl (by show 2 * 0 + _ ≤ _; exact Nat.le_of_eq rfl) (hb hby d10_131) (fun _ _ => ⟨rfl, e44, (by decide : 1 + 0 ≤ _), (by decide : 2190 + 0 ≤ _)⟩))
  obtain ⟨r45, rfl, hr45, N45q, Kq45, Yq45⟩ := hQ45
  obtain ⟨lc45, X45, N45⟩ := own_loc X45 (Fr.app N44 N45q)
  have Zs45 : n0 ≤ T45.heap.size := Nat.le_trans Zs35 Kq45.1
  have Fa46 : Exa Z T45.heap a1 "com/example/millrace/millrace/wire/RecordBatchBuilder" := Fa36.keep Kq45
  have Fa47 : Fld Z T45.heap a1 "com/example/millrace/millrace/wire/RecordBatchBuilder" "out" "Lcom/example/millrace/millrace/wire/ProtocolWriter;" (.ref wo) := Fa37.keep Kq45 (ninS ne_a1_t35 nin0)
  have Fa48 : Fld Z T45.heap a1 "com/example/millrace/millrace/wire/RecordBatchBuilder" "baseTimestamp" "J" (.long bt1) := Fa38.keep Kq45 (ninS ne_a1_t35 nin0)
  have Fa49 : Fld Z T45.heap a1 "com/example/millrace/millrace/wire/RecordBatchBuilder" "maxTimestamp" "J" (.long mt1) := Fa39.keep Kq45 (ninS ne_a1_t35 nin0)
  have Fa50 : Fld Z T45.heap a1 "com/example/millrace/millrace/wire/RecordBatchBuilder" "count" "I" (.int cn) := Fa40.keep Kq45 (ninS ne_a1_t35 nin0)
  have Fa51 : own_Y Z T45.heap ky kl := Fa41.keep Kq45 (ninS ne_ky_t35 nin0)
  have Fa52 : own_Y Z T45.heap vy vl := Fa42.keep Kq45 (ninS ne_vy_t35 nin0)
  have Fa53 : Exa Z T45.heap wo "com/example/millrace/millrace/wire/ProtocolWriter" := Eq35.keep Kq45
  have Fa54 : Fld Z T45.heap wo "com/example/millrace/millrace/wire/ProtocolWriter" "bytes" "[B" (.ref t35) := Fb35.keep Kq45 (ninS ne_wo_t35 nin0)
  have Fa55 : Fld Z T45.heap wo "com/example/millrace/millrace/wire/ProtocolWriter" "position" "I" (.int P) := Fp35.keep Kq45 (ninS ne_wo_t35 nin0)
  have Ke45 : Keep h0 T45.heap [a1, wo, t] := Ke35.trans Kq45 (allS ws_t35 all0)
  rw [← hs34] at hr45
  refine own_st (T' := T45) (g' := (mkF m 134 #[rv a1, own_jv p2, .second, rv ky, rv vy, own_jv z23, .second, iv cn, iv kl, iv vl, iv z101, rv t35, .unset] [(.int r45)])) (fun _ k => (st45) _ k) ?_
  refine own_st (T' := T45) (g' := (mkF m 136 #[rv a1, own_jv p2, .second, rv ky, rv vy, own_jv z23, .second, iv cn, iv kl, iv vl, iv z101, rv t35, iv r45] [])) (fun _ k => XS.istore X45.here hx rfl (hb hby d10_134) rfl (l' := #[rv a1, own_jv p2, .second, rv ky, rv vy, own_jv z23, .second, iv cn, iv kl, iv vl, iv z101, rv t35, iv r45]) rfl k) ?_
  refine own_st (T' := T45) (g' := (mkF m 138 #[rv a1, own_jv p2, .second, rv ky, rv vy, own_jv z23, .second, iv cn, iv kl, iv vl, iv z101, rv t35, iv r45] [(.ref t35)])) (fun _ k => XS.aload X45.here hx rfl (hb hby d10_136) rfl rfl k) ?_
  refine own_st (T' := T45) (g' := (mkF m 140 #[rv a1, own_jv p2, .second, rv ky, rv vy, own_jv z23, .second, iv cn, iv kl, iv vl, iv z101, rv t35, iv r45] [(.int r45), (.ref t35)])) (fun _ k => XS.iload X45.here hx rfl (hb hby d10_138) rfl k) ?_
  refine own_st (T' := T45) (g' := (mkF m 143 #[rv a1, own_jv p2, .second, rv ky, rv vy, own_jv z23, .second, iv cn, iv kl, iv vl, iv z101, rv t35, iv (r45 + (1 : Int32))] [(.int r45), (.ref t35)])) (fun _ k => XS.iinc X45.here hx rfl (hb hby d10_140) rfl (l' := #[rv a1, own_jv p2, .second, rv ky, rv vy, own_jv z23, .second, iv cn, iv kl, iv vl, iv z101, rv t35, iv (r45 + (1 : Int32))]) rfl k) ?_
  have hi143 := own_add r45 1 (by rw [own_i1]; omega) (by rw [own_i1]; have := rng32 nn35; omega)
  rw [own_i1] at hi143
  have i1 := own_i1
  refine own_st (T' := T45) (g' := (mkF m 144 #[rv a1, own_jv p2, .second, rv ky, rv vy, own_jv z23, .second, iv cn, iv kl, iv vl, iv z101, rv t35, iv (r45 + (1 : Int32))] [(.int (0 : Int32)), (.int r45), (.ref t35)])) (fun _ k => XS.iconst X45.here hx rfl (hb hby d10_143) k) ?_
  obtain ⟨T56, h56, lc56, X56, e56, N56, ⟨sl56, vv56, W56⟩, Yn56, st56⟩ := own_stB X45 hx hZ rfl Yq45 (j := r45) (x := (0 : Int32)) (own_in r45 nn35 (by omega) (by omega)) N45 gn_t35 (g := (mkF m 144 #[rv a1, own_jv p2, .second, rv ky, rv vy, own_jv z23, .second, iv cn, iv kl, iv vl, iv z101, rv t35, iv (r45 + (1 : Int32))] [(.int (0 : Int32)), (.int r45), (.ref t35)])) rfl rfl (hb hby d10_144)
  have Zs56 : n0 ≤ h56.size := Nat.le_trans Zs45 (Keep.of_wr W56).1
  have Fa57 : Exa Z h56 a1 "com/example/millrace/millrace/wire/RecordBatchBuilder" := Fa46.wr W56
  have Fa58 : Fld Z h56 a1 "com/example/millrace/millrace/wire/RecordBatchBuilder" "out" "Lcom/example/millrace/millrace/wire/ProtocolWriter;" (.ref wo) := Fa47.other W56 (Or.inl ne_a1_t35)
  have Fa59 : Fld Z h56 a1 "com/example/millrace/millrace/wire/RecordBatchBuilder" "baseTimestamp" "J" (.long bt1) := Fa48.other W56 (Or.inl ne_a1_t35)
  have Fa60 : Fld Z h56 a1 "com/example/millrace/millrace/wire/RecordBatchBuilder" "maxTimestamp" "J" (.long mt1) := Fa49.other W56 (Or.inl ne_a1_t35)
  have Fa61 : Fld Z h56 a1 "com/example/millrace/millrace/wire/RecordBatchBuilder" "count" "I" (.int cn) := Fa50.other W56 (Or.inl ne_a1_t35)
  have Fa62 : own_Y Z h56 ky kl := Fa51.other W56 ne_ky_t35
  have Fa63 : own_Y Z h56 vy vl := Fa52.other W56 ne_vy_t35
  have Fa64 : Exa Z h56 wo "com/example/millrace/millrace/wire/ProtocolWriter" := Fa53.wr W56
  have Fa65 : Fld Z h56 wo "com/example/millrace/millrace/wire/ProtocolWriter" "bytes" "[B" (.ref t35) := Fa54.other W56 (Or.inl ne_wo_t35)
  have Fa66 : Fld Z h56 wo "com/example/millrace/millrace/wire/ProtocolWriter" "position" "I" (.int P) := Fa55.other W56 (Or.inl ne_wo_t35)
  have Ke56 : Keep h0 h56 [a1, wo, t] := Ke45.wr W56 ws_t35
  refine own_st (T' := T56) (g' := (mkF m 145 #[rv a1, own_jv p2, .second, rv ky, rv vy, own_jv z23, .second, iv cn, iv kl, iv vl, iv z101, rv t35, iv (r45 + (1 : Int32))] [])) (fun _ k => (st56) _ k) ?_
  refine own_st (T' := T56) (g' := (mkF m 147 #[rv a1, own_jv p2, .second, rv ky, rv vy, own_jv z23, .second, iv cn, iv kl, iv vl, iv z101, rv t35, iv (r45 + (1 : Int32))] [(.ref t35)])) (fun _ k => XS.aload X56.here hx rfl (hb hby d10_145) rfl rfl k) ?_
  refine own_st (T' := T56) (g' := (mkF m 149 #[rv a1, own_jv p2, .second, rv ky, rv vy, own_jv z23, .second, iv cn, iv kl, iv vl, iv z101, rv t35, iv (r45 + (1 : Int32))] [(.int (r45 + (1 : Int32))), (.ref t35)])) (fun _ k => XS.iload X56.here hx rfl (hb hby d10_147) rfl k) ?_
  refine own_st (T' := T56) (g' := (mkF m 151 #[rv a1, own_jv p2, .second, rv ky, rv vy, own_jv z23, .second, iv cn, iv kl, iv vl, iv z101, rv t35, iv (r45 + (1 : Int32))] [(.long z23), (.int (r45 + (1 : Int32))), (.ref t35)])) (fun _ k => XS.lload X56.here hx rfl (hb hby d10_149) rfl k) ?_
  obtain ⟨v67, T67, L67, X67, hQ67, st67⟩ := own_packS (Jvm.LawKit.callS X56 hx (y := (⟨"com/example/millrace/millrace/wire/ProtocolWriter", "putVarlong", "([BIJ)I"⟩ : MethodName)) hown (mvT hZ (hw _ (List.mem_of_getElem? (i := 110) rfl))) (mvT hZ (hw _ (List.mem_of_getElem? (i := 111) rfl))) (mvT hZ (hw _ (List.mem_of_getElem? (i := 12) rfl))) (mvT hZ (hw _ (List.mem_of_getElem? (i := 112) rfl))) (by decide) (backOf (W := 0) (rm22 l Z a0 hw [] t35 (r45 + (1 : Int32)) z23 nn35 h56 n0 Zs56 Yn56 gn_t35 (by omega) (by have := hb26; omega)) hZ (hw _ (List.mem_of_getElem? (i := 112) rfl)) (hw _ (List.mem_of_getElem? (i := 12) rfl)) (by decide) (by decide)) (g := (mkF m 151 #[rv a1, own_jv p2, .second, rv ky, rv vy, own_jv z23, .second, iv cn, iv kl, iv vl, iv z101, rv t35, iv (r45 + (1 : Int32))] [(.long z23), (.int (r45 + (1 : Int32))), (.ref t35)])) rfl (by rw [hml]; rfl) (argsL := [(.ref t35), (.int (r45 + (1 : Int32))), (.long z23)]) (rest := []) (lenOf own_pd10_6 rfl) rfl (by show 2 * 0 + _ ≤ _; exact Nat.le_of_eq rfl) (hb hby d10_151) (fun _ _ => ⟨rfl, e56, (by decide : 1 + 0 ≤ _), (by decide : 2190 + 0 ≤ _)⟩))
  obtain ⟨r67, rfl, hr67, N67q, Kq67, Yq67⟩ := hQ67
  obtain ⟨lc67, X67, N67⟩ := own_loc X67 (Fr.app N56 N67q)
  have Zs67 : n0 ≤ T67.heap.size := Nat.le_trans Zs56 Kq67.1
  have Fa68 : Exa Z T67.heap a1 "com/example/millrace/millrace/wire/RecordBatchBuilder" := Fa57.keep Kq67
  have Fa69 : Fld Z T67.heap a1 "com/example/millrace/millrace/wire/RecordBatchBuilder" "out" "Lcom/example/millrace/millrace/wire/ProtocolWriter;" (.ref wo) := Fa58.keep Kq67 (ninS ne_a1_t35 nin0)
  have Fa70 : Fld Z T67.heap a1 "com/example/millrace/millrace/wire/RecordBatchBuilder" "baseTimestamp" "J" (.long bt1) := Fa59.keep Kq67 (ninS ne_a1_t35 nin0)
  have Fa71 : Fld Z T67.heap a1 "com/example/millrace/millrace/wire/RecordBatchBuilder" "maxTimestamp" "J" (.long mt1) := Fa60.keep Kq67 (ninS ne_a1_t35 nin0)
  have Fa72 : Fld Z T67.heap a1 "com/example/millrace/millrace/wire/RecordBatchBuilder" "count" "I" (.int cn) := Fa61.keep Kq67 (ninS ne_a1_t35 nin0)
  have Fa73 : own_Y Z T67.heap ky kl := Fa62.keep Kq67 (ninS ne_ky_t35 nin0)
  have Fa74 : own_Y Z T67.heap vy vl := Fa63.keep Kq67 (ninS ne_vy_t35 nin0)
  have Fa75 : Exa Z T67.heap wo "com/example/millrace/millrace/wire/ProtocolWriter" := Fa64.keep Kq67
  have Fa76 : Fld Z T67.heap wo "com/example/millrace/millrace/wire/ProtocolWriter" "bytes" "[B" (.ref t35) := Fa65.keep Kq67 (ninS ne_wo_t35 nin0)
  have Fa77 : Fld Z T67.heap wo "com/example/millrace/millrace/wire/ProtocolWriter" "position" "I" (.int P) := Fa66.keep Kq67 (ninS ne_wo_t35 nin0)
  have Ke67 : Keep h0 T67.heap [a1, wo, t] := Ke56.trans Kq67 (allS ws_t35 all0)
  refine own_st (T' := T67) (g' := (mkF m 154 #[rv a1, own_jv p2, .second, rv ky, rv vy, own_jv z23, .second, iv cn, iv kl, iv vl, iv z101, rv t35, iv (r45 + (1 : Int32))] [(.int r67)])) (fun _ k => (st67) _ k) ?_
  refine own_st (T' := T67) (g' := (mkF m 156 #[rv a1, own_jv p2, .second, rv ky, rv vy, own_jv z23, .second, iv cn, iv kl, iv vl, iv z101, rv t35, iv r67] [])) (fun _ k => XS.istore X67.here hx rfl (hb hby d10_154) rfl (l' := #[rv a1, own_jv p2, .second, rv ky, rv vy, own_jv z23, .second, iv cn, iv kl, iv vl, iv z101, rv t35, iv r67]) rfl k) ?_
  refine own_st (T' := T67) (g' := (mkF m 158 #[rv a1, own_jv p2, .second, rv ky, rv vy, own_jv z23, .second, iv cn, iv kl, iv vl, iv z101, rv t35, iv r67] [(.ref t35)])) (fun _ k => XS.aload X67.here hx rfl (hb hby d10_156) rfl rfl k) ?_
  refine own_st (T' := T67) (g' := (mkF m 160 #[rv a1, own_jv p2, .second, rv ky, rv vy, own_jv z23, .second, iv cn, iv kl, iv vl, iv z101, rv t35, iv r67] [(.int r67), (.ref t35)])) (fun _ k => XS.iload X67.here hx rfl (hb hby d10_158) rfl k) ?_
  refine own_st (T' := T67) (g' := (mkF m 162 #[rv a1, own_jv p2, .second, rv ky, rv vy, own_jv z23, .second, iv cn, iv kl, iv vl, iv z101, rv t35, iv r67] [(.int cn), (.int r67), (.ref t35)])) (fun _ k => XS.iload X67.here hx rfl (hb hby d10_160) rfl k) ?_
  obtain ⟨v78, T78, L78, X78, hQ78, st78⟩ := own_packS (Jvm.LawKit.callS X67 hx (y := (⟨"com/example/millrace/millrace/wire/ProtocolWriter", "putVarint", "([BII)I"⟩ : MethodName)) hown (mvT hZ (hw _ (List.mem_of_getElem? (i := 104) rfl))) (mvT hZ (hw _ (List.mem_of_getElem? (i := 105) rfl))) (mvT hZ (hw _ (List.mem_of_getElem? (i := 12) rfl))) (mvT hZ (hw _ (List.mem_of_getElem? (i := 106) rfl))) (by decide) (backOf (W := 0) (rm20 l Z a0 hw [] t35 r67 cn nn35 T67.heap n0 Zs67 Yq67 gn_t35 (by omega) (by omega) (by omega) (by rw [← hs27]; omega)) hZ (hw _ (List.mem_of_getElem? (i := 106) rfl)) (hw _ (List.mem_of_getElem? (i := 12) rfl)) (by decide) (by decide)) (g := (mkF m 162 #[rv a1, own_jv p2, .second, rv ky, rv vy, own_jv z23, .second, iv cn, iv kl, iv vl, iv z101, rv t35, iv r67] [(.int cn), (.int r67), (.ref t35)])) rfl (by rw [hml]; rfl) (argsL := [(.ref t35), (.int r67), (.int cn)]) (rest := []) (lenOf own_pd10_5 rfl) rfl (by show 2 * 0 + _ ≤ _; exact Nat.le_of_eq rfl) (hb hby d10_162) (fun _ _ => ⟨rfl, rfl, (by decide : 1 + 0 ≤ _), (by decide : 2190 + 0 ≤ _)⟩))
  obtain ⟨r78, rfl, hr78, N78q, Kq78, Yq78⟩ := hQ78
  obtain ⟨lc78, X78, N78⟩ := own_loc X78 (Fr.app N67 N78q)
  have Zs78 : n0 ≤ T78.heap.size := Nat.le_trans Zs67 Kq78.1
  have Fa79 : Exa Z T78.heap a1 "com/example/millrace/millrace/wire/RecordBatchBuilder" := Fa68.keep Kq78
  have Fa80 : Fld Z T78.heap a1 "com/example/millrace/millrace/wire/RecordBatchBuilder" "out" "Lcom/example/millrace/millrace/wire/ProtocolWriter;" (.ref wo) := Fa69.keep Kq78 (ninS ne_a1_t35 nin0)
  have Fa81 : Fld Z T78.heap a1 "com/example/millrace/millrace/wire/RecordBatchBuilder" "baseTimestamp" "J" (.long bt1) := Fa70.keep Kq78 (ninS ne_a1_t35 nin0)
  have Fa82 : Fld Z T78.heap a1 "com/example/millrace/millrace/wire/RecordBatchBuilder" "maxTimestamp" "J" (.long mt1) := Fa71.keep Kq78 (ninS ne_a1_t35 nin0)
  have Fa83 : Fld Z T78.heap a1 "com/example/millrace/millrace/wire/RecordBatchBuilder" "count" "I" (.int cn) := Fa72.keep Kq78 (ninS ne_a1_t35 nin0)
  have Fa84 : own_Y Z T78.heap ky kl := Fa73.keep Kq78 (ninS ne_ky_t35 nin0)
  have Fa85 : own_Y Z T78.heap vy vl := Fa74.keep Kq78 (ninS ne_vy_t35 nin0)
  have Fa86 : Exa Z T78.heap wo "com/example/millrace/millrace/wire/ProtocolWriter" := Fa75.keep Kq78
  have Fa87 : Fld Z T78.heap wo "com/example/millrace/millrace/wire/ProtocolWriter" "bytes" "[B" (.ref t35) := Fa76.keep Kq78 (ninS ne_wo_t35 nin0)
  have Fa88 : Fld Z T78.heap wo "com/example/millrace/millrace/wire/ProtocolWriter" "position" "I" (.int P) := Fa77.keep Kq78 (ninS ne_wo_t35 nin0)
  have Ke78 : Keep h0 T78.heap [a1, wo, t] := Ke67.trans Kq78 (allS ws_t35 all0)
  rw [← hs27] at hr78
  refine own_st (T' := T78) (g' := (mkF m 165 #[rv a1, own_jv p2, .second, rv ky, rv vy, own_jv z23, .second, iv cn, iv kl, iv vl, iv z101, rv t35, iv r67] [(.int r78)])) (fun _ k => (st78) _ k) ?_
  refine own_st (T' := T78) (g' := (mkF m 167 #[rv a1, own_jv p2, .second, rv ky, rv vy, own_jv z23, .second, iv cn, iv kl, iv vl, iv z101, rv t35, iv r78] [])) (fun _ k => XS.istore X78.here hx rfl (hb hby d10_165) rfl (l' := #[rv a1, own_jv p2, .second, rv ky, rv vy, own_jv z23, .second, iv cn, iv kl, iv vl, iv z101, rv t35, iv r78]) rfl k) ?_
  refine own_st (T' := T78) (g' := (mkF m 169 #[rv a1, own_jv p2, .second, rv ky, rv vy, own_jv z23, .second, iv cn, iv kl, iv vl, iv z101, rv t35, iv r78] [(.ref t35)])) (fun _ k => XS.aload X78.here hx rfl (hb hby d10_167) rfl rfl k) ?_
  refine own_st (T' := T78) (g' := (mkF m 171 #[rv a1, own_jv p2, .second, rv ky, rv vy, own_jv z23, .second, iv cn, iv kl, iv vl, iv z101, rv t35, iv r78] [(.int r78), (.ref t35)])) (fun _ k => XS.iload X78.here hx rfl (hb hby d10_169) rfl k) ?_
  refine own_st (T' := T78) (g' := (mkF m 173 #[rv a1, own_jv p2, .second, rv ky, rv vy, own_jv z23, .second, iv cn, iv kl, iv vl, iv z101, rv t35, iv r78] [(.int kl), (.int r78), (.ref t35)])) (fun _ k => XS.iload X78.here hx rfl (hb hby d10_171) rfl k) ?_
  obtain ⟨v89, T89, L89, X89, hQ89, st89⟩ := own_packS (Jvm.LawKit.callS X78 hx (y := (⟨"com/example/millrace/millrace/wire/ProtocolWriter", "putVarint", "([BII)I"⟩ : MethodName)) hown (mvT hZ (hw _ (List.mem_of_getElem? (i := 104) rfl))) (mvT hZ (hw _ (List.mem_of_getElem? (i := 105) rfl))) (mvT hZ (hw _ (List.mem_of_getElem? (i := 12) rfl))) (mvT hZ (hw _ (List.mem_of_getElem? (i := 106) rfl))) (by decide) (backOf (W := 0) (rm20 l Z a0 hw [] t35 r78 kl nn35 T78.heap n0 Zs78 Yq78 gn_t35 (by omega) (by omega) (by omega) (by rw [← hs28]; omega)) hZ (hw _ (List.mem_of_getElem? (i := 106) rfl)) (hw _ (List.mem_of_getElem? (i := 12) rfl)) (by decide) (by decide)) (g := (mkF m 173 #[rv a1, own_jv p2, .second, rv ky, rv vy, own_jv z23, .second, iv cn, iv kl, iv vl, iv z101, rv t35, iv r78] [(.int kl), (.int r78), (.ref t35)])) rfl (by rw [hml]; rfl) (argsL := [(.ref t35), (.int r78), (.int kl)]) (rest := []) (lenOf own_pd10_5 rfl) rfl (by show 2 * 0 + _ ≤ _; exact Nat.le_of_eq rfl) (hb hby d10_173) (fun _ _ => ⟨rfl, rfl, (by decide : 1 + 0 ≤ _), (by decide : 2190 + 0 ≤ _)⟩))
  obtain ⟨r89, rfl, hr89, N89q, Kq89, Yq89⟩ := hQ89
  obtain ⟨lc89, X89, N89⟩ := own_loc X89 (Fr.app N78 N89q)
  have Zs89 : n0 ≤ T89.heap.size := Nat.le_trans Zs78 Kq89.1
  have Fa90 : Exa Z T89.heap a1 "com/example/millrace/millrace/wire/RecordBatchBuilder" := Fa79.keep Kq89
  have Fa91 : Fld Z T89.heap a1 "com/example/millrace/millrace/wire/RecordBatchBuilder" "out" "Lcom/example/millrace/millrace/wire/ProtocolWriter;" (.ref wo) := Fa80.keep Kq89 (ninS ne_a1_t35 nin0)
  have Fa92 : Fld Z T89.heap a1 "com/example/millrace/millrace/wire/RecordBatchBuilder" "baseTimestamp" "J" (.long bt1) := Fa81.keep Kq89 (ninS ne_a1_t35 nin0)
  have Fa93 : Fld Z T89.heap a1 "com/example/millrace/millrace/wire/RecordBatchBuilder" "maxTimestamp" "J" (.long mt1) := Fa82.keep Kq89 (ninS ne_a1_t35 nin0)
  have Fa94 : Fld Z T89.heap a1 "com/example/millrace/millrace/wire/RecordBatchBuilder" "count" "I" (.int cn) := Fa83.keep Kq89 (ninS ne_a1_t35 nin0)
  have Fa95 : own_Y Z T89.heap ky kl := Fa84.keep Kq89 (ninS ne_ky_t35 nin0)
  have Fa96 : own_Y Z T89.heap vy vl := Fa85.keep Kq89 (ninS ne_vy_t35 nin0)
  have Fa97 : Exa Z T89.heap wo "com/example/millrace/millrace/wire/ProtocolWriter" := Fa86.keep Kq89
  have Fa98 : Fld Z T89.heap wo "com/example/millrace/millrace/wire/ProtocolWriter" "bytes" "[B" (.ref t35) := Fa87.keep Kq89 (ninS ne_wo_t35 nin0)
  have Fa99 : Fld Z T89.heap wo "com/example/millrace/millrace/wire/ProtocolWriter" "position" "I" (.int P) := Fa88.keep Kq89 (ninS ne_wo_t35 nin0)
  have Ke89 : Keep h0 T89.heap [a1, wo, t] := Ke78.trans Kq89 (allS ws_t35 all0)
  rw [← hs28] at hr89
  refine own_st (T' := T89) (g' := (mkF m 176 #[rv a1, own_jv p2, .second, rv ky, rv vy, own_jv z23, .second, iv cn, iv kl, iv vl, iv z101, rv t35, iv r78] [(.int r89)])) (fun _ k => (st89) _ k) ?_
  refine own_st (T' := T89) (g' := (mkF m 178 #[rv a1, own_jv p2, .second, rv ky, rv vy, own_jv z23, .second, iv cn, iv kl, iv vl, iv z101, rv t35, iv r89] [])) (fun _ k => XS.istore X89.here hx rfl (hb hby d10_176) rfl (l' := #[rv a1, own_jv p2, .second, rv ky, rv vy, own_jv z23, .second, iv cn, iv kl, iv vl, iv z101, rv t35, iv r89]) rfl k) ?_
  refine own_st (T' := T89) (g' := (mkF m 179 #[rv a1, own_jv p2, .second, rv ky, rv vy, own_jv z23, .second, iv cn, iv kl, iv vl, iv z101, rv t35, iv r89] [(.ref ky)])) (fun _ k => XS.aloadN X89.here hx rfl (hb hby d10_178) rfl rfl k) ?_
  refine own_st (T' := T89) (g' := (mkF m 182 #[rv a1, own_jv p2, .second, rv ky, rv vy, own_jv z23, .second, iv cn, iv kl, iv vl, iv z101, rv t35, iv r89] [])) (fun _ k => XS.ifnullNo X89.here hx rfl (hb hby d10_179) rfl k) ?_
  refine own_st (T' := T89) (g' := (mkF m 183 #[rv a1, own_jv p2, .second, rv ky, rv vy, own_jv z23, .second, iv cn, iv kl, iv vl, iv z101, rv t35, iv r89] [(.ref ky)])) (fun _ k => XS.aloadN X89.here hx rfl (hb hby d10_182) rfl rfl k) ?_
  refine own_st (T' := T89) (g' := (mkF m 184 #[rv a1, own_jv p2, .second, rv ky, rv vy, own_jv z23, .second, iv cn, iv kl, iv vl, iv z101, rv t35, iv r89] [(.int (0 : Int32)), (.ref ky)])) (fun _ k => XS.iconst X89.here hx rfl (hb hby d10_183) k) ?_
  refine own_st (T' := T89) (g' := (mkF m 186 #[rv a1, own_jv p2, .second, rv ky, rv vy, own_jv z23, .second, iv cn, iv kl, iv vl, iv z101, rv t35, iv r89] [(.ref t35), (.int (0 : Int32)), (.ref ky)])) (fun _ k => XS.aload X89.here hx rfl (hb hby d10_184) rfl rfl k) ?_
  refine own_st (T' := T89) (g' := (mkF m 188 #[rv a1, own_jv p2, .second, rv ky, rv vy, own_jv z23, .second, iv cn, iv kl, iv vl, iv z101, rv t35, iv r89] [(.int r89), (.ref t35), (.int (0 : Int32)), (.ref ky)])) (fun _ k => XS.iload X89.here hx rfl (hb hby d10_186) rfl k) ?_
  refine own_st (T' := T89) (g' := (mkF m 189 #[rv a1, own_jv p2, .second, rv ky, rv vy, own_jv z23, .second, iv cn, iv kl, iv vl, iv z101, rv t35, iv r89] [(.ref ky), (.int r89), (.ref t35), (.int (0 : Int32)), (.ref ky)])) (fun _ k => XS.aloadN X89.here hx rfl (hb hby d10_188) rfl rfl k) ?_
  refine own_st (T' := T89) (g' := (mkF m 190 #[rv a1, own_jv p2, .second, rv ky, rv vy, own_jv z23, .second, iv cn, iv kl, iv vl, iv z101, rv t35, iv r89] [(.int kl), (.int r89), (.ref t35), (.int (0 : Int32)), (.ref ky)])) (fun _ k => (own_alen X89 hx hZ rfl Fa95 (g := (mkF m 189 #[rv a1, own_jv p2, .second, rv ky, rv vy, own_jv z23, .second, iv cn, iv kl, iv vl, iv z101, rv t35, iv r89] [(.ref ky), (.int r89), (.ref t35), (.int (0 : Int32)), (.ref ky)])) rfl rfl (hb hby d10_189)) _ k) ?_
  obtain ⟨T100, h100, lc100, X100, e100, N100, Kq100, Yq100, st100⟩ := own_cp X89 hx hZ hown (hw _ (List.mem_of_getElem? (i := 113) rfl)) (hw _ (List.mem_of_getElem? (i := 47) rfl)) (hw _ (List.mem_of_getElem? (i := 45) rfl)) (hw _ (List.mem_of_getElem? (i := 46) rfl)) rfl Fa95 Yq89 (by decide) (by omega) (by omega) (by rw [own_i0]; omega) (by omega) N89 gn_t35 (g := (mkF m 190 #[rv a1, own_jv p2, .second, rv ky, rv vy, own_jv z23, .second, iv cn, iv kl, iv vl, iv z101, rv t35, iv r89] [(.int kl), (.int r89), (.ref t35), (.int (0 : Int32)), (.ref ky)])) rfl (by rw [hml]; rfl) (rest := []) rfl (hb hby d10_190) (by decide) (W := 0) (by show 2 * 0 + _ ≤ _; exact Nat.le_of_eq rfl) (by decide)
  have Zs100 : n0 ≤ h100.size := Nat.le_trans Zs89 Kq100.1
  have Fa101 : Exa Z h100 a1 "com/example/millrace/millrace/wire/RecordBatchBuilder" := Fa90.keep Kq100
  have Fa102 : Fld Z h100 a1 "com/example/millrace/millrace/wire/RecordBatchBuilder" "out" "Lcom/example/millrace/millrace/wire/ProtocolWriter;" (.ref wo) := Fa91.keep Kq100 (ninS ne_a1_t35 nin0)
  have Fa103 : Fld Z h100 a1 "com/example/millrace/millrace/wire/RecordBatchBuilder" "baseTimestamp" "J" (.long bt1) := Fa92.keep Kq100 (ninS ne_a1_t35 nin0)
  have Fa104 : Fld Z h100 a1 "com/example/millrace/millrace/wire/RecordBatchBuilder" "maxTimestamp" "J" (.long mt1) := Fa93.keep Kq100 (ninS ne_a1_t35 nin0)
  have Fa105 : Fld Z h100 a1 "com/example/millrace/millrace/wire/RecordBatchBuilder" "count" "I" (.int cn) := Fa94.keep Kq100 (ninS ne_a1_t35 nin0)
  have Fa106 : own_Y Z h100 ky kl := Fa95.keep Kq100 (ninS ne_ky_t35 nin0)
  have Fa107 : own_Y Z h100 vy vl := Fa96.keep Kq100 (ninS ne_vy_t35 nin0)
  have Fa108 : Exa Z h100 wo "com/example/millrace/millrace/wire/ProtocolWriter" := Fa97.keep Kq100
  have Fa109 : Fld Z h100 wo "com/example/millrace/millrace/wire/ProtocolWriter" "bytes" "[B" (.ref t35) := Fa98.keep Kq100 (ninS ne_wo_t35 nin0)
  have Fa110 : Fld Z h100 wo "com/example/millrace/millrace/wire/ProtocolWriter" "position" "I" (.int P) := Fa99.keep Kq100 (ninS ne_wo_t35 nin0)
  have Ke100 : Keep h0 h100 [a1, wo, t] := Ke89.trans Kq100 (allS ws_t35 all0)
  refine own_st (T' := T100) (g' := (mkF m 193 #[rv a1, own_jv p2, .second, rv ky, rv vy, own_jv z23, .second, iv cn, iv kl, iv vl, iv z101, rv t35, iv r89] [])) (fun _ k => (st100) _ k) ?_
  refine own_st (T' := T100) (g' := (mkF m 195 #[rv a1, own_jv p2, .second, rv ky, rv vy, own_jv z23, .second, iv cn, iv kl, iv vl, iv z101, rv t35, iv r89] [(.int r89)])) (fun _ k => XS.iload X100.here hx rfl (hb hby d10_193) rfl k) ?_
  refine own_st (T' := T100) (g' := (mkF m 196 #[rv a1, own_jv p2, .second, rv ky, rv vy, own_jv z23, .second, iv cn, iv kl, iv vl, iv z101, rv t35, iv r89] [(.ref ky), (.int r89)])) (fun _ k => XS.aloadN X100.here hx rfl (hb hby d10_195) rfl rfl k) ?_
  refine own_st (T' := T100) (g' := (mkF m 197 #[rv a1, own_jv p2, .second, rv ky, rv vy, own_jv z23, .second, iv cn, iv kl, iv vl, iv z101, rv t35, iv r89] [(.int kl), (.int r89)])) (fun _ k => (own_alen X100 hx hZ e100 Fa106 (g := (mkF m 196 #[rv a1, own_jv p2, .second, rv ky, rv vy, own_jv z23, .second, iv cn, iv kl, iv vl, iv z101, rv t35, iv r89] [(.ref ky), (.int r89)])) rfl rfl (hb hby d10_196)) _ k) ?_
  refine own_st (T' := T100) (g' := (mkF m 198 #[rv a1, own_jv p2, .second, rv ky, rv vy, own_jv z23, .second, iv cn, iv kl, iv vl, iv z101, rv t35, iv r89] [(.int (r89 + kl))])) (fun _ k => XS.iadd X100.here hx rfl (hb hby d10_197) rfl k) ?_
  generalize hz198 : (r89 + kl) = z198
  refine own_st (T' := T100) (g' := (mkF m 200 #[rv a1, own_jv p2, .second, rv ky, rv vy, own_jv z23, .second, iv cn, iv kl, iv vl, iv z101, rv t35, iv z198] [])) (fun _ k => XS.istore X100.here hx rfl (hb hby d10_198) rfl (l' := #[rv a1, own_jv p2, .second, rv ky, rv vy, own_jv z23, .second, iv cn, iv kl, iv vl, iv z101, rv t35, iv z198]) rfl k) ?_
  have hm198 := own_add r89 kl (by omega) (by have := rng32 nn35; omega)
  rw [hz198] at hm198
  refine own_st (T' := T100) (g' := (mkF m 202 #[rv a1, own_jv p2, .second, rv ky, rv vy, own_jv z23, .second, iv cn, iv kl, iv vl, iv z101, rv t35, iv z198] [(.ref t35)])) (fun _ k => XS.aload X100.here hx rfl (hb hby d10_200) rfl rfl k) ?_
  refine own_st (T' := T100) (g' := (mkF m 204 #[rv a1, own_jv p2, .second, rv ky, rv vy, own_jv z23, .second, iv cn, iv kl, iv vl, iv z101, rv t35, iv z198] [(.int z198), (.ref t35)])) (fun _ k => XS.iload X100.here hx rfl (hb hby d10_202) rfl k) ?_
  refine own_st (T' := T100) (g' := (mkF m 206 #[rv a1, own_jv p2, .second, rv ky, rv vy, own_jv z23, .second, iv cn, iv kl, iv vl, iv z101, rv t35, iv z198] [(.int vl), (.int z198), (.ref t35)])) (fun _ k => XS.iload X100.here hx rfl (hb hby d10_204) rfl k) ?_
  obtain ⟨v111, T111, L111, X111, hQ111, st111⟩ := own_packS (Jvm.LawKit.callS X100 hx (y := (⟨"com/example/millrace/millrace/wire/ProtocolWriter", "putVarint", "([BII)I"⟩ : MethodName)) hown (mvT hZ (hw _ (List.mem_of_getElem? (i := 104) rfl))) (mvT hZ (hw _ (List.mem_of_getElem? (i := 105) rfl))) (mvT hZ (hw _ (List.mem_of_getElem? (i := 12) rfl))) (mvT hZ (hw _ (List.mem_of_getElem? (i := 106) rfl))) (by decide) (backOf (W := 0) (rm20 l Z a0 hw [] t35 z198 vl nn35 h100 n0 Zs100 Yq100 gn_t35 (by omega) (by omega) (by omega) (by rw [← hs30]; omega)) hZ (hw _ (List.mem_of_getElem? (i := 106) rfl)) (hw _ (List.mem_of_getElem? (i := 12) rfl)) (by decide) (by decide)) (g := (mkF m 206 #[rv a1, own_jv p2, .second, rv ky, rv vy, own_jv z23, .second, iv cn, iv kl, iv vl, iv z101, rv t35, iv z198] [(.int vl), (.int z198), (.ref t35)])) rfl (by rw [hml]; rfl) (argsL := [(.ref t35), (.int z198), (.int vl)]) (rest := []) (lenOf own_pd10_5 rfl) rfl (by show 2 * 0 + _ ≤ _; exact Nat.le_of_eq rfl) (hb hby d10_206) (fun _ _ => ⟨rfl, e100, (by decide : 1 + 0 ≤ _), (by decide : 2190 + 0 ≤ _)⟩))
  obtain ⟨r111, rfl, hr111, N111q, Kq111, Yq111⟩ := hQ111
  obtain ⟨lc111, X111, N111⟩ := own_loc X111 (Fr.app N100 N111q)
  have Zs111 : n0 ≤ T111.heap.size := Nat.le_trans Zs100 Kq111.1
  have Fa112 : Exa Z T111.heap a1 "com/example/millrace/millrace/wire/RecordBatchBuilder" := Fa101.keep Kq111
  have Fa113 : Fld Z T111.heap a1 "com/example/millrace/millrace/wire/RecordBatchBuilder" "out" "Lcom/example/millrace/millrace/wire/ProtocolWriter;" (.ref wo) := Fa102.keep Kq111 (ninS ne_a1_t35 nin0)
  have Fa114 : Fld Z T111.heap a1 "com/example/millrace/millrace/wire/RecordBatchBuilder" "baseTimestamp" "J" (.long bt1) := Fa103.keep Kq111 (ninS ne_a1_t35 nin0)
  have Fa115 : Fld Z T111.heap a1 "com/example/millrace/millrace/wire/RecordBatchBuilder" "maxTimestamp" "J" (.long mt1) := Fa104.keep Kq111 (ninS ne_a1_t35 nin0)
  have Fa116 : Fld Z T111.heap a1 "com/example/millrace/millrace/wire/RecordBatchBuilder" "count" "I" (.int cn) := Fa105.keep Kq111 (ninS ne_a1_t35 nin0)
  have Fa117 : own_Y Z T111.heap ky kl := Fa106.keep Kq111 (ninS ne_ky_t35 nin0)
  have Fa118 : own_Y Z T111.heap vy vl := Fa107.keep Kq111 (ninS ne_vy_t35 nin0)
  have Fa119 : Exa Z T111.heap wo "com/example/millrace/millrace/wire/ProtocolWriter" := Fa108.keep Kq111
  have Fa120 : Fld Z T111.heap wo "com/example/millrace/millrace/wire/ProtocolWriter" "bytes" "[B" (.ref t35) := Fa109.keep Kq111 (ninS ne_wo_t35 nin0)
  have Fa121 : Fld Z T111.heap wo "com/example/millrace/millrace/wire/ProtocolWriter" "position" "I" (.int P) := Fa110.keep Kq111 (ninS ne_wo_t35 nin0)
  have Ke111 : Keep h0 T111.heap [a1, wo, t] := Ke100.trans Kq111 (allS ws_t35 all0)
  rw [← hs30] at hr111
  refine own_st (T' := T111) (g' := (mkF m 209 #[rv a1, own_jv p2, .second, rv ky, rv vy, own_jv z23, .second, iv cn, iv kl, iv vl, iv z101, rv t35, iv z198] [(.int r111)])) (fun _ k => (st111) _ k) ?_
  refine own_st (T' := T111) (g' := (mkF m 211 #[rv a1, own_jv p2, .second, rv ky, rv vy, own_jv z23, .second, iv cn, iv kl, iv vl, iv z101, rv t35, iv r111] [])) (fun _ k => XS.istore X111.here hx rfl (hb hby d10_209) rfl (l' := #[rv a1, own_jv p2, .second, rv ky, rv vy, own_jv z23, .second, iv cn, iv kl, iv vl, iv z101, rv t35, iv r111]) rfl k) ?_
  refine own_st (T' := T111) (g' := (mkF m 213 #[rv a1, own_jv p2, .second, rv ky, rv vy, own_jv z23, .second, iv cn, iv kl, iv vl, iv z101, rv t35, iv r111] [(.ref vy)])) (fun _ k => XS.aload X111.here hx rfl (hb hby d10_211) rfl rfl k) ?_
  refine own_st (T' := T111) (g' := (mkF m 216 #[rv a1, own_jv p2, .second, rv ky, rv vy, own_jv z23, .second, iv cn, iv kl, iv vl, iv z101, rv t35, iv r111] [])) (fun _ k => XS.ifnullNo X111.here hx rfl (hb hby d10_213) rfl k) ?_
  refine own_st (T' := T111) (g' := (mkF m 218 #[rv a1, own_jv p2, .second, rv ky, rv vy, own_jv z23, .second, iv cn, iv kl, iv vl, iv z101, rv t35, iv r111] [(.ref vy)])) (fun _ k => XS.aload X111.here hx rfl (hb hby d10_216) rfl rfl k) ?_
  refine own_st (T' := T111) (g' := (mkF m 219 #[rv a1, own_jv p2, .second, rv ky, rv vy, own_jv z23, .second, iv cn, iv kl, iv vl, iv z101, rv t35, iv r111] [(.int (0 : Int32)), (.ref vy)])) (fun _ k => XS.iconst X111.here hx rfl (hb hby d10_218) k) ?_
  refine own_st (T' := T111) (g' := (mkF m 221 #[rv a1, own_jv p2, .second, rv ky, rv vy, own_jv z23, .second, iv cn, iv kl, iv vl, iv z101, rv t35, iv r111] [(.ref t35), (.int (0 : Int32)), (.ref vy)])) (fun _ k => XS.aload X111.here hx rfl (hb hby d10_219) rfl rfl k) ?_
  refine own_st (T' := T111) (g' := (mkF m 223 #[rv a1, own_jv p2, .second, rv ky, rv vy, own_jv z23, .second, iv cn, iv kl, iv vl, iv z101, rv t35, iv r111] [(.int r111), (.ref t35), (.int (0 : Int32)), (.ref vy)])) (fun _ k => XS.iload X111.here hx rfl (hb hby d10_221) rfl k) ?_
  refine own_st (T' := T111) (g' := (mkF m 225 #[rv a1, own_jv p2, .second, rv ky, rv vy, own_jv z23, .second, iv cn, iv kl, iv vl, iv z101, rv t35, iv r111] [(.ref vy), (.int r111), (.ref t35), (.int (0 : Int32)), (.ref vy)])) (fun _ k => XS.aload X111.here hx rfl (hb hby d10_223) rfl rfl k) ?_
  refine own_st (T' := T111) (g' := (mkF m 226 #[rv a1, own_jv p2, .second, rv ky, rv vy, own_jv z23, .second, iv cn, iv kl, iv vl, iv z101, rv t35, iv r111] [(.int vl), (.int r111), (.ref t35), (.int (0 : Int32)), (.ref vy)])) (fun _ k => (own_alen X111 hx hZ rfl Fa118 (g := (mkF m 225 #[rv a1, own_jv p2, .second, rv ky, rv vy, own_jv z23, .second, iv cn, iv kl, iv vl, iv z101, rv t35, iv r111] [(.ref vy), (.int r111), (.ref t35), (.int (0 : Int32)), (.ref vy)])) rfl rfl (hb hby d10_225)) _ k) ?_
  obtain ⟨T122, h122, lc122, X122, e122, N122, Kq122, Yq122, st122⟩ := own_cp X111 hx hZ hown (hw _ (List.mem_of_getElem? (i := 113) rfl)) (hw _ (List.mem_of_getElem? (i := 47) rfl)) (hw _ (List.mem_of_getElem? (i := 45) rfl)) (hw _ (List.mem_of_getElem? (i := 46) rfl)) rfl Fa118 Yq111 (by decide) (by omega) (by omega) (by rw [own_i0]; omega) (by omega) N111 gn_t35 (g := (mkF m 226 #[rv a1, own_jv p2, .second, rv ky, rv vy, own_jv z23, .second, iv cn, iv kl, iv vl, iv z101, rv t35, iv r111] [(.int vl), (.int r111), (.ref t35), (.int (0 : Int32)), (.ref vy)])) rfl (by rw [hml]; rfl) (rest := []) rfl (hb hby d10_226) (by decide) (W := 0) (by show 2 * 0 + _ ≤ _; exact Nat.le_of_eq rfl) (by decide)
  have Zs122 : n0 ≤ h122.size := Nat.le_trans Zs111 Kq122.1
  have Fa123 : Exa Z h122 a1 "com/example/millrace/millrace/wire/RecordBatchBuilder" := Fa112.keep Kq122
  have Fa124 : Fld Z h122 a1 "com/example/millrace/millrace/wire/RecordBatchBuilder" "out" "Lcom/example/millrace/millrace/wire/ProtocolWriter;" (.ref wo) := Fa113.keep Kq122 (ninS ne_a1_t35 nin0)
  have Fa125 : Fld Z h122 a1 "com/example/millrace/millrace/wire/RecordBatchBuilder" "baseTimestamp" "J" (.long bt1) := Fa114.keep Kq122 (ninS ne_a1_t35 nin0)
  have Fa126 : Fld Z h122 a1 "com/example/millrace/millrace/wire/RecordBatchBuilder" "maxTimestamp" "J" (.long mt1) := Fa115.keep Kq122 (ninS ne_a1_t35 nin0)
  have Fa127 : Fld Z h122 a1 "com/example/millrace/millrace/wire/RecordBatchBuilder" "count" "I" (.int cn) := Fa116.keep Kq122 (ninS ne_a1_t35 nin0)
  have Fa128 : own_Y Z h122 ky kl := Fa117.keep Kq122 (ninS ne_ky_t35 nin0)
  have Fa129 : own_Y Z h122 vy vl := Fa118.keep Kq122 (ninS ne_vy_t35 nin0)
  have Fa130 : Exa Z h122 wo "com/example/millrace/millrace/wire/ProtocolWriter" := Fa119.keep Kq122
  have Fa131 : Fld Z h122 wo "com/example/millrace/millrace/wire/ProtocolWriter" "bytes" "[B" (.ref t35) := Fa120.keep Kq122 (ninS ne_wo_t35 nin0)
  have Fa132 : Fld Z h122 wo "com/example/millrace/millrace/wire/ProtocolWriter" "position" "I" (.int P) := Fa121.keep Kq122 (ninS ne_wo_t35 nin0)
  have Ke122 : Keep h0 h122 [a1, wo, t] := Ke111.trans Kq122 (allS ws_t35 all0)
  refine own_st (T' := T122) (g' := (mkF m 229 #[rv a1, own_jv p2, .second, rv ky, rv vy, own_jv z23, .second, iv cn, iv kl, iv vl, iv z101, rv t35, iv r111] [])) (fun _ k => (st122) _ k) ?_
  refine own_st (T' := T122) (g' := (mkF m 231 #[rv a1, own_jv p2, .second, rv ky, rv vy, own_jv z23, .second, iv cn, iv kl, iv vl, iv z101, rv t35, iv r111] [(.int r111)])) (fun _ k => XS.iload X122.here hx rfl (hb hby d10_229) rfl k) ?_
  refine own_st (T' := T122) (g' := (mkF m 233 #[rv a1, own_jv p2, .second, rv ky, rv vy, own_jv z23, .second, iv cn, iv kl, iv vl, iv z101, rv t35, iv r111] [(.ref vy), (.int r111)])) (fun _ k => XS.aload X122.here hx rfl (hb hby d10_231) rfl rfl k) ?_
  refine own_st (T' := T122) (g' := (mkF m 234 #[rv a1, own_jv p2, .second, rv ky, rv vy, own_jv z23, .second, iv cn, iv kl, iv vl, iv z101, rv t35, iv r111] [(.int vl), (.int r111)])) (fun _ k => (own_alen X122 hx hZ e122 Fa129 (g := (mkF m 233 #[rv a1, own_jv p2, .second, rv ky, rv vy, own_jv z23, .second, iv cn, iv kl, iv vl, iv z101, rv t35, iv r111] [(.ref vy), (.int r111)])) rfl rfl (hb hby d10_233)) _ k) ?_
  refine own_st (T' := T122) (g' := (mkF m 235 #[rv a1, own_jv p2, .second, rv ky, rv vy, own_jv z23, .second, iv cn, iv kl, iv vl, iv z101, rv t35, iv r111] [(.int (r111 + vl))])) (fun _ k => XS.iadd X122.here hx rfl (hb hby d10_234) rfl k) ?_
  generalize hz235 : (r111 + vl) = z235
  refine own_st (T' := T122) (g' := (mkF m 237 #[rv a1, own_jv p2, .second, rv ky, rv vy, own_jv z23, .second, iv cn, iv kl, iv vl, iv z101, rv t35, iv z235] [])) (fun _ k => XS.istore X122.here hx rfl (hb hby d10_235) rfl (l' := #[rv a1, own_jv p2, .second, rv ky, rv vy, own_jv z23, .second, iv cn, iv kl, iv vl, iv z101, rv t35, iv z235]) rfl k) ?_
  have hm235 := own_add r111 vl (by omega) (by have := rng32 nn35; omega)
  rw [hz235] at hm235
  refine own_st (T' := T122) (g' := (mkF m 239 #[rv a1, own_jv p2, .second, rv ky, rv vy, own_jv z23, .second, iv cn, iv kl, iv vl, iv z101, rv t35, iv z235] [(.ref t35)])) (fun _ k => XS.aload X122.here hx rfl (hb hby d10_237) rfl rfl k) ?_
  refine own_st (T' := T122) (g' := (mkF m 241 #[rv a1, own_jv p2, .second, rv ky, rv vy, own_jv z23, .second, iv cn, iv kl, iv vl, iv z101, rv t35, iv z235] [(.int z235), (.ref t35)])) (fun _ k => XS.iload X122.here hx rfl (hb hby d10_239) rfl k) ?_
  refine own_st (T' := T122) (g' := (mkF m 242 #[rv a1, own_jv p2, .second, rv ky, rv vy, own_jv z23, .second, iv cn, iv kl, iv vl, iv z101, rv t35, iv z235] [(.int (0 : Int32)), (.int z235), (.ref t35)])) (fun _ k => XS.iconst X122.here hx rfl (hb hby d10_241) k) ?_
  obtain ⟨v133, T133, L133, X133, hQ133, st133⟩ := own_packS (Jvm.LawKit.callS X122 hx (y := (⟨"com/example/millrace/millrace/wire/ProtocolWriter", "putVarint", "([BII)I"⟩ : MethodName)) hown (mvT hZ (hw _ (List.mem_of_getElem? (i := 104) rfl))) (mvT hZ (hw _ (List.mem_of_getElem? (i := 105) rfl))) (mvT hZ (hw _ (List.mem_of_getElem? (i := 12) rfl))) (mvT hZ (hw _ (List.mem_of_getElem? (i := 106) rfl))) (by decide) (backOf (W := 0) (rm20 l Z a0 hw [] t35 z235 (0 : Int32) nn35 h122 n0 Zs122 Yq122 gn_t35 (by omega) (by decide) (by decide) (by rw [← hs32]; omega)) hZ (hw _ (List.mem_of_getElem? (i := 106) rfl)) (hw _ (List.mem_of_getElem? (i := 12) rfl)) (by decide) (by decide)) (g := (mkF m 242 #[rv a1, own_jv p2, .second, rv ky, rv vy, own_jv z23, .second, iv cn, iv kl, iv vl, iv z101, rv t35, iv z235] [(.int (0 : Int32)), (.int z235), (.ref t35)])) rfl (by rw [hml]; rfl) (argsL := [(.ref t35), (.int z235), (.int (0 : Int32))]) (rest := []) (lenOf own_pd10_5 rfl) rfl (by show 2 * 0 + _ ≤ _; exact Nat.le_of_eq rfl) (hb hby d10_242) (fun _ _ => ⟨rfl, e122, (by decide : 1 + 0 ≤ _), (by decide : 2190 + 0 ≤ _)⟩))
  obtain ⟨r133, rfl, hr133, N133q, Kq133, Yq133⟩ := hQ133
  obtain ⟨lc133, X133, N133⟩ := own_loc X133 (Fr.app N122 N133q)
  have Zs133 : n0 ≤ T133.heap.size := Nat.le_trans Zs122 Kq133.1
  have Fa134 : Exa Z T133.heap a1 "com/example/millrace/millrace/wire/RecordBatchBuilder" := Fa123.keep Kq133
  have Fa135 : Fld Z T133.heap a1 "com/example/millrace/millrace/wire/RecordBatchBuilder" "out" "Lcom/example/millrace/millrace/wire/ProtocolWriter;" (.ref wo) := Fa124.keep Kq133 (ninS ne_a1_t35 nin0)
  have Fa136 : Fld Z T133.heap a1 "com/example/millrace/millrace/wire/RecordBatchBuilder" "baseTimestamp" "J" (.long bt1) := Fa125.keep Kq133 (ninS ne_a1_t35 nin0)
  have Fa137 : Fld Z T133.heap a1 "com/example/millrace/millrace/wire/RecordBatchBuilder" "maxTimestamp" "J" (.long mt1) := Fa126.keep Kq133 (ninS ne_a1_t35 nin0)
  have Fa138 : Fld Z T133.heap a1 "com/example/millrace/millrace/wire/RecordBatchBuilder" "count" "I" (.int cn) := Fa127.keep Kq133 (ninS ne_a1_t35 nin0)
  have Fa139 : own_Y Z T133.heap ky kl := Fa128.keep Kq133 (ninS ne_ky_t35 nin0)
  have Fa140 : own_Y Z T133.heap vy vl := Fa129.keep Kq133 (ninS ne_vy_t35 nin0)
  have Fa141 : Exa Z T133.heap wo "com/example/millrace/millrace/wire/ProtocolWriter" := Fa130.keep Kq133
  have Fa142 : Fld Z T133.heap wo "com/example/millrace/millrace/wire/ProtocolWriter" "bytes" "[B" (.ref t35) := Fa131.keep Kq133 (ninS ne_wo_t35 nin0)
  have Fa143 : Fld Z T133.heap wo "com/example/millrace/millrace/wire/ProtocolWriter" "position" "I" (.int P) := Fa132.keep Kq133 (ninS ne_wo_t35 nin0)
  have Ke133 : Keep h0 T133.heap [a1, wo, t] := Ke122.trans Kq133 (allS ws_t35 all0)
  rw [← hs32] at hr133
  refine own_st (T' := T133) (g' := (mkF m 245 #[rv a1, own_jv p2, .second, rv ky, rv vy, own_jv z23, .second, iv cn, iv kl, iv vl, iv z101, rv t35, iv z235] [(.int r133)])) (fun _ k => (st133) _ k) ?_
  refine own_st (T' := T133) (g' := (mkF m 247 #[rv a1, own_jv p2, .second, rv ky, rv vy, own_jv z23, .second, iv cn, iv kl, iv vl, iv z101, rv t35, iv r133] [])) (fun _ k => XS.istore X133.here hx rfl (hb hby d10_245) rfl (l' := #[rv a1, own_jv p2, .second, rv ky, rv vy, own_jv z23, .second, iv cn, iv kl, iv vl, iv z101, rv t35, iv r133]) rfl k) ?_
  refine own_st (T' := T133) (g' := (mkF m 248 #[rv a1, own_jv p2, .second, rv ky, rv vy, own_jv z23, .second, iv cn, iv kl, iv vl, iv z101, rv t35, iv r133] [(.ref a1)])) (fun _ k => XS.aloadN X133.here hx rfl (hb hby d10_247) rfl rfl k) ?_
  obtain ⟨T144, X144, e144, st144⟩ := getF X133 hx hZ hown (host := "") (Or.inl (hw _ (List.mem_of_getElem? (i := 24) rfl))) Via.refl rfl Fa135 (g := (mkF m 248 #[rv a1, own_jv p2, .second, rv ky, rv vy, own_jv z23, .second, iv cn, iv kl, iv vl, iv z101, rv t35, iv r133] [(.ref a1)])) rfl rfl (hb hby d10_248)
  refine own_st (T' := T144) (g' := (mkF m 251 #[rv a1, own_jv p2, .second, rv ky, rv vy, own_jv z23, .second, iv cn, iv kl, iv vl, iv z101, rv t35, iv r133] [(.ref wo)])) (fun _ k => (st144) _ k) ?_
  refine own_st (T' := T144) (g' := (mkF m 253 #[rv a1, own_jv p2, .second, rv ky, rv vy, own_jv z23, .second, iv cn, iv kl, iv vl, iv z101, rv t35, iv r133] [(.int r133), (.ref wo)])) (fun _ k => XS.iload X144.here hx rfl (hb hby d10_251) rfl k) ?_
  obtain ⟨cq145, kq145, q145a, q145b, q145c⟩ := isOf hZ e144 Fa141
  obtain ⟨v145, T145, L145, X145, hQ145, st145⟩ := own_packV (X144.virtualBack hx (y := (⟨"com/example/millrace/millrace/wire/ProtocolWriter", "advanceTo", "(I)V"⟩ : MethodName)) (z := (⟨"com/example/millrace/millrace/wire/ProtocolWriter", "advanceTo", "(I)V"⟩ : MethodName)) hown (mvT hZ (hw _ (List.mem_of_getElem? (i := 114) rfl))) (mvT hZ (hw _ (List.mem_of_getElem? (i := 115) rfl))) (notFace_of_selects (args := #[]) (mvT hZ (hw _ (List.mem_of_getElem? (i := 117) rfl)))) (mvT hZ (hw _ (List.mem_of_getElem? (i := 117) rfl))) (mvT hZ (hw _ (List.mem_of_getElem? (i := 116) rfl))) (by decide) (backOf (W := 0) (rm23 l Z a0 hw [] wo r133 P t35 T133.heap n0 Zs133 Fa141 Fa143 Fa142 gn_wo) hZ (hw _ (List.mem_of_getElem? (i := 118) rfl)) (hw _ (List.mem_of_getElem? (i := 12) rfl)) (by decide) (by decide)) q145a q145c (g := (mkF m 253 #[rv a1, own_jv p2, .second, rv ky, rv vy, own_jv z23, .second, iv cn, iv kl, iv vl, iv z101, rv t35, iv r133] [(.int r133), (.ref wo)])) rfl (by rw [hml]; rfl) (Steps.refl _) (argsL := [(.int r133)]) (rest := []) (lenOf own_pd10_7 rfl) rfl (by show 2 * 0 + _ ≤ _; exact Nat.le_of_eq rfl) (hb hby d10_253) (fun _ _ => ⟨rfl, e144, (by decide : 1 + 0 ≤ _), (by decide : 2190 + 0 ≤ _)⟩))
  obtain ⟨rfl, N145q, Kq145, Fq145_0, Fq145_1, Fq145_2⟩ := hQ145
  obtain ⟨lc145, X145, N145⟩ := own_loc X145 (Fr.app N133 N145q)
  have Zs145 : n0 ≤ T145.heap.size := Nat.le_trans Zs133 Kq145.1
  have Fa146 : Exa Z T145.heap a1 "com/example/millrace/millrace/wire/RecordBatchBuilder" := Fa134.keep Kq145
  have Fa147 : Fld Z T145.heap a1 "com/example/millrace/millrace/wire/RecordBatchBuilder" "out" "Lcom/example/millrace/millrace/wire/ProtocolWriter;" (.ref wo) := Fa135.keep Kq145 (ninS ne_a1_wo nin0)
  have Fa148 : Fld Z T145.heap a1 "com/example/millrace/millrace/wire/RecordBatchBuilder" "baseTimestamp" "J" (.long bt1) := Fa136.keep Kq145 (ninS ne_a1_wo nin0)
  have Fa149 : Fld Z T145.heap a1 "com/example/millrace/millrace/wire/RecordBatchBuilder" "maxTimestamp" "J" (.long mt1) := Fa137.keep Kq145 (ninS ne_a1_wo nin0)
  have Fa150 : Fld Z T145.heap a1 "com/example/millrace/millrace/wire/RecordBatchBuilder" "count" "I" (.int cn) := Fa138.keep Kq145 (ninS ne_a1_wo nin0)
  have Fa151 : own_Y Z T145.heap ky kl := Fa139.keep Kq145 (ninS (Ne.symm ne_wo_ky) nin0)
  have Fa152 : own_Y Z T145.heap vy vl := Fa140.keep Kq145 (ninS (Ne.symm ne_wo_vy) nin0)
  have Fa153 : own_Y Z T145.heap t35 nn35 := Yq133.keep Kq145 (ninS (Ne.symm ne_wo_t35) nin0)
  have Ke145 : Keep h0 T145.heap [a1, wo, t] := Ke133.trans Kq145 (allS (Or.inl (List.mem_of_getElem? (i := 1) rfl)) all0)
  refine own_st (T' := T145) (g' := (mkF m 256 #[rv a1, own_jv p2, .second, rv ky, rv vy, own_jv z23, .second, iv cn, iv kl, iv vl, iv z101, rv t35, iv r133] [])) (fun _ k => (st145) _ k) ?_
  refine own_st (T' := T145) (g' := (mkF m 257 #[rv a1, own_jv p2, .second, rv ky, rv vy, own_jv z23, .second, iv cn, iv kl, iv vl, iv z101, rv t35, iv r133] [(.ref a1)])) (fun _ k => XS.aloadN X145.here hx rfl (hb hby d10_256) rfl rfl k) ?_
  refine own_st (T' := T145) (g' := (mkF m 258 #[rv a1, own_jv p2, .second, rv ky, rv vy, own_jv z23, .second, iv cn, iv kl, iv vl, iv z101, rv t35, iv r133] [(.ref a1), (.ref a1)])) (fun _ k => XS.aloadN X145.here hx rfl (hb hby d10_257) rfl rfl k) ?_
  obtain ⟨T154, X154, e154, st154⟩ := getF X145 hx hZ hown (host := "") (Or.inl (hw _ (List.mem_of_getElem? (i := 67) rfl))) Via.refl rfl Fa149 (g := (mkF m 258 #[rv a1, own_jv p2, .second, rv ky, rv vy, own_jv z23, .second, iv cn, iv kl, iv vl, iv z101, rv t35, iv r133] [(.ref a1), (.ref a1)])) rfl rfl (hb hby d10_258)
  refine own_st (T' := T154) (g' := (mkF m 261 #[rv a1, own_jv p2, .second, rv ky, rv vy, own_jv z23, .second, iv cn, iv kl, iv vl, iv z101, rv t35, iv r133] [(.long mt1), (.ref a1)])) (fun _ k => (st154) _ k) ?_
  refine own_st (T' := T154) (g' := (mkF m 262 #[rv a1, own_jv p2, .second, rv ky, rv vy, own_jv z23, .second, iv cn, iv kl, iv vl, iv z101, rv t35, iv r133] [(.long p2), (.long mt1), (.ref a1)])) (fun _ k => XS.lloadN X154.here hx rfl (hb hby d10_261) rfl k) ?_
  obtain ⟨v155, T155, L155, X155, hQ155, st155⟩ := own_packS (Jvm.LawKit.callS X154 hx (y := (⟨"java/lang/Math", "max", "(JJ)J"⟩ : MethodName)) hown (mvT hZ (hw _ (List.mem_of_getElem? (i := 119) rfl))) (mvT hZ (hw _ (List.mem_of_getElem? (i := 94) rfl))) (mvT hZ (hw _ (List.mem_of_getElem? (i := 15) rfl))) (mvT hZ (hw _ (List.mem_of_getElem? (i := 95) rfl))) (by decide) (backOf (W := 1) (rm17 l Z a0 hw [] mt1 p2 T145.heap n0 Zs145 ) hZ (hw _ (List.mem_of_getElem? (i := 95) rfl)) (hw _ (List.mem_of_getElem? (i := 15) rfl)) (by decide) (by decide)) (g := (mkF m 262 #[rv a1, own_jv p2, .second, rv ky, rv vy, own_jv z23, .second, iv cn, iv kl, iv vl, iv z101, rv t35, iv r133] [(.long p2), (.long mt1), (.ref a1)])) rfl (by rw [hml]; rfl) (argsL := [(.long mt1), (.long p2)]) (rest := [(.ref a1)]) (lenOf own_pd10_8 rfl) rfl (by show 2 * 0 + _ ≤ _; exact Nat.le_of_eq rfl) (hb hby d10_262) (fun _ _ => ⟨rfl, e154, (by decide : 1 + 0 ≤ _), (by decide : 2190 + 0 ≤ _)⟩))
  obtain ⟨rfl, N155q, e155⟩ := hQ155
  obtain ⟨lc155, X155, N155⟩ := own_loc X155 (Fr.app N145 N155q)
  refine own_st (T' := T155) (g' := (mkF m 265 #[rv a1, own_jv p2, .second, rv ky, rv vy, own_jv z23, .second, iv cn, iv kl, iv vl, iv z101, rv t35, iv r133] [(.long (own_f17_0 mt1 p2)), (.ref a1)])) (fun _ k => (st155) _ k) ?_
  obtain ⟨T156, h156, X156, e156, W156, st156⟩ := putF X155 hx hZ hown (host := "") (Or.inl (hw _ (List.mem_of_getElem? (i := 67) rfl))) Via.refl e155 Fa149 Fa146 (Or.inl (hw _ (List.mem_of_getElem? (i := 68) rfl))) (hw _ (List.mem_of_getElem? (i := 2) rfl)) (ty := .long) (by decide) rfl rfl (g := (mkF m 265 #[rv a1, own_jv p2, .second, rv ky, rv vy, own_jv z23, .second, iv cn, iv kl, iv vl, iv z101, rv t35, iv r133] [(.long (own_f17_0 mt1 p2)), (.ref a1)])) rfl rfl (hb hby d10_265)
  have Fw156 := Fa149.same W156
  have Zs156 : n0 ≤ h156.size := Nat.le_trans Zs145 (Keep.of_wr W156).1
  obtain ⟨lc156, X156, N156⟩ := own_loc X156 (Fr.snoc X156 N155 gn_a1)
  have Fa157 : Exa Z h156 a1 "com/example/millrace/millrace/wire/RecordBatchBuilder" := Fa146.wr W156
  have Fa158 : Fld Z h156 a1 "com/example/millrace/millrace/wire/RecordBatchBuilder" "out" "Lcom/example/millrace/millrace/wire/ProtocolWriter;" (.ref wo) := Fa147.other W156 (Or.inr (slot_ne (Or.inr (hw _ (List.mem_of_getElem? (i := 25) rfl))) (Or.inl (hw _ (List.mem_of_getElem? (i := 68) rfl))) (by decide) (t := (.object "com/example/millrace/millrace/wire/ProtocolWriter")) (t' := .long) (by decide) (by decide)))
  have Fa159 : Fld Z h156 a1 "com/example/millrace/millrace/wire/RecordBatchBuilder" "baseTimestamp" "J" (.long bt1) := Fa148.other W156 (Or.inr (slot_ne (Or.inl (hw _ (List.mem_of_getElem? (i := 66) rfl))) (Or.inl (hw _ (List.mem_of_getElem? (i := 68) rfl))) (by decide) (t := .long) (t' := .long) (by decide) (by decide)))
  have Fa160 : Fld Z h156 a1 "com/example/millrace/millrace/wire/RecordBatchBuilder" "count" "I" (.int cn) := Fa150.other W156 (Or.inr (slot_ne (Or.inl (hw _ (List.mem_of_getElem? (i := 64) rfl))) (Or.inl (hw _ (List.mem_of_getElem? (i := 68) rfl))) (by decide) (t := .int) (t' := .long) (by decide) (by decide)))
  have Fa161 : own_Y Z h156 ky kl := Fa151.other W156 (Ne.symm ne_a1_ky)
  have Fa162 : own_Y Z h156 vy vl := Fa152.other W156 (Ne.symm ne_a1_vy)
  have Fa163 : own_Y Z h156 t35 nn35 := Fa153.other W156 (Ne.symm ne_a1_t35)
  have Fa164 : Exa Z h156 wo "com/example/millrace/millrace/wire/ProtocolWriter" := Fq145_0.wr W156
  have Fa165 : Fld Z h156 wo "com/example/millrace/millrace/wire/ProtocolWriter" "position" "I" (.int r133) := Fq145_1.other W156 (Or.inl (Ne.symm ne_a1_wo))
  have Fa166 : Fld Z h156 wo "com/example/millrace/millrace/wire/ProtocolWriter" "bytes" "[B" (.ref t35) := Fq145_2.other W156 (Or.inl (Ne.symm ne_a1_wo))
  have Ke156 : Keep h0 h156 [a1, wo, t] := Ke145.wr W156 (Or.inl (List.mem_of_getElem? (i := 0) rfl))
  refine own_st (T' := T156) (g' := (mkF m 268 #[rv a1, own_jv p2, .second, rv ky, rv vy, own_jv z23, .second, iv cn, iv kl, iv vl, iv z101, rv t35, iv r133] [])) (fun _ k => (st156) _ k) ?_
  refine own_st (T' := T156) (g' := (mkF m 269 #[rv a1, own_jv p2, .second, rv ky, rv vy, own_jv z23, .second, iv cn, iv kl, iv vl, iv z101, rv t35, iv r133] [(.ref a1)])) (fun _ k => XS.aloadN X156.here hx rfl (hb hby d10_268) rfl rfl k) ?_
  refine own_st (T' := T156) (g' := (mkF m 270 #[rv a1, own_jv p2, .second, rv ky, rv vy, own_jv z23, .second, iv cn, iv kl, iv vl, iv z101, rv t35, iv r133] [(.ref a1), (.ref a1)])) (fun _ k => XS.dup X156.here hx rfl (hb hby d10_269) rfl rfl k) ?_
  obtain ⟨T167, X167, e167, st167⟩ := getF X156 hx hZ hown (host := "") (Or.inl (hw _ (List.mem_of_getElem? (i := 63) rfl))) Via.refl e156 Fa160 (g := (mkF m 270 #[rv a1, own_jv p2, .second, rv ky, rv vy, own_jv z23, .second, iv cn, iv kl, iv vl, iv z101, rv t35, iv r133] [(.ref a1), (.ref a1)])) rfl rfl (hb hby d10_270)
  refine own_st (T' := T167) (g' := (mkF m 273 #[rv a1, own_jv p2, .second, rv ky, rv vy, own_jv z23, .second, iv cn, iv kl, iv vl, iv z101, rv t35, iv r133] [(.int cn), (.ref a1)])) (fun _ k => (st167) _ k) ?_
  refine own_st (T' := T167) (g' := (mkF m 274 #[rv a1, own_jv p2, .second, rv ky, rv vy, own_jv z23, .second, iv cn, iv kl, iv vl, iv z101, rv t35, iv r133] [(.int (1 : Int32)), (.int cn), (.ref a1)])) (fun _ k => XS.iconst X167.here hx rfl (hb hby d10_273) k) ?_
  refine own_st (T' := T167) (g' := (mkF m 275 #[rv a1, own_jv p2, .second, rv ky, rv vy, own_jv z23, .second, iv cn, iv kl, iv vl, iv z101, rv t35, iv r133] [(.int (cn + (1 : Int32))), (.ref a1)])) (fun _ k => XS.iadd X167.here hx rfl (hb hby d10_274) rfl k) ?_
  obtain ⟨T168, h168, X168, e168, W168, st168⟩ := putF X167 hx hZ hown (host := "") (Or.inl (hw _ (List.mem_of_getElem? (i := 63) rfl))) Via.refl e167 Fa160 Fa157 (Or.inl (hw _ (List.mem_of_getElem? (i := 64) rfl))) (hw _ (List.mem_of_getElem? (i := 2) rfl)) (ty := .int) (by decide) rfl rfl (g := (mkF m 275 #[rv a1, own_jv p2, .second, rv ky, rv vy, own_jv z23, .second, iv cn, iv kl, iv vl, iv z101, rv t35, iv r133] [(.int (cn + (1 : Int32))), (.ref a1)])) rfl rfl (hb hby d10_275)
  have Fw168 := Fa160.same W168
  have Zs168 : n0 ≤ h168.size := Nat.le_trans Zs156 (Keep.of_wr W168).1
  obtain ⟨lc168, X168, N168⟩ := own_loc X168 (Fr.snoc X168 N156 gn_a1)
  have Fa169 : Exa Z h168 a1 "com/example/millrace/millrace/wire/RecordBatchBuilder" := Fa157.wr W168
  have Fa170 : Fld Z h168 a1 "com/example/millrace/millrace/wire/RecordBatchBuilder" "out" "Lcom/example/millrace/millrace/wire/ProtocolWriter;" (.ref wo) := Fa158.other W168 (Or.inr (slot_ne (Or.inr (hw _ (List.mem_of_getElem? (i := 25) rfl))) (Or.inl (hw _ (List.mem_of_getElem? (i := 64) rfl))) (by decide) (t := (.object "com/example/millrace/millrace/wire/ProtocolWriter")) (t' := .int) (by decide) (by decide)))
  have Fa171 : Fld Z h168 a1 "com/example/millrace/millrace/wire/RecordBatchBuilder" "baseTimestamp" "J" (.long bt1) := Fa159.other W168 (Or.inr (slot_ne (Or.inl (hw _ (List.mem_of_getElem? (i := 66) rfl))) (Or.inl (hw _ (List.mem_of_getElem? (i := 64) rfl))) (by decide) (t := .long) (t' := .int) (by decide) (by decide)))
  have Fa172 : own_Y Z h168 ky kl := Fa161.other W168 (Ne.symm ne_a1_ky)
  have Fa173 : own_Y Z h168 vy vl := Fa162.other W168 (Ne.symm ne_a1_vy)
  have Fa174 : own_Y Z h168 t35 nn35 := Fa163.other W168 (Ne.symm ne_a1_t35)
  have Fa175 : Exa Z h168 wo "com/example/millrace/millrace/wire/ProtocolWriter" := Fa164.wr W168
  have Fa176 : Fld Z h168 wo "com/example/millrace/millrace/wire/ProtocolWriter" "position" "I" (.int r133) := Fa165.other W168 (Or.inl (Ne.symm ne_a1_wo))
  have Fa177 : Fld Z h168 wo "com/example/millrace/millrace/wire/ProtocolWriter" "bytes" "[B" (.ref t35) := Fa166.other W168 (Or.inl (Ne.symm ne_a1_wo))
  have Fa178 : Fld Z h168 a1 "com/example/millrace/millrace/wire/RecordBatchBuilder" "maxTimestamp" "J" (.long (own_f17_0 mt1 p2)) := Fw156.other W168 (Or.inr (slot_ne (Or.inl (hw _ (List.mem_of_getElem? (i := 68) rfl))) (Or.inl (hw _ (List.mem_of_getElem? (i := 64) rfl))) (by decide) (t := .long) (t' := .int) (by decide) (by decide)))
  have Ke168 : Keep h0 h168 [a1, wo, t] := Ke156.wr W168 (Or.inl (List.mem_of_getElem? (i := 0) rfl))
  refine own_st (T' := T168) (g' := (mkF m 278 #[rv a1, own_jv p2, .second, rv ky, rv vy, own_jv z23, .second, iv cn, iv kl, iv vl, iv z101, rv t35, iv r133] [])) (fun _ k => (st168) _ k) ?_
  exact own_end (Q := Q10_00 Z a1 p2 ky vy wo t bt mt cn P n kl vl h0 n0) (v := none) X168 (fun _ => rfl) (fun fs hr => X168.returnOut hx Bd.returns (hb hby d10_278) hr) (by rw [e168]; exact ⟨rfl, N168, Ke168, ⟨t35, nn35, r133, bt1, _, hto35, gn_t35, by omega, by omega, by omega, by omega, ⟨Fa169, Fa170, Fa171, Fa178, Fw168, Fa175, Fa177, Fa176, Fa174⟩⟩⟩) (by decide) (by decide)
theorem own_k10 (x : Int32) : 0 ≤ (x &&& (1023 : Int32)).toInt ∧ (x &&& (1023 : Int32)).toInt ≤ 1023 := c_and x 1023 (by decide)
theorem own_cap (z : Int32) (h0 : 0 ≤ z.toInt) (h1 : z.toInt ≤ 1023) : z.toNatClampNeg ≤ 1023 := by have := own_ncl h0; omega
theorem own_mr (K V : Int32) (hK0 : 0 ≤ K.toInt) (hK : K.toInt ≤ 1023) (hV0 : 0 ≤ V.toInt) (hV : V.toInt ≤ 1023) : (((((26 : Int32) + K) + (5 : Int32)) + V) + (1 : Int32)).toInt = 32 + K.toInt + V.toInt := by
  have e26 : (26 : Int32).toInt = 26 := rfl
  have e5 : (5 : Int32).toInt = 5 := rfl
  have i1 := own_i1
  have s1 := own_add 26 K (by omega) (by omega)
  have s2 := own_add (26 + K) 5 (by omega) (by omega)
  have s3 := own_add (26 + K + 5) V (by omega) (by omega)
  have s4 := own_add (26 + K + 5 + V) 1 (by omega) (by omega)
  omega
theorem own_fin (K V M : Int32) (hK0 : 0 ≤ K.toInt) (hK : K.toInt ≤ 1023) (hV0 : 0 ≤ V.toInt) (hV : V.toInt ≤ 1023) (hM : (((((26 : Int32) + K) + (5 : Int32)) + V) + (1 : Int32)) = M) : M - (((((26 : Int32) + (0 : Int32)) + (5 : Int32)) + (0 : Int32)) + (1 : Int32)) = K + V := by
  have m := own_mr K V hK0 hK hV0 hV
  rw [hM] at m
  have e : (((((26 : Int32) + (0 : Int32)) + (5 : Int32)) + (0 : Int32)) + (1 : Int32)) = 32 := by decide
  rw [e, ← Int32.toInt_inj]
  have e32 : (32 : Int32).toInt = 32 := rfl
  rw [own_subI M 32 (by omega) (by omega), own_add K V (by omega) (by omega), m, e32]; omega
theorem own_le (P P' M : Int32) (K : Int) (hP0 : 0 ≤ P.toInt) (hP : P.toInt ≤ 90) (h1 : P.toInt ≤ P'.toInt) (h2 : P'.toInt ≤ P.toInt + 21 + K) (hK0 : 0 ≤ K) (hK : K ≤ 2046) (hM : M.toInt = 32 + K) : ¬ M < (P' - P) := by
  rw [Int32.lt_iff_toInt_lt, own_subI P' P (by omega) (by omega)]; omega
theorem own_j1 {P : Int32} (h : (61 : Int32).toInt ≤ P.toInt) : 0 ≤ P.toInt := by have e : (61 : Int32).toInt = 61 := rfl; omega
theorem own_j2 {P : Int32} (h : P.toInt ≤ (61 : Int32).toInt + 21) : P.toInt ≤ 82 := by have e : (61 : Int32).toInt = 61 := rfl; omega
theorem own_j3 {n m : Int32} (h : n.toInt ≤ (61 : Int32).toInt + 21 ∨ n.toInt ≤ 2 * m.toInt) (hm : m.toInt ≤ 122) : n.toInt ≤ 300 := by have e : (61 : Int32).toInt = 61 := rfl; omega
theorem own_pn0 : plainName "com/example/millrace/millrace/wire/RecordBatchBuilderMaxRecordSizePinLaw" = true := by first | (simp [plainName, overriddenIn]; done) | decide +kernel
theorem own_pd0_0 : parseMethodDescriptor "(I)V" = some ⟨[.int], none⟩ := by decide +kernel
theorem own_pd0_1 : parseMethodDescriptor "(J[B[B)V" = some ⟨[.long, (.array .byte), (.array .byte)], none⟩ := by decide +kernel
theorem own_pd0_2 : parseMethodDescriptor "()I" = some ⟨[], some .int⟩ := by decide +kernel
theorem own_pd0_3 : parseMethodDescriptor "([B[B)I" = some ⟨[(.array .byte), (.array .byte)], some .int⟩ := by decide +kernel
theorem own_ef0 (m : MethodId) (x0 : Int64) (x1 : Int64) (x2 : Int32) (x3 : Int32) (x4 : Int32) : entryFrame m #[(.long x0), (.long x1), (.int x2), (.int x3), (.int x4)] maxLocals = mkF m 0 #[own_jv x0, .second, own_jv x1, .second, iv x2, iv x3, iv x4, .unset, .unset, .unset, .unset, .unset, .unset, .unset, .unset, .unset, .unset, .unset, .unset, .unset] [] := by first | (simp [entryFrame, mkF, argsToLocals, Value.category, maxLocals]; done) | rfl
def Q0 (Z : State) (p1 : Int64) (p2 : Int64) (p3 : Int32) (p4 : Int32) (p5 : Int32) (h0 : Heap) (n0 : Nat) (v : Option Value) (h : Heap) (L : List Loc) : Prop := v = some (.int 1) ∧ Fr n0 L
set_option maxRecDepth 65536 in
set_option maxHeartbeats 40000000 in
theorem rm0 (l : Launch) (Z : State) (a0 : Array Value) (hw : ∀ d ∈ tables_1, d.before a0 Z = true) (ws : List Jvm.Cond) (p1 : Int64) (p2 : Int64) (p3 : Int32) (p4 : Int32) (p5 : Int32) (hd : Addr) (h0 : Heap) (n0 : Nat) (Z0 : n0 ≤ h0.size) (S_h : Sta Z h0 "com/example/millrace/millrace/wire/RecordBatchBuilder" "HEADER" "[B" (.ref hd)) (Y_hd : own_Y Z h0 hd (61 : Int32)) :
    MetFree l x (head1 (Jvm.Cond.code x code maxLocals ret :: ws) room_1) (fun a U => a = #[(.long p1), (.long p2), (.int p3), (.int p4), (.int p5)] ∧ Z.Warmed39 U.vm ∧ U.heap = h0) (fun _ _ _ _ _ => True) (fun _ U o U' => ∃ v L, o = .returned v ∧ Q0 Z p1 p2 p3 p4 p5 h0 n0 v U'.heap L ∧ FrameEnd U o U' L room_1.cells room_1.slots) := by
  refine MetFree.of_bodySF (plainFor_of_name own_pn0) hisR ?_
  intro p e s m args below meth c s₁ Bd hml0 hP hK
  obtain ⟨rfl, hZ, hh⟩ := hP
  have hx := Bd.exec
  have hby := Bd.bytes
  have hml : c.maxLocals = 20 := hml0
  have hown : s.vm.findClass "com/example/millrace/millrace/wire/RecordBatchBuilderMaxRecordSizePinLaw" = some m.cls := findClass_of_methodNamed Bd.named
  have hnm := (name_of_methodNamed Bd.named Bd.method).1
  have hlk := Bd.notSynchronized
  have X0 : Stand p l e room_1 s m #[(.long p1), (.long p2), (.int p3), (.int p4), (.int p5)] below meth c s₁ [] 0 0 := Stand.of_body Bd
  have e0 : s₁.heap = h0 := by rw [← hh, Bd.state]; rfl
  have N0 := Fr.nil n0
  show own_Goes p e below (fun o U' => ∃ v L, o = .returned v ∧ Q0 Z p1 p2 p3 p4 p5 h0 n0 v U'.heap L ∧ FrameEnd s o U' L room_1.cells room_1.slots) s₁ (entryFrame m #[(.long p1), (.long p2), (.int p3), (.int p4), (.int p5)] maxLocals)
  refine own_st (T' := s₁) (g' := mkF m 0 #[own_jv p1, .second, own_jv p2, .second, iv p3, iv p4, iv p5, .unset, .unset, .unset, .unset, .unset, .unset, .unset, .unset, .unset, .unset, .unset, .unset, .unset] []) (fun _ k => castTop (own_ef0 m p1 p2 p3 p4 p5) k) ?_
  have i1 := own_i1
  have i0 := own_i0
  refine own_st (T' := s₁) (g' := (mkF m 2 #[own_jv p1, .second, own_jv p2, .second, iv p3, iv p4, iv p5, .unset, .unset, .unset, .unset, .unset, .unset, .unset, .unset, .unset, .unset, .unset, .unset, .unset] [(.int p5)])) (fun _ k => XS.iload X0.here hx rfl (hb hby at_0) rfl k) ?_
  refine own_st (T' := s₁) (g' := (mkF m 3 #[own_jv p1, .second, own_jv p2, .second, iv p3, iv p4, iv p5, .unset, .unset, .unset, .unset, .unset, .unset, .unset, .unset, .unset, .unset, .unset, .unset, .unset] [(.int (1 : Int32)), (.int p5)])) (fun _ k => XS.iconst X0.here hx rfl (hb hby at_2) k) ?_
  refine own_st (T' := s₁) (g' := (mkF m 4 #[own_jv p1, .second, own_jv p2, .second, iv p3, iv p4, iv p5, .unset, .unset, .unset, .unset, .unset, .unset, .unset, .unset, .unset, .unset, .unset, .unset, .unset] [(.int (p5 &&& (1 : Int32)))])) (fun _ k => XS.iand X0.here hx rfl (hb hby at_3) rfl k) ?_
  by_cases hc4 : (p5 &&& (1 : Int32)) = (0 : Int32)
  · refine own_st (T' := s₁) (g' := (mkF m 11 #[own_jv p1, .second, own_jv p2, .second, iv p3, iv p4, iv p5, .unset, .unset, .unset, .unset, .unset, .unset, .unset, .unset, .unset, .unset, .unset, .unset, .unset] [])) (fun _ k => XS.ifYes X0.here hx rfl (pc0 := 4) (pc' := 11) rfl (hb hby at_4) rfl ((if0 _ _).trans (teq hc4).1) (by decide) (by decide) k) ?_
    refine own_st (T' := s₁) (g' := (mkF m 12 #[own_jv p1, .second, own_jv p2, .second, iv p3, iv p4, iv p5, .unset, .unset, .unset, .unset, .unset, .unset, .unset, .unset, .unset, .unset, .unset, .unset, .unset] [(.int (0 : Int32))])) (fun _ k => XS.iconst X0.here hx rfl (hb hby at_11) k) ?_
    refine own_st (T' := s₁) (g' := (mkF m 14 #[own_jv p1, .second, own_jv p2, .second, iv p3, iv p4, iv p5, iv (0 : Int32), .unset, .unset, .unset, .unset, .unset, .unset, .unset, .unset, .unset, .unset, .unset, .unset] [])) (fun _ k => XS.istore X0.here hx rfl (hb hby at_12) rfl (l' := #[own_jv p1, .second, own_jv p2, .second, iv p3, iv p4, iv p5, iv (0 : Int32), .unset, .unset, .unset, .unset, .unset, .unset, .unset, .unset, .unset, .unset, .unset, .unset]) rfl k) ?_
    refine own_st (T' := s₁) (g' := (mkF m 16 #[own_jv p1, .second, own_jv p2, .second, iv p3, iv p4, iv p5, iv (0 : Int32), .unset, .unset, .unset, .unset, .unset, .unset, .unset, .unset, .unset, .unset, .unset, .unset] [(.int p5)])) (fun _ k => XS.iload X0.here hx rfl (hb hby at_14) rfl k) ?_
    refine own_st (T' := s₁) (g' := (mkF m 17 #[own_jv p1, .second, own_jv p2, .second, iv p3, iv p4, iv p5, iv (0 : Int32), .unset, .unset, .unset, .unset, .unset, .unset, .unset, .unset, .unset, .unset, .unset, .unset] [(.int (2 : Int32)), (.int p5)])) (fun _ k => XS.iconst X0.here hx rfl (hb hby at_16) k) ?_
    refine own_st (T' := s₁) (g' := (mkF m 18 #[own_jv p1, .second, own_jv p2, .second, iv p3, iv p4, iv p5, iv (0 : Int32), .unset, .unset, .unset, .unset, .unset, .unset, .unset, .unset, .unset, .unset, .unset, .unset] [(.int (p5 &&& (2 : Int32)))])) (fun _ k => XS.iand X0.here hx rfl (hb hby at_17) rfl k) ?_
    by_cases hc18 : (p5 &&& (2 : Int32)) = (0 : Int32)
    · refine own_st (T' := s₁) (g' := (mkF m 25 #[own_jv p1, .second, own_jv p2, .second, iv p3, iv p4, iv p5, iv (0 : Int32), .unset, .unset, .unset, .unset, .unset, .unset, .unset, .unset, .unset, .unset, .unset, .unset] [])) (fun _ k => XS.ifYes X0.here hx rfl (pc0 := 18) (pc' := 25) rfl (hb hby at_18) rfl ((if0 _ _).trans (teq hc18).1) (by decide) (by decide) k) ?_
      refine own_st (T' := s₁) (g' := (mkF m 26 #[own_jv p1, .second, own_jv p2, .second, iv p3, iv p4, iv p5, iv (0 : Int32), .unset, .unset, .unset, .unset, .unset, .unset, .unset, .unset, .unset, .unset, .unset, .unset] [(.int (0 : Int32))])) (fun _ k => XS.iconst X0.here hx rfl (hb hby at_25) k) ?_
      refine own_st (T' := s₁) (g' := (mkF m 28 #[own_jv p1, .second, own_jv p2, .second, iv p3, iv p4, iv p5, iv (0 : Int32), iv (0 : Int32), .unset, .unset, .unset, .unset, .unset, .unset, .unset, .unset, .unset, .unset, .unset] [])) (fun _ k => XS.istore X0.here hx rfl (hb hby at_26) rfl (l' := #[own_jv p1, .second, own_jv p2, .second, iv p3, iv p4, iv p5, iv (0 : Int32), iv (0 : Int32), .unset, .unset, .unset, .unset, .unset, .unset, .unset, .unset, .unset, .unset, .unset]) rfl k) ?_
      suffices JE : ∀ z40 : Int32, own_Goes p e below (fun o U' => ∃ v L, o = .returned v ∧ Q0 Z p1 p2 p3 p4 p5 h0 n0 v U'.heap L ∧ FrameEnd s o U' L room_1.cells room_1.slots) s₁ (mkF m 40 #[own_jv p1, .second, own_jv p2, .second, iv p3, iv p4, iv p5, iv (0 : Int32), iv (0 : Int32), .unset, .unset, .unset, .unset, .unset, .unset, .unset, .unset, .unset, .unset, .unset] [(.int z40)]) by
        refine own_st (T' := s₁) (g' := (mkF m 30 #[own_jv p1, .second, own_jv p2, .second, iv p3, iv p4, iv p5, iv (0 : Int32), iv (0 : Int32), .unset, .unset, .unset, .unset, .unset, .unset, .unset, .unset, .unset, .unset, .unset] [(.int p5)])) (fun _ k => XS.iload X0.here hx rfl (hb hby at_28) rfl k) ?_
        refine own_st (T' := s₁) (g' := (mkF m 31 #[own_jv p1, .second, own_jv p2, .second, iv p3, iv p4, iv p5, iv (0 : Int32), iv (0 : Int32), .unset, .unset, .unset, .unset, .unset, .unset, .unset, .unset, .unset, .unset, .unset] [(.int (4 : Int32)), (.int p5)])) (fun _ k => XS.iconst X0.here hx rfl (hb hby at_30) k) ?_
        refine own_st (T' := s₁) (g' := (mkF m 32 #[own_jv p1, .second, own_jv p2, .second, iv p3, iv p4, iv p5, iv (0 : Int32), iv (0 : Int32), .unset, .unset, .unset, .unset, .unset, .unset, .unset, .unset, .unset, .unset, .unset] [(.int (p5 &&& (4 : Int32)))])) (fun _ k => XS.iand X0.here hx rfl (hb hby at_31) rfl k) ?_
        by_cases hc32 : (p5 &&& (4 : Int32)) = (0 : Int32)
        · refine own_st (T' := s₁) (g' := (mkF m 39 #[own_jv p1, .second, own_jv p2, .second, iv p3, iv p4, iv p5, iv (0 : Int32), iv (0 : Int32), .unset, .unset, .unset, .unset, .unset, .unset, .unset, .unset, .unset, .unset, .unset] [])) (fun _ k => XS.ifYes X0.here hx rfl (pc0 := 32) (pc' := 39) rfl (hb hby at_32) rfl ((if0 _ _).trans (teq hc32).1) (by decide) (by decide) k) ?_
          refine own_st (T' := s₁) (g' := (mkF m 40 #[own_jv p1, .second, own_jv p2, .second, iv p3, iv p4, iv p5, iv (0 : Int32), iv (0 : Int32), .unset, .unset, .unset, .unset, .unset, .unset, .unset, .unset, .unset, .unset, .unset] [(.int (0 : Int32))])) (fun _ k => XS.iconst X0.here hx rfl (hb hby at_39) k) ?_
          exact JE (0 : Int32)
        · refine own_st (T' := s₁) (g' := (mkF m 35 #[own_jv p1, .second, own_jv p2, .second, iv p3, iv p4, iv p5, iv (0 : Int32), iv (0 : Int32), .unset, .unset, .unset, .unset, .unset, .unset, .unset, .unset, .unset, .unset, .unset] [])) (fun _ k => XS.ifNo X0.here hx rfl (hb hby at_32) rfl ((if0 _ _).trans (feq hc32).1) k) ?_
          refine own_st (T' := s₁) (g' := (mkF m 36 #[own_jv p1, .second, own_jv p2, .second, iv p3, iv p4, iv p5, iv (0 : Int32), iv (0 : Int32), .unset, .unset, .unset, .unset, .unset, .unset, .unset, .unset, .unset, .unset, .unset] [(.int (1 : Int32))])) (fun _ k => XS.iconst X0.here hx rfl (hb hby at_35) k) ?_
          refine own_st (T' := s₁) (g' := (mkF m 40 #[own_jv p1, .second, own_jv p2, .second, iv p3, iv p4, iv p5, iv (0 : Int32), iv (0 : Int32), .unset, .unset, .unset, .unset, .unset, .unset, .unset, .unset, .unset, .unset, .unset] [(.int (1 : Int32))])) (fun _ k => XS.goto X0.here hx rfl (pc0 := 36) (pc' := 40) rfl (hb hby at_36) (by decide) (by decide) k) ?_
          exact JE (1 : Int32)
      intro z40
      refine own_st (T' := s₁) (g' := (mkF m 42 #[own_jv p1, .second, own_jv p2, .second, iv p3, iv p4, iv p5, iv (0 : Int32), iv (0 : Int32), iv z40, .unset, .unset, .unset, .unset, .unset, .unset, .unset, .unset, .unset, .unset] [])) (fun _ k => XS.istore X0.here hx rfl (hb hby at_40) rfl (l' := #[own_jv p1, .second, own_jv p2, .second, iv p3, iv p4, iv p5, iv (0 : Int32), iv (0 : Int32), iv z40, .unset, .unset, .unset, .unset, .unset, .unset, .unset, .unset, .unset, .unset]) rfl k) ?_
      refine own_st (T' := s₁) (g' := (mkF m 44 #[own_jv p1, .second, own_jv p2, .second, iv p3, iv p4, iv p5, iv (0 : Int32), iv (0 : Int32), iv z40, .unset, .unset, .unset, .unset, .unset, .unset, .unset, .unset, .unset, .unset] [(.int (0 : Int32))])) (fun _ k => XS.iload X0.here hx rfl (hb hby at_42) rfl k) ?_
      refine own_st (T' := s₁) (g' := (mkF m 51 #[own_jv p1, .second, own_jv p2, .second, iv p3, iv p4, iv p5, iv (0 : Int32), iv (0 : Int32), iv z40, .unset, .unset, .unset, .unset, .unset, .unset, .unset, .unset, .unset, .unset] [])) (fun _ k => XS.ifYes X0.here hx rfl (pc0 := 44) (pc' := 51) rfl (hb hby at_44) rfl ((if0 _ _).trans (teq (by decide : (0 : Int32) = (0 : Int32))).1) (by decide) (by decide) k) ?_
      refine own_st (T' := s₁) (g' := (mkF m 53 #[own_jv p1, .second, own_jv p2, .second, iv p3, iv p4, iv p5, iv (0 : Int32), iv (0 : Int32), iv z40, .unset, .unset, .unset, .unset, .unset, .unset, .unset, .unset, .unset, .unset] [(.int p3)])) (fun _ k => XS.iload X0.here hx rfl (hb hby at_51) rfl k) ?_
      refine own_st (T' := s₁) (g' := (mkF m 56 #[own_jv p1, .second, own_jv p2, .second, iv p3, iv p4, iv p5, iv (0 : Int32), iv (0 : Int32), iv z40, .unset, .unset, .unset, .unset, .unset, .unset, .unset, .unset, .unset, .unset] [(.int (1023 : Int32)), (.int p3)])) (fun _ k => XS.sipush X0.here hx rfl (hb hby at_53) k) ?_
      refine own_st (T' := s₁) (g' := (mkF m 57 #[own_jv p1, .second, own_jv p2, .second, iv p3, iv p4, iv p5, iv (0 : Int32), iv (0 : Int32), iv z40, .unset, .unset, .unset, .unset, .unset, .unset, .unset, .unset, .unset, .unset] [(.int (p3 &&& (1023 : Int32)))])) (fun _ k => XS.iand X0.here hx rfl (hb hby at_56) rfl k) ?_
      generalize hz57 : (p3 &&& (1023 : Int32)) = z57
      refine own_st (T' := s₁) (g' := (mkF m 59 #[own_jv p1, .second, own_jv p2, .second, iv p3, iv p4, iv p5, iv (0 : Int32), iv (0 : Int32), iv z40, iv z57, .unset, .unset, .unset, .unset, .unset, .unset, .unset, .unset, .unset] [])) (fun _ k => XS.istore X0.here hx rfl (hb hby at_57) rfl (l' := #[own_jv p1, .second, own_jv p2, .second, iv p3, iv p4, iv p5, iv (0 : Int32), iv (0 : Int32), iv z40, iv z57, .unset, .unset, .unset, .unset, .unset, .unset, .unset, .unset, .unset]) rfl k) ?_
      have hk57 : 0 ≤ z57.toInt ∧ z57.toInt ≤ 1023 := by rw [← hz57]; exact own_k10 _
      refine own_st (T' := s₁) (g' := (mkF m 61 #[own_jv p1, .second, own_jv p2, .second, iv p3, iv p4, iv p5, iv (0 : Int32), iv (0 : Int32), iv z40, iv z57, .unset, .unset, .unset, .unset, .unset, .unset, .unset, .unset, .unset] [(.int (0 : Int32))])) (fun _ k => XS.iload X0.here hx rfl (hb hby at_59) rfl k) ?_
      refine own_st (T' := s₁) (g' := (mkF m 68 #[own_jv p1, .second, own_jv p2, .second, iv p3, iv p4, iv p5, iv (0 : Int32), iv (0 : Int32), iv z40, iv z57, .unset, .unset, .unset, .unset, .unset, .unset, .unset, .unset, .unset] [])) (fun _ k => XS.ifYes X0.here hx rfl (pc0 := 61) (pc' := 68) rfl (hb hby at_61) rfl ((if0 _ _).trans (teq (by decide : (0 : Int32) = (0 : Int32))).1) (by decide) (by decide) k) ?_
      refine own_st (T' := s₁) (g' := (mkF m 70 #[own_jv p1, .second, own_jv p2, .second, iv p3, iv p4, iv p5, iv (0 : Int32), iv (0 : Int32), iv z40, iv z57, .unset, .unset, .unset, .unset, .unset, .unset, .unset, .unset, .unset] [(.int p4)])) (fun _ k => XS.iload X0.here hx rfl (hb hby at_68) rfl k) ?_
      refine own_st (T' := s₁) (g' := (mkF m 73 #[own_jv p1, .second, own_jv p2, .second, iv p3, iv p4, iv p5, iv (0 : Int32), iv (0 : Int32), iv z40, iv z57, .unset, .unset, .unset, .unset, .unset, .unset, .unset, .unset, .unset] [(.int (1023 : Int32)), (.int p4)])) (fun _ k => XS.sipush X0.here hx rfl (hb hby at_70) k) ?_
      refine own_st (T' := s₁) (g' := (mkF m 74 #[own_jv p1, .second, own_jv p2, .second, iv p3, iv p4, iv p5, iv (0 : Int32), iv (0 : Int32), iv z40, iv z57, .unset, .unset, .unset, .unset, .unset, .unset, .unset, .unset, .unset] [(.int (p4 &&& (1023 : Int32)))])) (fun _ k => XS.iand X0.here hx rfl (hb hby at_73) rfl k) ?_
      generalize hz74 : (p4 &&& (1023 : Int32)) = z74
      refine own_st (T' := s₁) (g' := (mkF m 76 #[own_jv p1, .second, own_jv p2, .second, iv p3, iv p4, iv p5, iv (0 : Int32), iv (0 : Int32), iv z40, iv z57, iv z74, .unset, .unset, .unset, .unset, .unset, .unset, .unset, .unset] [])) (fun _ k => XS.istore X0.here hx rfl (hb hby at_74) rfl (l' := #[own_jv p1, .second, own_jv p2, .second, iv p3, iv p4, iv p5, iv (0 : Int32), iv (0 : Int32), iv z40, iv z57, iv z74, .unset, .unset, .unset, .unset, .unset, .unset, .unset, .unset]) rfl k) ?_
      have hk74 : 0 ≤ z74.toInt ∧ z74.toInt ≤ 1023 := by rw [← hz74]; exact own_k10 _
      refine own_st (T' := s₁) (g' := (mkF m 78 #[own_jv p1, .second, own_jv p2, .second, iv p3, iv p4, iv p5, iv (0 : Int32), iv (0 : Int32), iv z40, iv z57, iv z74, .unset, .unset, .unset, .unset, .unset, .unset, .unset, .unset] [(.int (0 : Int32))])) (fun _ k => XS.iload X0.here hx rfl (hb hby at_76) rfl k) ?_
      refine own_st (T' := s₁) (g' := (mkF m 85 #[own_jv p1, .second, own_jv p2, .second, iv p3, iv p4, iv p5, iv (0 : Int32), iv (0 : Int32), iv z40, iv z57, iv z74, .unset, .unset, .unset, .unset, .unset, .unset, .unset, .unset] [])) (fun _ k => XS.ifYes X0.here hx rfl (pc0 := 78) (pc' := 85) rfl (hb hby at_78) rfl ((if0 _ _).trans (teq (by decide : (0 : Int32) = (0 : Int32))).1) (by decide) (by decide) k) ?_
      refine own_st (T' := s₁) (g' := (mkF m 87 #[own_jv p1, .second, own_jv p2, .second, iv p3, iv p4, iv p5, iv (0 : Int32), iv (0 : Int32), iv z40, iv z57, iv z74, .unset, .unset, .unset, .unset, .unset, .unset, .unset, .unset] [(.int z57)])) (fun _ k => XS.iload X0.here hx rfl (hb hby at_85) rfl k) ?_
      obtain ⟨T1, h1, k1, X1, e1, E1, A1, st1⟩ := newP X0 hx hZ (hw _ (List.mem_of_getElem? (i := 0) rfl)) e0 (g := (mkF m 87 #[own_jv p1, .second, own_jv p2, .second, iv p3, iv p4, iv p5, iv (0 : Int32), iv (0 : Int32), iv z40, iv z57, iv z74, .unset, .unset, .unset, .unset, .unset, .unset, .unset, .unset] [(.int z57)])) rfl (hb hby at_87) rfl (own_pos hk57.1) (cap := 1023) (own_cap _ hk57.1 hk57.2) (by decide) (by decide) (by decide)
      obtain ⟨b1, g1⟩ : ∃ z, z = h0.size := ⟨_, rfl⟩
      rw [← g1] at A1 st1
      have ne_hd_b1 : hd ≠ b1 := Nat.ne_of_lt (Nat.lt_of_lt_of_le Y_hd.lt (Nat.le_of_eq g1.symm))
      have gn_b1 : n0 ≤ b1 := Nat.le_trans Z0 (Nat.le_of_eq g1.symm)
      have Zs1 : n0 ≤ h1.size := Nat.le_trans Z0 E1.1
      have Fa2 : Sta Z h1 "com/example/millrace/millrace/wire/RecordBatchBuilder" "HEADER" "[B" (.ref hd) := S_h.ext E1
      have Fa3 : own_Y Z h1 hd (61 : Int32) := Y_hd.ext E1
      have V1 : own_Y Z h1 b1 z57 := own_Y.new A1 (own_pos hk57.1)
      refine own_st (T' := T1) (g' := (mkF m 89 #[own_jv p1, .second, own_jv p2, .second, iv p3, iv p4, iv p5, iv (0 : Int32), iv (0 : Int32), iv z40, iv z57, iv z74, .unset, .unset, .unset, .unset, .unset, .unset, .unset, .unset] [(.ref b1)])) (fun _ k => (st1) _ k) ?_
      refine own_st (T' := T1) (g' := (mkF m 91 #[own_jv p1, .second, own_jv p2, .second, iv p3, iv p4, iv p5, iv (0 : Int32), iv (0 : Int32), iv z40, iv z57, iv z74, rv b1, .unset, .unset, .unset, .unset, .unset, .unset, .unset] [])) (fun _ k => XS.astore X1.here hx rfl (hb hby at_89) rfl rfl (l' := #[own_jv p1, .second, own_jv p2, .second, iv p3, iv p4, iv p5, iv (0 : Int32), iv (0 : Int32), iv z40, iv z57, iv z74, rv b1, .unset, .unset, .unset, .unset, .unset, .unset, .unset]) rfl k) ?_
      refine own_st (T' := T1) (g' := (mkF m 93 #[own_jv p1, .second, own_jv p2, .second, iv p3, iv p4, iv p5, iv (0 : Int32), iv (0 : Int32), iv z40, iv z57, iv z74, rv b1, .unset, .unset, .unset, .unset, .unset, .unset, .unset] [(.int (0 : Int32))])) (fun _ k => XS.iload X1.here hx rfl (hb hby at_91) rfl k) ?_
      refine own_st (T' := T1) (g' := (mkF m 100 #[own_jv p1, .second, own_jv p2, .second, iv p3, iv p4, iv p5, iv (0 : Int32), iv (0 : Int32), iv z40, iv z57, iv z74, rv b1, .unset, .unset, .unset, .unset, .unset, .unset, .unset] [])) (fun _ k => XS.ifYes X1.here hx rfl (pc0 := 93) (pc' := 100) rfl (hb hby at_93) rfl ((if0 _ _).trans (teq (by decide : (0 : Int32) = (0 : Int32))).1) (by decide) (by decide) k) ?_
      refine own_st (T' := T1) (g' := (mkF m 102 #[own_jv p1, .second, own_jv p2, .second, iv p3, iv p4, iv p5, iv (0 : Int32), iv (0 : Int32), iv z40, iv z57, iv z74, rv b1, .unset, .unset, .unset, .unset, .unset, .unset, .unset] [(.int z74)])) (fun _ k => XS.iload X1.here hx rfl (hb hby at_100) rfl k) ?_
      obtain ⟨T4, h4, k4, X4, e4, E4, A4, st4⟩ := newP X1 hx hZ (hw _ (List.mem_of_getElem? (i := 0) rfl)) e1 (g := (mkF m 102 #[own_jv p1, .second, own_jv p2, .second, iv p3, iv p4, iv p5, iv (0 : Int32), iv (0 : Int32), iv z40, iv z57, iv z74, rv b1, .unset, .unset, .unset, .unset, .unset, .unset, .unset] [(.int z74)])) rfl (hb hby at_102) rfl (own_pos hk74.1) (cap := 1023) (own_cap _ hk74.1 hk74.2) (by decide) (by decide) (by decide)
      obtain ⟨b4, g4⟩ : ∃ z, z = h1.size := ⟨_, rfl⟩
      rw [← g4] at A4 st4
      have ne_hd_b4 : hd ≠ b4 := Nat.ne_of_lt (Nat.lt_of_lt_of_le Fa3.lt (Nat.le_of_eq g4.symm))
      have ne_b1_b4 : b1 ≠ b4 := Nat.ne_of_lt (Nat.lt_of_lt_of_le V1.lt (Nat.le_of_eq g4.symm))
      have gn_b4 : n0 ≤ b4 := Nat.le_trans Zs1 (Nat.le_of_eq g4.symm)
      have Zs4 : n0 ≤ h4.size := Nat.le_trans Zs1 E4.1
      have Fa5 : Sta Z h4 "com/example/millrace/millrace/wire/RecordBatchBuilder" "HEADER" "[B" (.ref hd) := Fa2.ext E4
      have Fa6 : own_Y Z h4 hd (61 : Int32) := Fa3.ext E4
      have Fa7 : own_Y Z h4 b1 z57 := V1.ext E4
      have V4 : own_Y Z h4 b4 z74 := own_Y.new A4 (own_pos hk74.1)
      refine own_st (T' := T4) (g' := (mkF m 104 #[own_jv p1, .second, own_jv p2, .second, iv p3, iv p4, iv p5, iv (0 : Int32), iv (0 : Int32), iv z40, iv z57, iv z74, rv b1, .unset, .unset, .unset, .unset, .unset, .unset, .unset] [(.ref b4)])) (fun _ k => (st4) _ k) ?_
      refine own_st (T' := T4) (g' := (mkF m 106 #[own_jv p1, .second, own_jv p2, .second, iv p3, iv p4, iv p5, iv (0 : Int32), iv (0 : Int32), iv z40, iv z57, iv z74, rv b1, rv b4, .unset, .unset, .unset, .unset, .unset, .unset] [])) (fun _ k => XS.astore X4.here hx rfl (hb hby at_104) rfl rfl (l' := #[own_jv p1, .second, own_jv p2, .second, iv p3, iv p4, iv p5, iv (0 : Int32), iv (0 : Int32), iv z40, iv z57, iv z74, rv b1, rv b4, .unset, .unset, .unset, .unset, .unset, .unset]) rfl k) ?_
      obtain ⟨T8, h8, X8, e8, E8, A8, D8, -, st8⟩ := newO X4 hx hZ hown (hw _ (List.mem_of_getElem? (i := 1) rfl)) (hw _ (List.mem_of_getElem? (i := 2) rfl)) (hw _ (List.mem_of_getElem? (i := 3) rfl)) e4 (g := (mkF m 106 #[own_jv p1, .second, own_jv p2, .second, iv p3, iv p4, iv p5, iv (0 : Int32), iv (0 : Int32), iv z40, iv z57, iv z74, rv b1, rv b4, .unset, .unset, .unset, .unset, .unset, .unset] [])) rfl (hb hby at_106) (by decide) (by decide)
      obtain ⟨b8, g8⟩ : ∃ z, z = h4.size := ⟨_, rfl⟩
      rw [← g8] at A8 D8 st8
      have ne_hd_b8 : hd ≠ b8 := Nat.ne_of_lt (Nat.lt_of_lt_of_le Fa6.lt (Nat.le_of_eq g8.symm))
      have ne_b1_b8 : b1 ≠ b8 := Nat.ne_of_lt (Nat.lt_of_lt_of_le Fa7.lt (Nat.le_of_eq g8.symm))
      have ne_b4_b8 : b4 ≠ b8 := Nat.ne_of_lt (Nat.lt_of_lt_of_le V4.lt (Nat.le_of_eq g8.symm))
      have gn_b8 : n0 ≤ b8 := Nat.le_trans Zs4 (Nat.le_of_eq g8.symm)
      have Zs8 : n0 ≤ h8.size := Nat.le_trans Zs4 E8.1
      have Fa9 : Sta Z h8 "com/example/millrace/millrace/wire/RecordBatchBuilder" "HEADER" "[B" (.ref hd) := Fa5.ext E8
      have Fa10 : own_Y Z h8 hd (61 : Int32) := Fa6.ext E8
      have Fa11 : own_Y Z h8 b1 z57 := Fa7.ext E8
      have Fa12 : own_Y Z h8 b4 z74 := V4.ext E8
      have F8_out : Fld Z h8 b8 "com/example/millrace/millrace/wire/RecordBatchBuilder" "out" "Lcom/example/millrace/millrace/wire/ProtocolWriter;" .null := D8 (Or.inr (hw _ (List.mem_of_getElem? (i := 25) rfl))) (ty := (.object "com/example/millrace/millrace/wire/ProtocolWriter")) (by decide)
      have F8_count : Fld Z h8 b8 "com/example/millrace/millrace/wire/RecordBatchBuilder" "count" "I" (.int (0 : Int32)) := D8 (Or.inl (hw _ (List.mem_of_getElem? (i := 64) rfl))) (ty := .int) (by decide)
      have F8_baseTimestamp : Fld Z h8 b8 "com/example/millrace/millrace/wire/RecordBatchBuilder" "baseTimestamp" "J" (.long (0 : Int64)) := D8 (Or.inl (hw _ (List.mem_of_getElem? (i := 66) rfl))) (ty := .long) (by decide)
      have F8_maxTimestamp : Fld Z h8 b8 "com/example/millrace/millrace/wire/RecordBatchBuilder" "maxTimestamp" "J" (.long (0 : Int64)) := D8 (Or.inl (hw _ (List.mem_of_getElem? (i := 68) rfl))) (ty := .long) (by decide)
      refine own_st (T' := T8) (g' := (mkF m 109 #[own_jv p1, .second, own_jv p2, .second, iv p3, iv p4, iv p5, iv (0 : Int32), iv (0 : Int32), iv z40, iv z57, iv z74, rv b1, rv b4, .unset, .unset, .unset, .unset, .unset, .unset] [(.ref b8)])) (fun _ k => (st8) _ k) ?_
      refine own_st (T' := T8) (g' := (mkF m 110 #[own_jv p1, .second, own_jv p2, .second, iv p3, iv p4, iv p5, iv (0 : Int32), iv (0 : Int32), iv z40, iv z57, iv z74, rv b1, rv b4, .unset, .unset, .unset, .unset, .unset, .unset] [(.ref b8), (.ref b8)])) (fun _ k => XS.dup X8.here hx rfl (hb hby at_109) rfl rfl k) ?_
      refine own_st (T' := T8) (g' := (mkF m 111 #[own_jv p1, .second, own_jv p2, .second, iv p3, iv p4, iv p5, iv (0 : Int32), iv (0 : Int32), iv z40, iv z57, iv z74, rv b1, rv b4, .unset, .unset, .unset, .unset, .unset, .unset] [(.int (0 : Int32)), (.ref b8), (.ref b8)])) (fun _ k => XS.iconst X8.here hx rfl (hb hby at_110) k) ?_
      obtain ⟨v13, T13, L13, X13, hQ13, st13⟩ := own_packV (X8.specialBack hx (y := (⟨"com/example/millrace/millrace/wire/RecordBatchBuilder", "<init>", "(I)V"⟩ : MethodName)) rfl hown (mvT hZ (hw _ (List.mem_of_getElem? (i := 4) rfl))) (mvT hZ (hw _ (List.mem_of_getElem? (i := 5) rfl))) (mvT hZ (hw _ (List.mem_of_getElem? (i := 6) rfl))) (by decide) (backOf (W := 1) (rm1 l Z a0 hw [] b8 hd h8 n0 Zs8 A8 F8_out F8_baseTimestamp F8_maxTimestamp F8_count Fa10 Fa9 gn_b8 (Ne.symm ne_hd_b8)) hZ (hw _ (List.mem_of_getElem? (i := 6) rfl)) (hw _ (List.mem_of_getElem? (i := 3) rfl)) (by decide) (by decide)) (g := (mkF m 111 #[own_jv p1, .second, own_jv p2, .second, iv p3, iv p4, iv p5, iv (0 : Int32), iv (0 : Int32), iv z40, iv z57, iv z74, rv b1, rv b4, .unset, .unset, .unset, .unset, .unset, .unset] [(.int (0 : Int32)), (.ref b8), (.ref b8)])) rfl (by rw [hml]; rfl) (Steps.refl _) (a := b8) (argsL := [(.int (0 : Int32))]) (rest := [(.ref b8)]) (lenOf own_pd0_0 rfl) rfl (by show 2 * 0 + _ ≤ _; exact Nat.le_of_eq rfl) (hb hby at_111) (fun _ _ => ⟨rfl, e8, (by decide : 3 + 3 ≤ _), (by decide : 2050 + 2263 ≤ _)⟩))
      obtain ⟨rfl, N13q, Kq13, wo13, t13, nn13, hw13, ht13, gn_wo13, gn_t13, ne_wo13_t13, hA13, hB13, SS13⟩ := hQ13
      obtain ⟨lc13, X13, N13⟩ := own_loc X13 (Fr.app N0 N13q)
      have ne_hd_wo13 : hd ≠ wo13 := Nat.ne_of_lt (Nat.lt_of_lt_of_le Fa10.lt hw13)
      have ne_hd_t13 : hd ≠ t13 := Nat.ne_of_lt (Nat.lt_of_lt_of_le Fa10.lt ht13)
      have ne_b1_wo13 : b1 ≠ wo13 := Nat.ne_of_lt (Nat.lt_of_lt_of_le Fa11.lt hw13)
      have ne_b1_t13 : b1 ≠ t13 := Nat.ne_of_lt (Nat.lt_of_lt_of_le Fa11.lt ht13)
      have ne_b4_wo13 : b4 ≠ wo13 := Nat.ne_of_lt (Nat.lt_of_lt_of_le Fa12.lt hw13)
      have ne_b4_t13 : b4 ≠ t13 := Nat.ne_of_lt (Nat.lt_of_lt_of_le Fa12.lt ht13)
      have ne_b8_wo13 : b8 ≠ wo13 := Nat.ne_of_lt (Nat.lt_of_lt_of_le A8.lt hw13)
      have ne_b8_t13 : b8 ≠ t13 := Nat.ne_of_lt (Nat.lt_of_lt_of_le A8.lt ht13)
      have Zs13 : n0 ≤ T13.heap.size := Nat.le_trans Zs8 Kq13.1
      have Fa14 : own_Y Z T13.heap b1 z57 := Fa11.keep Kq13 (ninS ne_b1_b8 nin0)
      have Fa15 : own_Y Z T13.heap b4 z74 := Fa12.keep Kq13 (ninS ne_b4_b8 nin0)
      obtain ⟨S13_0, S13_1, S13_2, S13_3, S13_4, S13_5, S13_6, S13_7, S13_8⟩ := SS13
      refine own_st (T' := T13) (g' := (mkF m 114 #[own_jv p1, .second, own_jv p2, .second, iv p3, iv p4, iv p5, iv (0 : Int32), iv (0 : Int32), iv z40, iv z57, iv z74, rv b1, rv b4, .unset, .unset, .unset, .unset, .unset, .unset] [(.ref b8)])) (fun _ k => (st13) _ k) ?_
      refine own_st (T' := T13) (g' := (mkF m 116 #[own_jv p1, .second, own_jv p2, .second, iv p3, iv p4, iv p5, iv (0 : Int32), iv (0 : Int32), iv z40, iv z57, iv z74, rv b1, rv b4, rv b8, .unset, .unset, .unset, .unset, .unset] [])) (fun _ k => XS.astore X13.here hx rfl (hb hby at_114) rfl rfl (l' := #[own_jv p1, .second, own_jv p2, .second, iv p3, iv p4, iv p5, iv (0 : Int32), iv (0 : Int32), iv z40, iv z57, iv z74, rv b1, rv b4, rv b8, .unset, .unset, .unset, .unset, .unset]) rfl k) ?_
      suffices J129 : ∀ (T' : State) (h' : Heap) (lc' : List Loc) (tj : Addr) (btj mtj : Int64) (cj Pj nj : Int32) (X' : Stand p l e room_1 s m #[(.long p1), (.long p2), (.int p3), (.int p4), (.int p5)] below meth c T' lc' 7 6503) (e' : T'.heap = h') (N' : Fr n0 lc') (Zh' : n0 ≤ h'.size) (gn_tj : n0 ≤ tj) (ne_b1_tj : b1 ≠ tj) (ne_b4_tj : b4 ≠ tj) (ne_b8_tj : b8 ≠ tj) (ne_wo13_tj : wo13 ≠ tj) (hc0 : 0 ≤ cj.toInt) (hc1 : cj.toInt ≤ 1) (hP0 : 0 ≤ Pj.toInt) (hP1 : Pj.toInt ≤ 82) (hn0 : 0 < nj.toInt) (hn1 : nj.toInt ≤ 300) (Fj0 : own_Y Z h' b1 z57) (Fj1 : own_Y Z h' b4 z74) (Fj2 : Exa Z h' b8 "com/example/millrace/millrace/wire/RecordBatchBuilder") (Fj3 : Fld Z h' b8 "com/example/millrace/millrace/wire/RecordBatchBuilder" "out" "Lcom/example/millrace/millrace/wire/ProtocolWriter;" (.ref wo13)) (Fj4 : Fld Z h' b8 "com/example/millrace/millrace/wire/RecordBatchBuilder" "baseTimestamp" "J" (.long btj)) (Fj5 : Fld Z h' b8 "com/example/millrace/millrace/wire/RecordBatchBuilder" "maxTimestamp" "J" (.long mtj)) (Fj6 : Fld Z h' b8 "com/example/millrace/millrace/wire/RecordBatchBuilder" "count" "I" (.int cj)) (Fj7 : Exa Z h' wo13 "com/example/millrace/millrace/wire/ProtocolWriter") (Fj8 : Fld Z h' wo13 "com/example/millrace/millrace/wire/ProtocolWriter" "bytes" "[B" (.ref tj)) (Fj9 : Fld Z h' wo13 "com/example/millrace/millrace/wire/ProtocolWriter" "position" "I" (.int Pj)) (Fj10 : own_Y Z h' tj nj), own_Goes p e below (fun o U' => ∃ v L, o = .returned v ∧ Q0 Z p1 p2 p3 p4 p5 h0 n0 v U'.heap L ∧ FrameEnd s o U' L room_1.cells room_1.slots) T' (mkF m 129 #[own_jv p1, .second, own_jv p2, .second, iv p3, iv p4, iv p5, iv (0 : Int32), iv (0 : Int32), iv z40, iv z57, iv z74, rv b1, rv b4, rv b8, .unset, .unset, .unset, .unset, .unset] []) by
        refine own_st (T' := T13) (g' := (mkF m 118 #[own_jv p1, .second, own_jv p2, .second, iv p3, iv p4, iv p5, iv (0 : Int32), iv (0 : Int32), iv z40, iv z57, iv z74, rv b1, rv b4, rv b8, .unset, .unset, .unset, .unset, .unset] [(.int z40)])) (fun _ k => XS.iload X13.here hx rfl (hb hby at_116) rfl k) ?_
        by_cases hc118 : z40 = (0 : Int32)
        · refine own_st (T' := T13) (g' := (mkF m 129 #[own_jv p1, .second, own_jv p2, .second, iv p3, iv p4, iv p5, iv (0 : Int32), iv (0 : Int32), iv z40, iv z57, iv z74, rv b1, rv b4, rv b8, .unset, .unset, .unset, .unset, .unset] [])) (fun _ k => XS.ifYes X13.here hx rfl (pc0 := 118) (pc' := 129) rfl (hb hby at_118) rfl ((if0 _ _).trans (teq hc118).1) (by decide) (by decide) k) ?_
          exact J129 _ _ _ _ _ _ _ _ _ (X13.more (by decide) (by decide)) rfl N13 Zs13 gn_t13 ne_b1_t13 ne_b4_t13 ne_b8_t13 ne_wo13_t13 (by decide) (by decide) (by decide) (by decide) (by omega) (by omega) Fa14 Fa15 S13_0 S13_1 S13_2 S13_3 S13_4 S13_5 S13_6 S13_7 S13_8
        · refine own_st (T' := T13) (g' := (mkF m 121 #[own_jv p1, .second, own_jv p2, .second, iv p3, iv p4, iv p5, iv (0 : Int32), iv (0 : Int32), iv z40, iv z57, iv z74, rv b1, rv b4, rv b8, .unset, .unset, .unset, .unset, .unset] [])) (fun _ k => XS.ifNo X13.here hx rfl (hb hby at_118) rfl ((if0 _ _).trans (feq hc118).1) k) ?_
          refine own_st (T' := T13) (g' := (mkF m 123 #[own_jv p1, .second, own_jv p2, .second, iv p3, iv p4, iv p5, iv (0 : Int32), iv (0 : Int32), iv z40, iv z57, iv z74, rv b1, rv b4, rv b8, .unset, .unset, .unset, .unset, .unset] [(.ref b8)])) (fun _ k => XS.aload X13.here hx rfl (hb hby at_121) rfl rfl k) ?_
          refine own_st (T' := T13) (g' := (mkF m 124 #[own_jv p1, .second, own_jv p2, .second, iv p3, iv p4, iv p5, iv (0 : Int32), iv (0 : Int32), iv z40, iv z57, iv z74, rv b1, rv b4, rv b8, .unset, .unset, .unset, .unset, .unset] [(.long p1), (.ref b8)])) (fun _ k => XS.lloadN X13.here hx rfl (hb hby at_123) rfl k) ?_
          refine own_st (T' := T13) (g' := (mkF m 125 #[own_jv p1, .second, own_jv p2, .second, iv p3, iv p4, iv p5, iv (0 : Int32), iv (0 : Int32), iv z40, iv z57, iv z74, rv b1, rv b4, rv b8, .unset, .unset, .unset, .unset, .unset] [.null, (.long p1), (.ref b8)])) (fun _ k => XS.aconstNull X13.here hx rfl (hb hby at_124) k) ?_
          refine own_st (T' := T13) (g' := (mkF m 126 #[own_jv p1, .second, own_jv p2, .second, iv p3, iv p4, iv p5, iv (0 : Int32), iv (0 : Int32), iv z40, iv z57, iv z74, rv b1, rv b4, rv b8, .unset, .unset, .unset, .unset, .unset] [.null, .null, (.long p1), (.ref b8)])) (fun _ k => XS.aconstNull X13.here hx rfl (hb hby at_125) k) ?_
          obtain ⟨cq16, kq16, q16a, q16b, q16c⟩ := isOf hZ rfl S13_0
          obtain ⟨v16, T16, L16, X16, hQ16, st16⟩ := own_packV (X13.virtualBack hx (y := (⟨"com/example/millrace/millrace/wire/RecordBatchBuilder", "append", "(J[B[B)V"⟩ : MethodName)) (z := (⟨"com/example/millrace/millrace/wire/RecordBatchBuilder", "append", "(J[B[B)V"⟩ : MethodName)) hown (mvT hZ (hw _ (List.mem_of_getElem? (i := 58) rfl))) (mvT hZ (hw _ (List.mem_of_getElem? (i := 59) rfl))) (notFace_of_selects (args := #[]) (mvT hZ (hw _ (List.mem_of_getElem? (i := 61) rfl)))) (mvT hZ (hw _ (List.mem_of_getElem? (i := 61) rfl))) (mvT hZ (hw _ (List.mem_of_getElem? (i := 60) rfl))) (by decide) (backOf (W := 0) (rm10_11 l Z a0 hw [] b8 p1 wo13 t13 (0 : Int64) (0 : Int64) (0 : Int32) (61 : Int32) nn13 T13.heap n0 Zs13 S13_0 S13_1 S13_2 S13_3 S13_4 S13_5 S13_6 S13_7 S13_8 gn_b8 gn_wo13 gn_t13 ne_b8_wo13 ne_b8_t13 ne_wo13_t13 (by decide) (by decide) (by decide) (by decide) (by omega) (by omega)) hZ (hw _ (List.mem_of_getElem? (i := 62) rfl)) (hw _ (List.mem_of_getElem? (i := 3) rfl)) (by decide) (by decide)) q16a q16c (g := (mkF m 126 #[own_jv p1, .second, own_jv p2, .second, iv p3, iv p4, iv p5, iv (0 : Int32), iv (0 : Int32), iv z40, iv z57, iv z74, rv b1, rv b4, rv b8, .unset, .unset, .unset, .unset, .unset] [.null, .null, (.long p1), (.ref b8)])) rfl (by rw [hml]; rfl) (Steps.refl _) (argsL := [(.long p1), .null, .null]) (rest := []) (lenOf own_pd0_1 rfl) rfl (by show 2 * 0 + _ ≤ _; exact Nat.le_of_eq rfl) (hb hby at_126) (fun _ _ => ⟨rfl, rfl, (by decide : 6 + 1 ≤ _), (by decide : 4313 + 2190 ≤ _)⟩))
          obtain ⟨rfl, N16q, Kq16, t16, nn16, P16, bt16, mt16, ht16, gn_t16, hA16, hB16, hC16, hD16, SS16⟩ := hQ16
          obtain ⟨lc16, X16, N16⟩ := own_loc X16 (Fr.app N13 N16q)
          have ne_b1_t16 : b1 ≠ t16 := own_sep ht16 ne_b1_t13 Fa14.lt
          have ne_b4_t16 : b4 ≠ t16 := own_sep ht16 ne_b4_t13 Fa15.lt
          have ne_b8_t16 : b8 ≠ t16 := own_sep ht16 ne_b8_t13 S13_0.lt
          have ne_wo13_t16 : wo13 ≠ t16 := own_sep ht16 ne_wo13_t13 S13_5.lt
          have Zs16 : n0 ≤ T16.heap.size := Nat.le_trans Zs13 Kq16.1
          have Fa17 : own_Y Z T16.heap b1 z57 := Fa14.keep Kq16 (ninS ne_b1_b8 (ninS ne_b1_wo13 (ninS ne_b1_t13 nin0)))
          have Fa18 : own_Y Z T16.heap b4 z74 := Fa15.keep Kq16 (ninS ne_b4_b8 (ninS ne_b4_wo13 (ninS ne_b4_t13 nin0)))
          obtain ⟨S16_0, S16_1, S16_2, S16_3, S16_4, S16_5, S16_6, S16_7, S16_8⟩ := SS16
          refine own_st (T' := T16) (g' := (mkF m 129 #[own_jv p1, .second, own_jv p2, .second, iv p3, iv p4, iv p5, iv (0 : Int32), iv (0 : Int32), iv z40, iv z57, iv z74, rv b1, rv b4, rv b8, .unset, .unset, .unset, .unset, .unset] [])) (fun _ k => (st16) _ k) ?_
          exact J129 _ _ _ _ _ _ _ _ _ X16 rfl N16 Zs16 gn_t16 ne_b1_t16 ne_b4_t16 ne_b8_t16 ne_wo13_t16 (by decide) (by decide) (own_j1 hA16) (own_j2 hB16) hD16 (own_j3 hC16 (by omega)) Fa17 Fa18 S16_0 S16_1 S16_2 S16_3 S16_4 S16_5 S16_6 S16_7 S16_8
      intro TJ hJ lcJ tj btj mtj cj Pj nj XJ eJ NJ ZJ gn_tj ne_b1_tj ne_b4_tj ne_b8_tj ne_wo13_tj hc0 hc1 hP0 hP1 hn0 hn1 Fj0 Fj1 Fj2 Fj3 Fj4 Fj5 Fj6 Fj7 Fj8 Fj9 Fj10
      refine own_st (T' := TJ) (g' := (mkF m 131 #[own_jv p1, .second, own_jv p2, .second, iv p3, iv p4, iv p5, iv (0 : Int32), iv (0 : Int32), iv z40, iv z57, iv z74, rv b1, rv b4, rv b8, .unset, .unset, .unset, .unset, .unset] [(.ref b8)])) (fun _ k => XS.aload XJ.here hx rfl (hb hby at_129) rfl rfl k) ?_
      obtain ⟨cq19, kq19, q19a, q19b, q19c⟩ := isOf hZ eJ Fj2
      obtain ⟨v19, T19, L19, X19, hQ19, st19⟩ := own_packV (XJ.virtualBack hx (y := (⟨"com/example/millrace/millrace/wire/RecordBatchBuilder", "sizeInBytes", "()I"⟩ : MethodName)) (z := (⟨"com/example/millrace/millrace/wire/RecordBatchBuilder", "sizeInBytes", "()I"⟩ : MethodName)) hown (mvT hZ (hw _ (List.mem_of_getElem? (i := 48) rfl))) (mvT hZ (hw _ (List.mem_of_getElem? (i := 49) rfl))) (notFace_of_selects (args := #[]) (mvT hZ (hw _ (List.mem_of_getElem? (i := 51) rfl)))) (mvT hZ (hw _ (List.mem_of_getElem? (i := 51) rfl))) (mvT hZ (hw _ (List.mem_of_getElem? (i := 50) rfl))) (by decide) (backOf (W := 0) (rm8 l Z a0 hw [] b8 wo13 Pj hJ n0 ZJ Fj3 Fj7 Fj9) hZ (hw _ (List.mem_of_getElem? (i := 52) rfl)) (hw _ (List.mem_of_getElem? (i := 3) rfl)) (by decide) (by decide)) q19a q19c (g := (mkF m 131 #[own_jv p1, .second, own_jv p2, .second, iv p3, iv p4, iv p5, iv (0 : Int32), iv (0 : Int32), iv z40, iv z57, iv z74, rv b1, rv b4, rv b8, .unset, .unset, .unset, .unset, .unset] [(.ref b8)])) rfl (by rw [hml]; rfl) (Steps.refl _) (argsL := []) (rest := []) (lenOf own_pd0_2 rfl) rfl (by show 2 * 0 + _ ≤ _; exact Nat.le_of_eq rfl) (hb hby at_131) (fun _ _ => ⟨rfl, eJ, (by decide : 7 + 0 ≤ _), (by decide : 6503 + 0 ≤ _)⟩))
      obtain ⟨rfl, N19q, e19⟩ := hQ19
      obtain ⟨lc19, X19, N19⟩ := own_loc X19 (Fr.app NJ N19q)
      refine own_st (T' := T19) (g' := (mkF m 134 #[own_jv p1, .second, own_jv p2, .second, iv p3, iv p4, iv p5, iv (0 : Int32), iv (0 : Int32), iv z40, iv z57, iv z74, rv b1, rv b4, rv b8, .unset, .unset, .unset, .unset, .unset] [(.int Pj)])) (fun _ k => (st19) _ k) ?_
      refine own_st (T' := T19) (g' := (mkF m 136 #[own_jv p1, .second, own_jv p2, .second, iv p3, iv p4, iv p5, iv (0 : Int32), iv (0 : Int32), iv z40, iv z57, iv z74, rv b1, rv b4, rv b8, iv Pj, .unset, .unset, .unset, .unset] [])) (fun _ k => XS.istore X19.here hx rfl (hb hby at_134) rfl (l' := #[own_jv p1, .second, own_jv p2, .second, iv p3, iv p4, iv p5, iv (0 : Int32), iv (0 : Int32), iv z40, iv z57, iv z74, rv b1, rv b4, rv b8, iv Pj, .unset, .unset, .unset, .unset]) rfl k) ?_
      refine own_st (T' := T19) (g' := (mkF m 138 #[own_jv p1, .second, own_jv p2, .second, iv p3, iv p4, iv p5, iv (0 : Int32), iv (0 : Int32), iv z40, iv z57, iv z74, rv b1, rv b4, rv b8, iv Pj, .unset, .unset, .unset, .unset] [(.ref b8)])) (fun _ k => XS.aload X19.here hx rfl (hb hby at_136) rfl rfl k) ?_
      refine own_st (T' := T19) (g' := (mkF m 139 #[own_jv p1, .second, own_jv p2, .second, iv p3, iv p4, iv p5, iv (0 : Int32), iv (0 : Int32), iv z40, iv z57, iv z74, rv b1, rv b4, rv b8, iv Pj, .unset, .unset, .unset, .unset] [(.long p2), (.ref b8)])) (fun _ k => XS.lloadN X19.here hx rfl (hb hby at_138) rfl k) ?_
      refine own_st (T' := T19) (g' := (mkF m 141 #[own_jv p1, .second, own_jv p2, .second, iv p3, iv p4, iv p5, iv (0 : Int32), iv (0 : Int32), iv z40, iv z57, iv z74, rv b1, rv b4, rv b8, iv Pj, .unset, .unset, .unset, .unset] [(.ref b1), (.long p2), (.ref b8)])) (fun _ k => XS.aload X19.here hx rfl (hb hby at_139) rfl rfl k) ?_
      refine own_st (T' := T19) (g' := (mkF m 143 #[own_jv p1, .second, own_jv p2, .second, iv p3, iv p4, iv p5, iv (0 : Int32), iv (0 : Int32), iv z40, iv z57, iv z74, rv b1, rv b4, rv b8, iv Pj, .unset, .unset, .unset, .unset] [(.ref b4), (.ref b1), (.long p2), (.ref b8)])) (fun _ k => XS.aload X19.here hx rfl (hb hby at_141) rfl rfl k) ?_
      obtain ⟨cq20, kq20, q20a, q20b, q20c⟩ := isOf hZ e19 Fj2
      obtain ⟨v20, T20, L20, X20, hQ20, st20⟩ := own_packV (X19.virtualBack hx (y := (⟨"com/example/millrace/millrace/wire/RecordBatchBuilder", "append", "(J[B[B)V"⟩ : MethodName)) (z := (⟨"com/example/millrace/millrace/wire/RecordBatchBuilder", "append", "(J[B[B)V"⟩ : MethodName)) hown (mvT hZ (hw _ (List.mem_of_getElem? (i := 58) rfl))) (mvT hZ (hw _ (List.mem_of_getElem? (i := 59) rfl))) (notFace_of_selects (args := #[]) (mvT hZ (hw _ (List.mem_of_getElem? (i := 61) rfl)))) (mvT hZ (hw _ (List.mem_of_getElem? (i := 61) rfl))) (mvT hZ (hw _ (List.mem_of_getElem? (i := 60) rfl))) (by decide) (backOf (W := 0) (rm10_00 l Z a0 hw [] b8 p2 b1 b4 wo13 tj btj mtj cj Pj nj z57 z74 hJ n0 ZJ Fj2 Fj3 Fj4 Fj5 Fj6 Fj7 Fj8 Fj9 Fj10 Fj0 Fj1 gn_b8 gn_wo13 gn_tj ne_b8_wo13 ne_b8_tj ne_wo13_tj (Ne.symm ne_b1_b8) (Ne.symm ne_b1_wo13) (Ne.symm ne_b1_tj) (Ne.symm ne_b4_b8) (Ne.symm ne_b4_wo13) (Ne.symm ne_b4_tj) (by omega) (by omega) (by omega) (by omega) (by omega) (by omega) (by omega) (by omega) (by omega) (by omega)) hZ (hw _ (List.mem_of_getElem? (i := 62) rfl)) (hw _ (List.mem_of_getElem? (i := 3) rfl)) (by decide) (by decide)) q20a q20c (g := (mkF m 143 #[own_jv p1, .second, own_jv p2, .second, iv p3, iv p4, iv p5, iv (0 : Int32), iv (0 : Int32), iv z40, iv z57, iv z74, rv b1, rv b4, rv b8, iv Pj, .unset, .unset, .unset, .unset] [(.ref b4), (.ref b1), (.long p2), (.ref b8)])) rfl (by rw [hml]; rfl) (Steps.refl _) (argsL := [(.long p2), (.ref b1), (.ref b4)]) (rest := []) (lenOf own_pd0_1 rfl) rfl (by show 2 * 0 + _ ≤ _; exact Nat.le_of_eq rfl) (hb hby at_143) (fun _ _ => ⟨rfl, e19, (by decide : 7 + 1 ≤ _), (by decide : 6503 + 2190 ≤ _)⟩))
      obtain ⟨rfl, N20q, Kq20, t20, nn20, P20, bt20, mt20, ht20, gn_t20, hA20, hB20, hC20, hD20, SS20⟩ := hQ20
      obtain ⟨lc20, X20, N20⟩ := own_loc X20 (Fr.app N19 N20q)
      have ne_b1_t20 : b1 ≠ t20 := own_sep ht20 ne_b1_tj Fj0.lt
      have ne_b4_t20 : b4 ≠ t20 := own_sep ht20 ne_b4_tj Fj1.lt
      have ne_b8_t20 : b8 ≠ t20 := own_sep ht20 ne_b8_tj Fj2.lt
      have ne_wo13_t20 : wo13 ≠ t20 := own_sep ht20 ne_wo13_tj Fj7.lt
      have Zs20 : n0 ≤ T20.heap.size := Nat.le_trans ZJ Kq20.1
      have Fa21 : own_Y Z T20.heap b1 z57 := Fj0.keep Kq20 (ninS ne_b1_b8 (ninS ne_b1_wo13 (ninS ne_b1_tj nin0)))
      have Fa22 : own_Y Z T20.heap b4 z74 := Fj1.keep Kq20 (ninS ne_b4_b8 (ninS ne_b4_wo13 (ninS ne_b4_tj nin0)))
      obtain ⟨S20_0, S20_1, S20_2, S20_3, S20_4, S20_5, S20_6, S20_7, S20_8⟩ := SS20
      refine own_st (T' := T20) (g' := (mkF m 146 #[own_jv p1, .second, own_jv p2, .second, iv p3, iv p4, iv p5, iv (0 : Int32), iv (0 : Int32), iv z40, iv z57, iv z74, rv b1, rv b4, rv b8, iv Pj, .unset, .unset, .unset, .unset] [])) (fun _ k => (st20) _ k) ?_
      refine own_st (T' := T20) (g' := (mkF m 148 #[own_jv p1, .second, own_jv p2, .second, iv p3, iv p4, iv p5, iv (0 : Int32), iv (0 : Int32), iv z40, iv z57, iv z74, rv b1, rv b4, rv b8, iv Pj, .unset, .unset, .unset, .unset] [(.ref b8)])) (fun _ k => XS.aload X20.here hx rfl (hb hby at_146) rfl rfl k) ?_
      obtain ⟨cq23, kq23, q23a, q23b, q23c⟩ := isOf hZ rfl S20_0
      obtain ⟨v23, T23, L23, X23, hQ23, st23⟩ := own_packV (X20.virtualBack hx (y := (⟨"com/example/millrace/millrace/wire/RecordBatchBuilder", "sizeInBytes", "()I"⟩ : MethodName)) (z := (⟨"com/example/millrace/millrace/wire/RecordBatchBuilder", "sizeInBytes", "()I"⟩ : MethodName)) hown (mvT hZ (hw _ (List.mem_of_getElem? (i := 48) rfl))) (mvT hZ (hw _ (List.mem_of_getElem? (i := 49) rfl))) (notFace_of_selects (args := #[]) (mvT hZ (hw _ (List.mem_of_getElem? (i := 51) rfl)))) (mvT hZ (hw _ (List.mem_of_getElem? (i := 51) rfl))) (mvT hZ (hw _ (List.mem_of_getElem? (i := 50) rfl))) (by decide) (backOf (W := 0) (rm8 l Z a0 hw [] b8 wo13 P20 T20.heap n0 Zs20 S20_1 S20_5 S20_7) hZ (hw _ (List.mem_of_getElem? (i := 52) rfl)) (hw _ (List.mem_of_getElem? (i := 3) rfl)) (by decide) (by decide)) q23a q23c (g := (mkF m 148 #[own_jv p1, .second, own_jv p2, .second, iv p3, iv p4, iv p5, iv (0 : Int32), iv (0 : Int32), iv z40, iv z57, iv z74, rv b1, rv b4, rv b8, iv Pj, .unset, .unset, .unset, .unset] [(.ref b8)])) rfl (by rw [hml]; rfl) (Steps.refl _) (argsL := []) (rest := []) (lenOf own_pd0_2 rfl) rfl (by show 2 * 0 + _ ≤ _; exact Nat.le_of_eq rfl) (hb hby at_148) (fun _ _ => ⟨rfl, rfl, (by decide : 8 + 0 ≤ _), (by decide : 8693 + 0 ≤ _)⟩))
      obtain ⟨rfl, N23q, e23⟩ := hQ23
      obtain ⟨lc23, X23, N23⟩ := own_loc X23 (Fr.app N20 N23q)
      refine own_st (T' := T23) (g' := (mkF m 151 #[own_jv p1, .second, own_jv p2, .second, iv p3, iv p4, iv p5, iv (0 : Int32), iv (0 : Int32), iv z40, iv z57, iv z74, rv b1, rv b4, rv b8, iv Pj, .unset, .unset, .unset, .unset] [(.int P20)])) (fun _ k => (st23) _ k) ?_
      refine own_st (T' := T23) (g' := (mkF m 153 #[own_jv p1, .second, own_jv p2, .second, iv p3, iv p4, iv p5, iv (0 : Int32), iv (0 : Int32), iv z40, iv z57, iv z74, rv b1, rv b4, rv b8, iv Pj, .unset, .unset, .unset, .unset] [(.int Pj), (.int P20)])) (fun _ k => XS.iload X23.here hx rfl (hb hby at_151) rfl k) ?_
      refine own_st (T' := T23) (g' := (mkF m 154 #[own_jv p1, .second, own_jv p2, .second, iv p3, iv p4, iv p5, iv (0 : Int32), iv (0 : Int32), iv z40, iv z57, iv z74, rv b1, rv b4, rv b8, iv Pj, .unset, .unset, .unset, .unset] [(.int (P20 - Pj))])) (fun _ k => XS.isub X23.here hx rfl (hb hby at_153) rfl k) ?_
      refine own_st (T' := T23) (g' := (mkF m 156 #[own_jv p1, .second, own_jv p2, .second, iv p3, iv p4, iv p5, iv (0 : Int32), iv (0 : Int32), iv z40, iv z57, iv z74, rv b1, rv b4, rv b8, iv Pj, iv (P20 - Pj), .unset, .unset, .unset] [])) (fun _ k => XS.istore X23.here hx rfl (hb hby at_154) rfl (l' := #[own_jv p1, .second, own_jv p2, .second, iv p3, iv p4, iv p5, iv (0 : Int32), iv (0 : Int32), iv z40, iv z57, iv z74, rv b1, rv b4, rv b8, iv Pj, iv (P20 - Pj), .unset, .unset, .unset]) rfl k) ?_
      refine own_st (T' := T23) (g' := (mkF m 158 #[own_jv p1, .second, own_jv p2, .second, iv p3, iv p4, iv p5, iv (0 : Int32), iv (0 : Int32), iv z40, iv z57, iv z74, rv b1, rv b4, rv b8, iv Pj, iv (P20 - Pj), .unset, .unset, .unset] [(.ref b1)])) (fun _ k => XS.aload X23.here hx rfl (hb hby at_156) rfl rfl k) ?_
      refine own_st (T' := T23) (g' := (mkF m 160 #[own_jv p1, .second, own_jv p2, .second, iv p3, iv p4, iv p5, iv (0 : Int32), iv (0 : Int32), iv z40, iv z57, iv z74, rv b1, rv b4, rv b8, iv Pj, iv (P20 - Pj), .unset, .unset, .unset] [(.ref b4), (.ref b1)])) (fun _ k => XS.aload X23.here hx rfl (hb hby at_158) rfl rfl k) ?_
      obtain ⟨v24, T24, L24, X24, hQ24, st24⟩ := own_packS (Jvm.LawKit.callS X23 hx (y := (⟨"com/example/millrace/millrace/wire/RecordBatchBuilder", "maxRecordSize", "([B[B)I"⟩ : MethodName)) hown (mvT hZ (hw _ (List.mem_of_getElem? (i := 120) rfl))) (mvT hZ (hw _ (List.mem_of_getElem? (i := 121) rfl))) (mvT hZ (hw _ (List.mem_of_getElem? (i := 3) rfl))) (mvT hZ (hw _ (List.mem_of_getElem? (i := 122) rfl))) (by decide) (backOf (W := 0) (rm24_00 l Z a0 hw [] b1 b4 z57 z74 T20.heap n0 Zs20 Fa21 Fa22) hZ (hw _ (List.mem_of_getElem? (i := 122) rfl)) (hw _ (List.mem_of_getElem? (i := 3) rfl)) (by decide) (by decide)) (g := (mkF m 160 #[own_jv p1, .second, own_jv p2, .second, iv p3, iv p4, iv p5, iv (0 : Int32), iv (0 : Int32), iv z40, iv z57, iv z74, rv b1, rv b4, rv b8, iv Pj, iv (P20 - Pj), .unset, .unset, .unset] [(.ref b4), (.ref b1)])) rfl (by rw [hml]; rfl) (argsL := [(.ref b1), (.ref b4)]) (rest := []) (lenOf own_pd0_3 rfl) rfl (by show 2 * 0 + _ ≤ _; exact Nat.le_of_eq rfl) (hb hby at_160) (fun _ _ => ⟨rfl, e23, (by decide : 8 + 0 ≤ _), (by decide : 8693 + 0 ≤ _)⟩))
      obtain ⟨rfl, N24q, e24⟩ := hQ24
      obtain ⟨lc24, X24, N24⟩ := own_loc X24 (Fr.app N23 N24q)
      refine own_st (T' := T24) (g' := (mkF m 163 #[own_jv p1, .second, own_jv p2, .second, iv p3, iv p4, iv p5, iv (0 : Int32), iv (0 : Int32), iv z40, iv z57, iv z74, rv b1, rv b4, rv b8, iv Pj, iv (P20 - Pj), .unset, .unset, .unset] [(.int (((((26 : Int32) + z57) + (5 : Int32)) + z74) + (1 : Int32)))])) (fun _ k => (st24) _ k) ?_
      generalize hz163 : (((((26 : Int32) + z57) + (5 : Int32)) + z74) + (1 : Int32)) = z163
      refine own_st (T' := T24) (g' := (mkF m 165 #[own_jv p1, .second, own_jv p2, .second, iv p3, iv p4, iv p5, iv (0 : Int32), iv (0 : Int32), iv z40, iv z57, iv z74, rv b1, rv b4, rv b8, iv Pj, iv (P20 - Pj), iv z163, .unset, .unset] [])) (fun _ k => XS.istore X24.here hx rfl (hb hby at_163) rfl (l' := #[own_jv p1, .second, own_jv p2, .second, iv p3, iv p4, iv p5, iv (0 : Int32), iv (0 : Int32), iv z40, iv z57, iv z74, rv b1, rv b4, rv b8, iv Pj, iv (P20 - Pj), iv z163, .unset, .unset]) rfl k) ?_
      refine own_st (T' := T24) (g' := (mkF m 166 #[own_jv p1, .second, own_jv p2, .second, iv p3, iv p4, iv p5, iv (0 : Int32), iv (0 : Int32), iv z40, iv z57, iv z74, rv b1, rv b4, rv b8, iv Pj, iv (P20 - Pj), iv z163, .unset, .unset] [.null])) (fun _ k => XS.aconstNull X24.here hx rfl (hb hby at_165) k) ?_
      refine own_st (T' := T24) (g' := (mkF m 167 #[own_jv p1, .second, own_jv p2, .second, iv p3, iv p4, iv p5, iv (0 : Int32), iv (0 : Int32), iv z40, iv z57, iv z74, rv b1, rv b4, rv b8, iv Pj, iv (P20 - Pj), iv z163, .unset, .unset] [.null, .null])) (fun _ k => XS.aconstNull X24.here hx rfl (hb hby at_166) k) ?_
      obtain ⟨v25, T25, L25, X25, hQ25, st25⟩ := own_packS (Jvm.LawKit.callS X24 hx (y := (⟨"com/example/millrace/millrace/wire/RecordBatchBuilder", "maxRecordSize", "([B[B)I"⟩ : MethodName)) hown (mvT hZ (hw _ (List.mem_of_getElem? (i := 120) rfl))) (mvT hZ (hw _ (List.mem_of_getElem? (i := 121) rfl))) (mvT hZ (hw _ (List.mem_of_getElem? (i := 3) rfl))) (mvT hZ (hw _ (List.mem_of_getElem? (i := 122) rfl))) (by decide) (backOf (W := 0) (rm24_11 l Z a0 hw []  T20.heap n0 Zs20 ) hZ (hw _ (List.mem_of_getElem? (i := 122) rfl)) (hw _ (List.mem_of_getElem? (i := 3) rfl)) (by decide) (by decide)) (g := (mkF m 167 #[own_jv p1, .second, own_jv p2, .second, iv p3, iv p4, iv p5, iv (0 : Int32), iv (0 : Int32), iv z40, iv z57, iv z74, rv b1, rv b4, rv b8, iv Pj, iv (P20 - Pj), iv z163, .unset, .unset] [.null, .null])) rfl (by rw [hml]; rfl) (argsL := [.null, .null]) (rest := []) (lenOf own_pd0_3 rfl) rfl (by show 2 * 0 + _ ≤ _; exact Nat.le_of_eq rfl) (hb hby at_167) (fun _ _ => ⟨rfl, e24, (by decide : 8 + 0 ≤ _), (by decide : 8693 + 0 ≤ _)⟩))
      obtain ⟨rfl, N25q, e25⟩ := hQ25
      obtain ⟨lc25, X25, N25⟩ := own_loc X25 (Fr.app N24 N25q)
      refine own_st (T' := T25) (g' := (mkF m 170 #[own_jv p1, .second, own_jv p2, .second, iv p3, iv p4, iv p5, iv (0 : Int32), iv (0 : Int32), iv z40, iv z57, iv z74, rv b1, rv b4, rv b8, iv Pj, iv (P20 - Pj), iv z163, .unset, .unset] [(.int (((((26 : Int32) + (0 : Int32)) + (5 : Int32)) + (0 : Int32)) + (1 : Int32)))])) (fun _ k => (st25) _ k) ?_
      refine own_st (T' := T25) (g' := (mkF m 172 #[own_jv p1, .second, own_jv p2, .second, iv p3, iv p4, iv p5, iv (0 : Int32), iv (0 : Int32), iv z40, iv z57, iv z74, rv b1, rv b4, rv b8, iv Pj, iv (P20 - Pj), iv z163, iv (((((26 : Int32) + (0 : Int32)) + (5 : Int32)) + (0 : Int32)) + (1 : Int32)), .unset] [])) (fun _ k => XS.istore X25.here hx rfl (hb hby at_170) rfl (l' := #[own_jv p1, .second, own_jv p2, .second, iv p3, iv p4, iv p5, iv (0 : Int32), iv (0 : Int32), iv z40, iv z57, iv z74, rv b1, rv b4, rv b8, iv Pj, iv (P20 - Pj), iv z163, iv (((((26 : Int32) + (0 : Int32)) + (5 : Int32)) + (0 : Int32)) + (1 : Int32)), .unset]) rfl k) ?_
      refine own_st (T' := T25) (g' := (mkF m 174 #[own_jv p1, .second, own_jv p2, .second, iv p3, iv p4, iv p5, iv (0 : Int32), iv (0 : Int32), iv z40, iv z57, iv z74, rv b1, rv b4, rv b8, iv Pj, iv (P20 - Pj), iv z163, iv (((((26 : Int32) + (0 : Int32)) + (5 : Int32)) + (0 : Int32)) + (1 : Int32)), .unset] [(.int (32 : Int32))])) (fun _ k => XS.bipush X25.here hx rfl (hb hby at_172) k) ?_
      refine own_st (T' := T25) (g' := (mkF m 176 #[own_jv p1, .second, own_jv p2, .second, iv p3, iv p4, iv p5, iv (0 : Int32), iv (0 : Int32), iv z40, iv z57, iv z74, rv b1, rv b4, rv b8, iv Pj, iv (P20 - Pj), iv z163, iv (((((26 : Int32) + (0 : Int32)) + (5 : Int32)) + (0 : Int32)) + (1 : Int32)), iv (32 : Int32)] [])) (fun _ k => XS.istore X25.here hx rfl (hb hby at_174) rfl (l' := #[own_jv p1, .second, own_jv p2, .second, iv p3, iv p4, iv p5, iv (0 : Int32), iv (0 : Int32), iv z40, iv z57, iv z74, rv b1, rv b4, rv b8, iv Pj, iv (P20 - Pj), iv z163, iv (((((26 : Int32) + (0 : Int32)) + (5 : Int32)) + (0 : Int32)) + (1 : Int32)), iv (32 : Int32)]) rfl k) ?_
      refine own_st (T' := T25) (g' := (mkF m 178 #[own_jv p1, .second, own_jv p2, .second, iv p3, iv p4, iv p5, iv (0 : Int32), iv (0 : Int32), iv z40, iv z57, iv z74, rv b1, rv b4, rv b8, iv Pj, iv (P20 - Pj), iv z163, iv (((((26 : Int32) + (0 : Int32)) + (5 : Int32)) + (0 : Int32)) + (1 : Int32)), iv (32 : Int32)] [(.int (((((26 : Int32) + (0 : Int32)) + (5 : Int32)) + (0 : Int32)) + (1 : Int32)))])) (fun _ k => XS.iload X25.here hx rfl (hb hby at_176) rfl k) ?_
      refine own_st (T' := T25) (g' := (mkF m 180 #[own_jv p1, .second, own_jv p2, .second, iv p3, iv p4, iv p5, iv (0 : Int32), iv (0 : Int32), iv z40, iv z57, iv z74, rv b1, rv b4, rv b8, iv Pj, iv (P20 - Pj), iv z163, iv (((((26 : Int32) + (0 : Int32)) + (5 : Int32)) + (0 : Int32)) + (1 : Int32)), iv (32 : Int32)] [(.int (32 : Int32)), (.int (((((26 : Int32) + (0 : Int32)) + (5 : Int32)) + (0 : Int32)) + (1 : Int32)))])) (fun _ k => XS.iload X25.here hx rfl (hb hby at_178) rfl k) ?_
      refine own_st (T' := T25) (g' := (mkF m 183 #[own_jv p1, .second, own_jv p2, .second, iv p3, iv p4, iv p5, iv (0 : Int32), iv (0 : Int32), iv z40, iv z57, iv z74, rv b1, rv b4, rv b8, iv Pj, iv (P20 - Pj), iv z163, iv (((((26 : Int32) + (0 : Int32)) + (5 : Int32)) + (0 : Int32)) + (1 : Int32)), iv (32 : Int32)] [])) (fun _ k => XS.icmpNo X25.here hx rfl (hb hby at_180) rfl (teq (by decide : (((((26 : Int32) + (0 : Int32)) + (5 : Int32)) + (0 : Int32)) + (1 : Int32)) = (32 : Int32))).2 k) ?_
      refine own_st (T' := T25) (g' := (mkF m 185 #[own_jv p1, .second, own_jv p2, .second, iv p3, iv p4, iv p5, iv (0 : Int32), iv (0 : Int32), iv z40, iv z57, iv z74, rv b1, rv b4, rv b8, iv Pj, iv (P20 - Pj), iv z163, iv (((((26 : Int32) + (0 : Int32)) + (5 : Int32)) + (0 : Int32)) + (1 : Int32)), iv (32 : Int32)] [(.int z163)])) (fun _ k => XS.iload X25.here hx rfl (hb hby at_183) rfl k) ?_
      refine own_st (T' := T25) (g' := (mkF m 187 #[own_jv p1, .second, own_jv p2, .second, iv p3, iv p4, iv p5, iv (0 : Int32), iv (0 : Int32), iv z40, iv z57, iv z74, rv b1, rv b4, rv b8, iv Pj, iv (P20 - Pj), iv z163, iv (((((26 : Int32) + (0 : Int32)) + (5 : Int32)) + (0 : Int32)) + (1 : Int32)), iv (32 : Int32)] [(.int (((((26 : Int32) + (0 : Int32)) + (5 : Int32)) + (0 : Int32)) + (1 : Int32))), (.int z163)])) (fun _ k => XS.iload X25.here hx rfl (hb hby at_185) rfl k) ?_
      refine own_st (T' := T25) (g' := (mkF m 188 #[own_jv p1, .second, own_jv p2, .second, iv p3, iv p4, iv p5, iv (0 : Int32), iv (0 : Int32), iv z40, iv z57, iv z74, rv b1, rv b4, rv b8, iv Pj, iv (P20 - Pj), iv z163, iv (((((26 : Int32) + (0 : Int32)) + (5 : Int32)) + (0 : Int32)) + (1 : Int32)), iv (32 : Int32)] [(.int (z163 - (((((26 : Int32) + (0 : Int32)) + (5 : Int32)) + (0 : Int32)) + (1 : Int32))))])) (fun _ k => XS.isub X25.here hx rfl (hb hby at_187) rfl k) ?_
      refine own_st (T' := T25) (g' := (mkF m 190 #[own_jv p1, .second, own_jv p2, .second, iv p3, iv p4, iv p5, iv (0 : Int32), iv (0 : Int32), iv z40, iv z57, iv z74, rv b1, rv b4, rv b8, iv Pj, iv (P20 - Pj), iv z163, iv (((((26 : Int32) + (0 : Int32)) + (5 : Int32)) + (0 : Int32)) + (1 : Int32)), iv (32 : Int32)] [(.int z57), (.int (z163 - (((((26 : Int32) + (0 : Int32)) + (5 : Int32)) + (0 : Int32)) + (1 : Int32))))])) (fun _ k => XS.iload X25.here hx rfl (hb hby at_188) rfl k) ?_
      refine own_st (T' := T25) (g' := (mkF m 192 #[own_jv p1, .second, own_jv p2, .second, iv p3, iv p4, iv p5, iv (0 : Int32), iv (0 : Int32), iv z40, iv z57, iv z74, rv b1, rv b4, rv b8, iv Pj, iv (P20 - Pj), iv z163, iv (((((26 : Int32) + (0 : Int32)) + (5 : Int32)) + (0 : Int32)) + (1 : Int32)), iv (32 : Int32)] [(.int z74), (.int z57), (.int (z163 - (((((26 : Int32) + (0 : Int32)) + (5 : Int32)) + (0 : Int32)) + (1 : Int32))))])) (fun _ k => XS.iload X25.here hx rfl (hb hby at_190) rfl k) ?_
      refine own_st (T' := T25) (g' := (mkF m 193 #[own_jv p1, .second, own_jv p2, .second, iv p3, iv p4, iv p5, iv (0 : Int32), iv (0 : Int32), iv z40, iv z57, iv z74, rv b1, rv b4, rv b8, iv Pj, iv (P20 - Pj), iv z163, iv (((((26 : Int32) + (0 : Int32)) + (5 : Int32)) + (0 : Int32)) + (1 : Int32)), iv (32 : Int32)] [(.int (z57 + z74)), (.int (z163 - (((((26 : Int32) + (0 : Int32)) + (5 : Int32)) + (0 : Int32)) + (1 : Int32))))])) (fun _ k => XS.iadd X25.here hx rfl (hb hby at_192) rfl k) ?_
      refine own_st (T' := T25) (g' := (mkF m 196 #[own_jv p1, .second, own_jv p2, .second, iv p3, iv p4, iv p5, iv (0 : Int32), iv (0 : Int32), iv z40, iv z57, iv z74, rv b1, rv b4, rv b8, iv Pj, iv (P20 - Pj), iv z163, iv (((((26 : Int32) + (0 : Int32)) + (5 : Int32)) + (0 : Int32)) + (1 : Int32)), iv (32 : Int32)] [])) (fun _ k => XS.icmpNo X25.here hx rfl (hb hby at_193) rfl (teq (own_fin z57 z74 z163 hk57.1 hk57.2 hk74.1 hk74.2 hz163)).2 k) ?_
      refine own_st (T' := T25) (g' := (mkF m 198 #[own_jv p1, .second, own_jv p2, .second, iv p3, iv p4, iv p5, iv (0 : Int32), iv (0 : Int32), iv z40, iv z57, iv z74, rv b1, rv b4, rv b8, iv Pj, iv (P20 - Pj), iv z163, iv (((((26 : Int32) + (0 : Int32)) + (5 : Int32)) + (0 : Int32)) + (1 : Int32)), iv (32 : Int32)] [(.int (P20 - Pj))])) (fun _ k => XS.iload X25.here hx rfl (hb hby at_196) rfl k) ?_
      refine own_st (T' := T25) (g' := (mkF m 200 #[own_jv p1, .second, own_jv p2, .second, iv p3, iv p4, iv p5, iv (0 : Int32), iv (0 : Int32), iv z40, iv z57, iv z74, rv b1, rv b4, rv b8, iv Pj, iv (P20 - Pj), iv z163, iv (((((26 : Int32) + (0 : Int32)) + (5 : Int32)) + (0 : Int32)) + (1 : Int32)), iv (32 : Int32)] [(.int z163), (.int (P20 - Pj))])) (fun _ k => XS.iload X25.here hx rfl (hb hby at_198) rfl k) ?_
      have hmr := own_mr z57 z74 hk57.1 hk57.2 hk74.1 hk74.2
      rw [hz163] at hmr
      have e00 : (0 : Int32).toInt = 0 := rfl
      refine own_st (T' := T25) (g' := (mkF m 203 #[own_jv p1, .second, own_jv p2, .second, iv p3, iv p4, iv p5, iv (0 : Int32), iv (0 : Int32), iv z40, iv z57, iv z74, rv b1, rv b4, rv b8, iv Pj, iv (P20 - Pj), iv z163, iv (((((26 : Int32) + (0 : Int32)) + (5 : Int32)) + (0 : Int32)) + (1 : Int32)), iv (32 : Int32)] [])) (fun _ k => XS.icmpNo X25.here hx rfl (hb hby at_200) rfl (flt (own_le Pj P20 z163 (z57.toInt + z74.toInt) hP0 (by omega) hA20 (by omega) (by omega) (by omega) (by omega))).2.2.1 k) ?_
      refine own_st (T' := T25) (g' := (mkF m 204 #[own_jv p1, .second, own_jv p2, .second, iv p3, iv p4, iv p5, iv (0 : Int32), iv (0 : Int32), iv z40, iv z57, iv z74, rv b1, rv b4, rv b8, iv Pj, iv (P20 - Pj), iv z163, iv (((((26 : Int32) + (0 : Int32)) + (5 : Int32)) + (0 : Int32)) + (1 : Int32)), iv (32 : Int32)] [(.int (1 : Int32))])) (fun _ k => XS.iconst X25.here hx rfl (hb hby at_203) k) ?_
      refine own_st (T' := T25) (g' := (mkF m 208 #[own_jv p1, .second, own_jv p2, .second, iv p3, iv p4, iv p5, iv (0 : Int32), iv (0 : Int32), iv z40, iv z57, iv z74, rv b1, rv b4, rv b8, iv Pj, iv (P20 - Pj), iv z163, iv (((((26 : Int32) + (0 : Int32)) + (5 : Int32)) + (0 : Int32)) + (1 : Int32)), iv (32 : Int32)] [(.int (1 : Int32))])) (fun _ k => XS.goto X25.here hx rfl (pc0 := 204) (pc' := 208) rfl (hb hby at_204) (by decide) (by decide) k) ?_
      exact own_end (Q := Q0 Z p1 p2 p3 p4 p5 h0 n0) (v := some (.int (nar .boolean (1 : Int32)))) X25 (fun h => by rw [Bd.returns] at h; cases h) (fun fs hr => retN X25 hx (t := .boolean) Bd.returns (by simp) (hb hby at_208) hr) (⟨rfl, N25⟩) (by decide) (by decide)
    · refine own_st (T' := s₁) (g' := (mkF m 21 #[own_jv p1, .second, own_jv p2, .second, iv p3, iv p4, iv p5, iv (0 : Int32), .unset, .unset, .unset, .unset, .unset, .unset, .unset, .unset, .unset, .unset, .unset, .unset] [])) (fun _ k => XS.ifNo X0.here hx rfl (hb hby at_18) rfl ((if0 _ _).trans (feq hc18).1) k) ?_
      refine own_st (T' := s₁) (g' := (mkF m 22 #[own_jv p1, .second, own_jv p2, .second, iv p3, iv p4, iv p5, iv (0 : Int32), .unset, .unset, .unset, .unset, .unset, .unset, .unset, .unset, .unset, .unset, .unset, .unset] [(.int (1 : Int32))])) (fun _ k => XS.iconst X0.here hx rfl (hb hby at_21) k) ?_
      refine own_st (T' := s₁) (g' := (mkF m 26 #[own_jv p1, .second, own_jv p2, .second, iv p3, iv p4, iv p5, iv (0 : Int32), .unset, .unset, .unset, .unset, .unset, .unset, .unset, .unset, .unset, .unset, .unset, .unset] [(.int (1 : Int32))])) (fun _ k => XS.goto X0.here hx rfl (pc0 := 22) (pc' := 26) rfl (hb hby at_22) (by decide) (by decide) k) ?_
      refine own_st (T' := s₁) (g' := (mkF m 28 #[own_jv p1, .second, own_jv p2, .second, iv p3, iv p4, iv p5, iv (0 : Int32), iv (1 : Int32), .unset, .unset, .unset, .unset, .unset, .unset, .unset, .unset, .unset, .unset, .unset] [])) (fun _ k => XS.istore X0.here hx rfl (hb hby at_26) rfl (l' := #[own_jv p1, .second, own_jv p2, .second, iv p3, iv p4, iv p5, iv (0 : Int32), iv (1 : Int32), .unset, .unset, .unset, .unset, .unset, .unset, .unset, .unset, .unset, .unset, .unset]) rfl k) ?_
      suffices JE : ∀ z40 : Int32, own_Goes p e below (fun o U' => ∃ v L, o = .returned v ∧ Q0 Z p1 p2 p3 p4 p5 h0 n0 v U'.heap L ∧ FrameEnd s o U' L room_1.cells room_1.slots) s₁ (mkF m 40 #[own_jv p1, .second, own_jv p2, .second, iv p3, iv p4, iv p5, iv (0 : Int32), iv (1 : Int32), .unset, .unset, .unset, .unset, .unset, .unset, .unset, .unset, .unset, .unset, .unset] [(.int z40)]) by
        refine own_st (T' := s₁) (g' := (mkF m 30 #[own_jv p1, .second, own_jv p2, .second, iv p3, iv p4, iv p5, iv (0 : Int32), iv (1 : Int32), .unset, .unset, .unset, .unset, .unset, .unset, .unset, .unset, .unset, .unset, .unset] [(.int p5)])) (fun _ k => XS.iload X0.here hx rfl (hb hby at_28) rfl k) ?_
        refine own_st (T' := s₁) (g' := (mkF m 31 #[own_jv p1, .second, own_jv p2, .second, iv p3, iv p4, iv p5, iv (0 : Int32), iv (1 : Int32), .unset, .unset, .unset, .unset, .unset, .unset, .unset, .unset, .unset, .unset, .unset] [(.int (4 : Int32)), (.int p5)])) (fun _ k => XS.iconst X0.here hx rfl (hb hby at_30) k) ?_
        refine own_st (T' := s₁) (g' := (mkF m 32 #[own_jv p1, .second, own_jv p2, .second, iv p3, iv p4, iv p5, iv (0 : Int32), iv (1 : Int32), .unset, .unset, .unset, .unset, .unset, .unset, .unset, .unset, .unset, .unset, .unset] [(.int (p5 &&& (4 : Int32)))])) (fun _ k => XS.iand X0.here hx rfl (hb hby at_31) rfl k) ?_
        by_cases hc32 : (p5 &&& (4 : Int32)) = (0 : Int32)
        · refine own_st (T' := s₁) (g' := (mkF m 39 #[own_jv p1, .second, own_jv p2, .second, iv p3, iv p4, iv p5, iv (0 : Int32), iv (1 : Int32), .unset, .unset, .unset, .unset, .unset, .unset, .unset, .unset, .unset, .unset, .unset] [])) (fun _ k => XS.ifYes X0.here hx rfl (pc0 := 32) (pc' := 39) rfl (hb hby at_32) rfl ((if0 _ _).trans (teq hc32).1) (by decide) (by decide) k) ?_
          refine own_st (T' := s₁) (g' := (mkF m 40 #[own_jv p1, .second, own_jv p2, .second, iv p3, iv p4, iv p5, iv (0 : Int32), iv (1 : Int32), .unset, .unset, .unset, .unset, .unset, .unset, .unset, .unset, .unset, .unset, .unset] [(.int (0 : Int32))])) (fun _ k => XS.iconst X0.here hx rfl (hb hby at_39) k) ?_
          exact JE (0 : Int32)
        · refine own_st (T' := s₁) (g' := (mkF m 35 #[own_jv p1, .second, own_jv p2, .second, iv p3, iv p4, iv p5, iv (0 : Int32), iv (1 : Int32), .unset, .unset, .unset, .unset, .unset, .unset, .unset, .unset, .unset, .unset, .unset] [])) (fun _ k => XS.ifNo X0.here hx rfl (hb hby at_32) rfl ((if0 _ _).trans (feq hc32).1) k) ?_
          refine own_st (T' := s₁) (g' := (mkF m 36 #[own_jv p1, .second, own_jv p2, .second, iv p3, iv p4, iv p5, iv (0 : Int32), iv (1 : Int32), .unset, .unset, .unset, .unset, .unset, .unset, .unset, .unset, .unset, .unset, .unset] [(.int (1 : Int32))])) (fun _ k => XS.iconst X0.here hx rfl (hb hby at_35) k) ?_
          refine own_st (T' := s₁) (g' := (mkF m 40 #[own_jv p1, .second, own_jv p2, .second, iv p3, iv p4, iv p5, iv (0 : Int32), iv (1 : Int32), .unset, .unset, .unset, .unset, .unset, .unset, .unset, .unset, .unset, .unset, .unset] [(.int (1 : Int32))])) (fun _ k => XS.goto X0.here hx rfl (pc0 := 36) (pc' := 40) rfl (hb hby at_36) (by decide) (by decide) k) ?_
          exact JE (1 : Int32)
      intro z40
      refine own_st (T' := s₁) (g' := (mkF m 42 #[own_jv p1, .second, own_jv p2, .second, iv p3, iv p4, iv p5, iv (0 : Int32), iv (1 : Int32), iv z40, .unset, .unset, .unset, .unset, .unset, .unset, .unset, .unset, .unset, .unset] [])) (fun _ k => XS.istore X0.here hx rfl (hb hby at_40) rfl (l' := #[own_jv p1, .second, own_jv p2, .second, iv p3, iv p4, iv p5, iv (0 : Int32), iv (1 : Int32), iv z40, .unset, .unset, .unset, .unset, .unset, .unset, .unset, .unset, .unset, .unset]) rfl k) ?_
      refine own_st (T' := s₁) (g' := (mkF m 44 #[own_jv p1, .second, own_jv p2, .second, iv p3, iv p4, iv p5, iv (0 : Int32), iv (1 : Int32), iv z40, .unset, .unset, .unset, .unset, .unset, .unset, .unset, .unset, .unset, .unset] [(.int (0 : Int32))])) (fun _ k => XS.iload X0.here hx rfl (hb hby at_42) rfl k) ?_
      refine own_st (T' := s₁) (g' := (mkF m 51 #[own_jv p1, .second, own_jv p2, .second, iv p3, iv p4, iv p5, iv (0 : Int32), iv (1 : Int32), iv z40, .unset, .unset, .unset, .unset, .unset, .unset, .unset, .unset, .unset, .unset] [])) (fun _ k => XS.ifYes X0.here hx rfl (pc0 := 44) (pc' := 51) rfl (hb hby at_44) rfl ((if0 _ _).trans (teq (by decide : (0 : Int32) = (0 : Int32))).1) (by decide) (by decide) k) ?_
      refine own_st (T' := s₁) (g' := (mkF m 53 #[own_jv p1, .second, own_jv p2, .second, iv p3, iv p4, iv p5, iv (0 : Int32), iv (1 : Int32), iv z40, .unset, .unset, .unset, .unset, .unset, .unset, .unset, .unset, .unset, .unset] [(.int p3)])) (fun _ k => XS.iload X0.here hx rfl (hb hby at_51) rfl k) ?_
      refine own_st (T' := s₁) (g' := (mkF m 56 #[own_jv p1, .second, own_jv p2, .second, iv p3, iv p4, iv p5, iv (0 : Int32), iv (1 : Int32), iv z40, .unset, .unset, .unset, .unset, .unset, .unset, .unset, .unset, .unset, .unset] [(.int (1023 : Int32)), (.int p3)])) (fun _ k => XS.sipush X0.here hx rfl (hb hby at_53) k) ?_
      refine own_st (T' := s₁) (g' := (mkF m 57 #[own_jv p1, .second, own_jv p2, .second, iv p3, iv p4, iv p5, iv (0 : Int32), iv (1 : Int32), iv z40, .unset, .unset, .unset, .unset, .unset, .unset, .unset, .unset, .unset, .unset] [(.int (p3 &&& (1023 : Int32)))])) (fun _ k => XS.iand X0.here hx rfl (hb hby at_56) rfl k) ?_
      generalize hz57 : (p3 &&& (1023 : Int32)) = z57
      refine own_st (T' := s₁) (g' := (mkF m 59 #[own_jv p1, .second, own_jv p2, .second, iv p3, iv p4, iv p5, iv (0 : Int32), iv (1 : Int32), iv z40, iv z57, .unset, .unset, .unset, .unset, .unset, .unset, .unset, .unset, .unset] [])) (fun _ k => XS.istore X0.here hx rfl (hb hby at_57) rfl (l' := #[own_jv p1, .second, own_jv p2, .second, iv p3, iv p4, iv p5, iv (0 : Int32), iv (1 : Int32), iv z40, iv z57, .unset, .unset, .unset, .unset, .unset, .unset, .unset, .unset, .unset]) rfl k) ?_
      have hk57 : 0 ≤ z57.toInt ∧ z57.toInt ≤ 1023 := by rw [← hz57]; exact own_k10 _
      refine own_st (T' := s₁) (g' := (mkF m 61 #[own_jv p1, .second, own_jv p2, .second, iv p3, iv p4, iv p5, iv (0 : Int32), iv (1 : Int32), iv z40, iv z57, .unset, .unset, .unset, .unset, .unset, .unset, .unset, .unset, .unset] [(.int (1 : Int32))])) (fun _ k => XS.iload X0.here hx rfl (hb hby at_59) rfl k) ?_
      refine own_st (T' := s₁) (g' := (mkF m 64 #[own_jv p1, .second, own_jv p2, .second, iv p3, iv p4, iv p5, iv (0 : Int32), iv (1 : Int32), iv z40, iv z57, .unset, .unset, .unset, .unset, .unset, .unset, .unset, .unset, .unset] [])) (fun _ k => XS.ifNo X0.here hx rfl (hb hby at_61) rfl ((if0 _ _).trans (feq (by decide : ¬ ((1 : Int32) = (0 : Int32)))).1) k) ?_
      refine own_st (T' := s₁) (g' := (mkF m 65 #[own_jv p1, .second, own_jv p2, .second, iv p3, iv p4, iv p5, iv (0 : Int32), iv (1 : Int32), iv z40, iv z57, .unset, .unset, .unset, .unset, .unset, .unset, .unset, .unset, .unset] [(.int (0 : Int32))])) (fun _ k => XS.iconst X0.here hx rfl (hb hby at_64) k) ?_
      refine own_st (T' := s₁) (g' := (mkF m 74 #[own_jv p1, .second, own_jv p2, .second, iv p3, iv p4, iv p5, iv (0 : Int32), iv (1 : Int32), iv z40, iv z57, .unset, .unset, .unset, .unset, .unset, .unset, .unset, .unset, .unset] [(.int (0 : Int32))])) (fun _ k => XS.goto X0.here hx rfl (pc0 := 65) (pc' := 74) rfl (hb hby at_65) (by decide) (by decide) k) ?_
      refine own_st (T' := s₁) (g' := (mkF m 76 #[own_jv p1, .second, own_jv p2, .second, iv p3, iv p4, iv p5, iv (0 : Int32), iv (1 : Int32), iv z40, iv z57, iv (0 : Int32), .unset, .unset, .unset, .unset, .unset, .unset, .unset, .unset] [])) (fun _ k => XS.istore X0.here hx rfl (hb hby at_74) rfl (l' := #[own_jv p1, .second, own_jv p2, .second, iv p3, iv p4, iv p5, iv (0 : Int32), iv (1 : Int32), iv z40, iv z57, iv (0 : Int32), .unset, .unset, .unset, .unset, .unset, .unset, .unset, .unset]) rfl k) ?_
      refine own_st (T' := s₁) (g' := (mkF m 78 #[own_jv p1, .second, own_jv p2, .second, iv p3, iv p4, iv p5, iv (0 : Int32), iv (1 : Int32), iv z40, iv z57, iv (0 : Int32), .unset, .unset, .unset, .unset, .unset, .unset, .unset, .unset] [(.int (0 : Int32))])) (fun _ k => XS.iload X0.here hx rfl (hb hby at_76) rfl k) ?_
      refine own_st (T' := s₁) (g' := (mkF m 85 #[own_jv p1, .second, own_jv p2, .second, iv p3, iv p4, iv p5, iv (0 : Int32), iv (1 : Int32), iv z40, iv z57, iv (0 : Int32), .unset, .unset, .unset, .unset, .unset, .unset, .unset, .unset] [])) (fun _ k => XS.ifYes X0.here hx rfl (pc0 := 78) (pc' := 85) rfl (hb hby at_78) rfl ((if0 _ _).trans (teq (by decide : (0 : Int32) = (0 : Int32))).1) (by decide) (by decide) k) ?_
      refine own_st (T' := s₁) (g' := (mkF m 87 #[own_jv p1, .second, own_jv p2, .second, iv p3, iv p4, iv p5, iv (0 : Int32), iv (1 : Int32), iv z40, iv z57, iv (0 : Int32), .unset, .unset, .unset, .unset, .unset, .unset, .unset, .unset] [(.int z57)])) (fun _ k => XS.iload X0.here hx rfl (hb hby at_85) rfl k) ?_
      obtain ⟨T26, h26, k26, X26, e26, E26, A26, st26⟩ := newP X0 hx hZ (hw _ (List.mem_of_getElem? (i := 0) rfl)) e0 (g := (mkF m 87 #[own_jv p1, .second, own_jv p2, .second, iv p3, iv p4, iv p5, iv (0 : Int32), iv (1 : Int32), iv z40, iv z57, iv (0 : Int32), .unset, .unset, .unset, .unset, .unset, .unset, .unset, .unset] [(.int z57)])) rfl (hb hby at_87) rfl (own_pos hk57.1) (cap := 1023) (own_cap _ hk57.1 hk57.2) (by decide) (by decide) (by decide)
      obtain ⟨b26, g26⟩ : ∃ z, z = h0.size := ⟨_, rfl⟩
      rw [← g26] at A26 st26
      have ne_hd_b26 : hd ≠ b26 := Nat.ne_of_lt (Nat.lt_of_lt_of_le Y_hd.lt (Nat.le_of_eq g26.symm))
      have gn_b26 : n0 ≤ b26 := Nat.le_trans Z0 (Nat.le_of_eq g26.symm)
      have Zs26 : n0 ≤ h26.size := Nat.le_trans Z0 E26.1
      have Fa27 : Sta Z h26 "com/example/millrace/millrace/wire/RecordBatchBuilder" "HEADER" "[B" (.ref hd) := S_h.ext E26
      have Fa28 : own_Y Z h26 hd (61 : Int32) := Y_hd.ext E26
      have V26 : own_Y Z h26 b26 z57 := own_Y.new A26 (own_pos hk57.1)
      refine own_st (T' := T26) (g' := (mkF m 89 #[own_jv p1, .second, own_jv p2, .second, iv p3, iv p4, iv p5, iv (0 : Int32), iv (1 : Int32), iv z40, iv z57, iv (0 : Int32), .unset, .unset, .unset, .unset, .unset, .unset, .unset, .unset] [(.ref b26)])) (fun _ k => (st26) _ k) ?_
      refine own_st (T' := T26) (g' := (mkF m 91 #[own_jv p1, .second, own_jv p2, .second, iv p3, iv p4, iv p5, iv (0 : Int32), iv (1 : Int32), iv z40, iv z57, iv (0 : Int32), rv b26, .unset, .unset, .unset, .unset, .unset, .unset, .unset] [])) (fun _ k => XS.astore X26.here hx rfl (hb hby at_89) rfl rfl (l' := #[own_jv p1, .second, own_jv p2, .second, iv p3, iv p4, iv p5, iv (0 : Int32), iv (1 : Int32), iv z40, iv z57, iv (0 : Int32), rv b26, .unset, .unset, .unset, .unset, .unset, .unset, .unset]) rfl k) ?_
      refine own_st (T' := T26) (g' := (mkF m 93 #[own_jv p1, .second, own_jv p2, .second, iv p3, iv p4, iv p5, iv (0 : Int32), iv (1 : Int32), iv z40, iv z57, iv (0 : Int32), rv b26, .unset, .unset, .unset, .unset, .unset, .unset, .unset] [(.int (1 : Int32))])) (fun _ k => XS.iload X26.here hx rfl (hb hby at_91) rfl k) ?_
      refine own_st (T' := T26) (g' := (mkF m 96 #[own_jv p1, .second, own_jv p2, .second, iv p3, iv p4, iv p5, iv (0 : Int32), iv (1 : Int32), iv z40, iv z57, iv (0 : Int32), rv b26, .unset, .unset, .unset, .unset, .unset, .unset, .unset] [])) (fun _ k => XS.ifNo X26.here hx rfl (hb hby at_93) rfl ((if0 _ _).trans (feq (by decide : ¬ ((1 : Int32) = (0 : Int32)))).1) k) ?_
      refine own_st (T' := T26) (g' := (mkF m 97 #[own_jv p1, .second, own_jv p2, .second, iv p3, iv p4, iv p5, iv (0 : Int32), iv (1 : Int32), iv z40, iv z57, iv (0 : Int32), rv b26, .unset, .unset, .unset, .unset, .unset, .unset, .unset] [.null])) (fun _ k => XS.aconstNull X26.here hx rfl (hb hby at_96) k) ?_
      refine own_st (T' := T26) (g' := (mkF m 104 #[own_jv p1, .second, own_jv p2, .second, iv p3, iv p4, iv p5, iv (0 : Int32), iv (1 : Int32), iv z40, iv z57, iv (0 : Int32), rv b26, .unset, .unset, .unset, .unset, .unset, .unset, .unset] [.null])) (fun _ k => XS.goto X26.here hx rfl (pc0 := 97) (pc' := 104) rfl (hb hby at_97) (by decide) (by decide) k) ?_
      refine own_st (T' := T26) (g' := (mkF m 106 #[own_jv p1, .second, own_jv p2, .second, iv p3, iv p4, iv p5, iv (0 : Int32), iv (1 : Int32), iv z40, iv z57, iv (0 : Int32), rv b26, .val .null, .unset, .unset, .unset, .unset, .unset, .unset] [])) (fun _ k => XS.astore X26.here hx rfl (hb hby at_104) rfl rfl (l' := #[own_jv p1, .second, own_jv p2, .second, iv p3, iv p4, iv p5, iv (0 : Int32), iv (1 : Int32), iv z40, iv z57, iv (0 : Int32), rv b26, .val .null, .unset, .unset, .unset, .unset, .unset, .unset]) rfl k) ?_
      obtain ⟨T29, h29, X29, e29, E29, A29, D29, -, st29⟩ := newO X26 hx hZ hown (hw _ (List.mem_of_getElem? (i := 1) rfl)) (hw _ (List.mem_of_getElem? (i := 2) rfl)) (hw _ (List.mem_of_getElem? (i := 3) rfl)) e26 (g := (mkF m 106 #[own_jv p1, .second, own_jv p2, .second, iv p3, iv p4, iv p5, iv (0 : Int32), iv (1 : Int32), iv z40, iv z57, iv (0 : Int32), rv b26, .val .null, .unset, .unset, .unset, .unset, .unset, .unset] [])) rfl (hb hby at_106) (by decide) (by decide)
      obtain ⟨b29, g29⟩ : ∃ z, z = h26.size := ⟨_, rfl⟩
      rw [← g29] at A29 D29 st29
      have ne_hd_b29 : hd ≠ b29 := Nat.ne_of_lt (Nat.lt_of_lt_of_le Fa28.lt (Nat.le_of_eq g29.symm))
      have ne_b26_b29 : b26 ≠ b29 := Nat.ne_of_lt (Nat.lt_of_lt_of_le V26.lt (Nat.le_of_eq g29.symm))
      have gn_b29 : n0 ≤ b29 := Nat.le_trans Zs26 (Nat.le_of_eq g29.symm)
      have Zs29 : n0 ≤ h29.size := Nat.le_trans Zs26 E29.1
      have Fa30 : Sta Z h29 "com/example/millrace/millrace/wire/RecordBatchBuilder" "HEADER" "[B" (.ref hd) := Fa27.ext E29
      have Fa31 : own_Y Z h29 hd (61 : Int32) := Fa28.ext E29
      have Fa32 : own_Y Z h29 b26 z57 := V26.ext E29
      have F29_out : Fld Z h29 b29 "com/example/millrace/millrace/wire/RecordBatchBuilder" "out" "Lcom/example/millrace/millrace/wire/ProtocolWriter;" .null := D29 (Or.inr (hw _ (List.mem_of_getElem? (i := 25) rfl))) (ty := (.object "com/example/millrace/millrace/wire/ProtocolWriter")) (by decide)
      have F29_count : Fld Z h29 b29 "com/example/millrace/millrace/wire/RecordBatchBuilder" "count" "I" (.int (0 : Int32)) := D29 (Or.inl (hw _ (List.mem_of_getElem? (i := 64) rfl))) (ty := .int) (by decide)
      have F29_baseTimestamp : Fld Z h29 b29 "com/example/millrace/millrace/wire/RecordBatchBuilder" "baseTimestamp" "J" (.long (0 : Int64)) := D29 (Or.inl (hw _ (List.mem_of_getElem? (i := 66) rfl))) (ty := .long) (by decide)
      have F29_maxTimestamp : Fld Z h29 b29 "com/example/millrace/millrace/wire/RecordBatchBuilder" "maxTimestamp" "J" (.long (0 : Int64)) := D29 (Or.inl (hw _ (List.mem_of_getElem? (i := 68) rfl))) (ty := .long) (by decide)
      refine own_st (T' := T29) (g' := (mkF m 109 #[own_jv p1, .second, own_jv p2, .second, iv p3, iv p4, iv p5, iv (0 : Int32), iv (1 : Int32), iv z40, iv z57, iv (0 : Int32), rv b26, .val .null, .unset, .unset, .unset, .unset, .unset, .unset] [(.ref b29)])) (fun _ k => (st29) _ k) ?_
      refine own_st (T' := T29) (g' := (mkF m 110 #[own_jv p1, .second, own_jv p2, .second, iv p3, iv p4, iv p5, iv (0 : Int32), iv (1 : Int32), iv z40, iv z57, iv (0 : Int32), rv b26, .val .null, .unset, .unset, .unset, .unset, .unset, .unset] [(.ref b29), (.ref b29)])) (fun _ k => XS.dup X29.here hx rfl (hb hby at_109) rfl rfl k) ?_
      refine own_st (T' := T29) (g' := (mkF m 111 #[own_jv p1, .second, own_jv p2, .second, iv p3, iv p4, iv p5, iv (0 : Int32), iv (1 : Int32), iv z40, iv z57, iv (0 : Int32), rv b26, .val .null, .unset, .unset, .unset, .unset, .unset, .unset] [(.int (0 : Int32)), (.ref b29), (.ref b29)])) (fun _ k => XS.iconst X29.here hx rfl (hb hby at_110) k) ?_
      obtain ⟨v33, T33, L33, X33, hQ33, st33⟩ := own_packV (X29.specialBack hx (y := (⟨"com/example/millrace/millrace/wire/RecordBatchBuilder", "<init>", "(I)V"⟩ : MethodName)) rfl hown (mvT hZ (hw _ (List.mem_of_getElem? (i := 4) rfl))) (mvT hZ (hw _ (List.mem_of_getElem? (i := 5) rfl))) (mvT hZ (hw _ (List.mem_of_getElem? (i := 6) rfl))) (by decide) (backOf (W := 1) (rm1 l Z a0 hw [] b29 hd h29 n0 Zs29 A29 F29_out F29_baseTimestamp F29_maxTimestamp F29_count Fa31 Fa30 gn_b29 (Ne.symm ne_hd_b29)) hZ (hw _ (List.mem_of_getElem? (i := 6) rfl)) (hw _ (List.mem_of_getElem? (i := 3) rfl)) (by decide) (by decide)) (g := (mkF m 111 #[own_jv p1, .second, own_jv p2, .second, iv p3, iv p4, iv p5, iv (0 : Int32), iv (1 : Int32), iv z40, iv z57, iv (0 : Int32), rv b26, .val .null, .unset, .unset, .unset, .unset, .unset, .unset] [(.int (0 : Int32)), (.ref b29), (.ref b29)])) rfl (by rw [hml]; rfl) (Steps.refl _) (a := b29) (argsL := [(.int (0 : Int32))]) (rest := [(.ref b29)]) (lenOf own_pd0_0 rfl) rfl (by show 2 * 0 + _ ≤ _; exact Nat.le_of_eq rfl) (hb hby at_111) (fun _ _ => ⟨rfl, e29, (by decide : 2 + 3 ≤ _), (by decide : 1027 + 2263 ≤ _)⟩))
      obtain ⟨rfl, N33q, Kq33, wo33, t33, nn33, hw33, ht33, gn_wo33, gn_t33, ne_wo33_t33, hA33, hB33, SS33⟩ := hQ33
      obtain ⟨lc33, X33, N33⟩ := own_loc X33 (Fr.app N0 N33q)
      have ne_hd_wo33 : hd ≠ wo33 := Nat.ne_of_lt (Nat.lt_of_lt_of_le Fa31.lt hw33)
      have ne_hd_t33 : hd ≠ t33 := Nat.ne_of_lt (Nat.lt_of_lt_of_le Fa31.lt ht33)
      have ne_b26_wo33 : b26 ≠ wo33 := Nat.ne_of_lt (Nat.lt_of_lt_of_le Fa32.lt hw33)
      have ne_b26_t33 : b26 ≠ t33 := Nat.ne_of_lt (Nat.lt_of_lt_of_le Fa32.lt ht33)
      have ne_b29_wo33 : b29 ≠ wo33 := Nat.ne_of_lt (Nat.lt_of_lt_of_le A29.lt hw33)
      have ne_b29_t33 : b29 ≠ t33 := Nat.ne_of_lt (Nat.lt_of_lt_of_le A29.lt ht33)
      have Zs33 : n0 ≤ T33.heap.size := Nat.le_trans Zs29 Kq33.1
      have Fa34 : own_Y Z T33.heap b26 z57 := Fa32.keep Kq33 (ninS ne_b26_b29 nin0)
      obtain ⟨S33_0, S33_1, S33_2, S33_3, S33_4, S33_5, S33_6, S33_7, S33_8⟩ := SS33
      refine own_st (T' := T33) (g' := (mkF m 114 #[own_jv p1, .second, own_jv p2, .second, iv p3, iv p4, iv p5, iv (0 : Int32), iv (1 : Int32), iv z40, iv z57, iv (0 : Int32), rv b26, .val .null, .unset, .unset, .unset, .unset, .unset, .unset] [(.ref b29)])) (fun _ k => (st33) _ k) ?_
      refine own_st (T' := T33) (g' := (mkF m 116 #[own_jv p1, .second, own_jv p2, .second, iv p3, iv p4, iv p5, iv (0 : Int32), iv (1 : Int32), iv z40, iv z57, iv (0 : Int32), rv b26, .val .null, rv b29, .unset, .unset, .unset, .unset, .unset] [])) (fun _ k => XS.astore X33.here hx rfl (hb hby at_114) rfl rfl (l' := #[own_jv p1, .second, own_jv p2, .second, iv p3, iv p4, iv p5, iv (0 : Int32), iv (1 : Int32), iv z40, iv z57, iv (0 : Int32), rv b26, .val .null, rv b29, .unset, .unset, .unset, .unset, .unset]) rfl k) ?_
      suffices J129 : ∀ (T' : State) (h' : Heap) (lc' : List Loc) (tj : Addr) (btj mtj : Int64) (cj Pj nj : Int32) (X' : Stand p l e room_1 s m #[(.long p1), (.long p2), (.int p3), (.int p4), (.int p5)] below meth c T' lc' 6 5480) (e' : T'.heap = h') (N' : Fr n0 lc') (Zh' : n0 ≤ h'.size) (gn_tj : n0 ≤ tj) (ne_b26_tj : b26 ≠ tj) (ne_b29_tj : b29 ≠ tj) (ne_wo33_tj : wo33 ≠ tj) (hc0 : 0 ≤ cj.toInt) (hc1 : cj.toInt ≤ 1) (hP0 : 0 ≤ Pj.toInt) (hP1 : Pj.toInt ≤ 82) (hn0 : 0 < nj.toInt) (hn1 : nj.toInt ≤ 300) (Fj0 : own_Y Z h' b26 z57) (Fj1 : Exa Z h' b29 "com/example/millrace/millrace/wire/RecordBatchBuilder") (Fj2 : Fld Z h' b29 "com/example/millrace/millrace/wire/RecordBatchBuilder" "out" "Lcom/example/millrace/millrace/wire/ProtocolWriter;" (.ref wo33)) (Fj3 : Fld Z h' b29 "com/example/millrace/millrace/wire/RecordBatchBuilder" "baseTimestamp" "J" (.long btj)) (Fj4 : Fld Z h' b29 "com/example/millrace/millrace/wire/RecordBatchBuilder" "maxTimestamp" "J" (.long mtj)) (Fj5 : Fld Z h' b29 "com/example/millrace/millrace/wire/RecordBatchBuilder" "count" "I" (.int cj)) (Fj6 : Exa Z h' wo33 "com/example/millrace/millrace/wire/ProtocolWriter") (Fj7 : Fld Z h' wo33 "com/example/millrace/millrace/wire/ProtocolWriter" "bytes" "[B" (.ref tj)) (Fj8 : Fld Z h' wo33 "com/example/millrace/millrace/wire/ProtocolWriter" "position" "I" (.int Pj)) (Fj9 : own_Y Z h' tj nj), own_Goes p e below (fun o U' => ∃ v L, o = .returned v ∧ Q0 Z p1 p2 p3 p4 p5 h0 n0 v U'.heap L ∧ FrameEnd s o U' L room_1.cells room_1.slots) T' (mkF m 129 #[own_jv p1, .second, own_jv p2, .second, iv p3, iv p4, iv p5, iv (0 : Int32), iv (1 : Int32), iv z40, iv z57, iv (0 : Int32), rv b26, .val .null, rv b29, .unset, .unset, .unset, .unset, .unset] []) by
        refine own_st (T' := T33) (g' := (mkF m 118 #[own_jv p1, .second, own_jv p2, .second, iv p3, iv p4, iv p5, iv (0 : Int32), iv (1 : Int32), iv z40, iv z57, iv (0 : Int32), rv b26, .val .null, rv b29, .unset, .unset, .unset, .unset, .unset] [(.int z40)])) (fun _ k => XS.iload X33.here hx rfl (hb hby at_116) rfl k) ?_
        by_cases hc118 : z40 = (0 : Int32)
        · refine own_st (T' := T33) (g' := (mkF m 129 #[own_jv p1, .second, own_jv p2, .second, iv p3, iv p4, iv p5, iv (0 : Int32), iv (1 : Int32), iv z40, iv z57, iv (0 : Int32), rv b26, .val .null, rv b29, .unset, .unset, .unset, .unset, .unset] [])) (fun _ k => XS.ifYes X33.here hx rfl (pc0 := 118) (pc' := 129) rfl (hb hby at_118) rfl ((if0 _ _).trans (teq hc118).1) (by decide) (by decide) k) ?_
          exact J129 _ _ _ _ _ _ _ _ _ (X33.more (by decide) (by decide)) rfl N33 Zs33 gn_t33 ne_b26_t33 ne_b29_t33 ne_wo33_t33 (by decide) (by decide) (by decide) (by decide) (by omega) (by omega) Fa34 S33_0 S33_1 S33_2 S33_3 S33_4 S33_5 S33_6 S33_7 S33_8
        · refine own_st (T' := T33) (g' := (mkF m 121 #[own_jv p1, .second, own_jv p2, .second, iv p3, iv p4, iv p5, iv (0 : Int32), iv (1 : Int32), iv z40, iv z57, iv (0 : Int32), rv b26, .val .null, rv b29, .unset, .unset, .unset, .unset, .unset] [])) (fun _ k => XS.ifNo X33.here hx rfl (hb hby at_118) rfl ((if0 _ _).trans (feq hc118).1) k) ?_
          refine own_st (T' := T33) (g' := (mkF m 123 #[own_jv p1, .second, own_jv p2, .second, iv p3, iv p4, iv p5, iv (0 : Int32), iv (1 : Int32), iv z40, iv z57, iv (0 : Int32), rv b26, .val .null, rv b29, .unset, .unset, .unset, .unset, .unset] [(.ref b29)])) (fun _ k => XS.aload X33.here hx rfl (hb hby at_121) rfl rfl k) ?_
          refine own_st (T' := T33) (g' := (mkF m 124 #[own_jv p1, .second, own_jv p2, .second, iv p3, iv p4, iv p5, iv (0 : Int32), iv (1 : Int32), iv z40, iv z57, iv (0 : Int32), rv b26, .val .null, rv b29, .unset, .unset, .unset, .unset, .unset] [(.long p1), (.ref b29)])) (fun _ k => XS.lloadN X33.here hx rfl (hb hby at_123) rfl k) ?_
          refine own_st (T' := T33) (g' := (mkF m 125 #[own_jv p1, .second, own_jv p2, .second, iv p3, iv p4, iv p5, iv (0 : Int32), iv (1 : Int32), iv z40, iv z57, iv (0 : Int32), rv b26, .val .null, rv b29, .unset, .unset, .unset, .unset, .unset] [.null, (.long p1), (.ref b29)])) (fun _ k => XS.aconstNull X33.here hx rfl (hb hby at_124) k) ?_
          refine own_st (T' := T33) (g' := (mkF m 126 #[own_jv p1, .second, own_jv p2, .second, iv p3, iv p4, iv p5, iv (0 : Int32), iv (1 : Int32), iv z40, iv z57, iv (0 : Int32), rv b26, .val .null, rv b29, .unset, .unset, .unset, .unset, .unset] [.null, .null, (.long p1), (.ref b29)])) (fun _ k => XS.aconstNull X33.here hx rfl (hb hby at_125) k) ?_
          obtain ⟨cq35, kq35, q35a, q35b, q35c⟩ := isOf hZ rfl S33_0
          obtain ⟨v35, T35, L35, X35, hQ35, st35⟩ := own_packV (X33.virtualBack hx (y := (⟨"com/example/millrace/millrace/wire/RecordBatchBuilder", "append", "(J[B[B)V"⟩ : MethodName)) (z := (⟨"com/example/millrace/millrace/wire/RecordBatchBuilder", "append", "(J[B[B)V"⟩ : MethodName)) hown (mvT hZ (hw _ (List.mem_of_getElem? (i := 58) rfl))) (mvT hZ (hw _ (List.mem_of_getElem? (i := 59) rfl))) (notFace_of_selects (args := #[]) (mvT hZ (hw _ (List.mem_of_getElem? (i := 61) rfl)))) (mvT hZ (hw _ (List.mem_of_getElem? (i := 61) rfl))) (mvT hZ (hw _ (List.mem_of_getElem? (i := 60) rfl))) (by decide) (backOf (W := 0) (rm10_11 l Z a0 hw [] b29 p1 wo33 t33 (0 : Int64) (0 : Int64) (0 : Int32) (61 : Int32) nn33 T33.heap n0 Zs33 S33_0 S33_1 S33_2 S33_3 S33_4 S33_5 S33_6 S33_7 S33_8 gn_b29 gn_wo33 gn_t33 ne_b29_wo33 ne_b29_t33 ne_wo33_t33 (by decide) (by decide) (by decide) (by decide) (by omega) (by omega)) hZ (hw _ (List.mem_of_getElem? (i := 62) rfl)) (hw _ (List.mem_of_getElem? (i := 3) rfl)) (by decide) (by decide)) q35a q35c (g := (mkF m 126 #[own_jv p1, .second, own_jv p2, .second, iv p3, iv p4, iv p5, iv (0 : Int32), iv (1 : Int32), iv z40, iv z57, iv (0 : Int32), rv b26, .val .null, rv b29, .unset, .unset, .unset, .unset, .unset] [.null, .null, (.long p1), (.ref b29)])) rfl (by rw [hml]; rfl) (Steps.refl _) (argsL := [(.long p1), .null, .null]) (rest := []) (lenOf own_pd0_1 rfl) rfl (by show 2 * 0 + _ ≤ _; exact Nat.le_of_eq rfl) (hb hby at_126) (fun _ _ => ⟨rfl, rfl, (by decide : 5 + 1 ≤ _), (by decide : 3290 + 2190 ≤ _)⟩))
          obtain ⟨rfl, N35q, Kq35, t35, nn35, P35, bt35, mt35, ht35, gn_t35, hA35, hB35, hC35, hD35, SS35⟩ := hQ35
          obtain ⟨lc35, X35, N35⟩ := own_loc X35 (Fr.app N33 N35q)
          have ne_b26_t35 : b26 ≠ t35 := own_sep ht35 ne_b26_t33 Fa34.lt
          have ne_b29_t35 : b29 ≠ t35 := own_sep ht35 ne_b29_t33 S33_0.lt
          have ne_wo33_t35 : wo33 ≠ t35 := own_sep ht35 ne_wo33_t33 S33_5.lt
          have Zs35 : n0 ≤ T35.heap.size := Nat.le_trans Zs33 Kq35.1
          have Fa36 : own_Y Z T35.heap b26 z57 := Fa34.keep Kq35 (ninS ne_b26_b29 (ninS ne_b26_wo33 (ninS ne_b26_t33 nin0)))
          obtain ⟨S35_0, S35_1, S35_2, S35_3, S35_4, S35_5, S35_6, S35_7, S35_8⟩ := SS35
          refine own_st (T' := T35) (g' := (mkF m 129 #[own_jv p1, .second, own_jv p2, .second, iv p3, iv p4, iv p5, iv (0 : Int32), iv (1 : Int32), iv z40, iv z57, iv (0 : Int32), rv b26, .val .null, rv b29, .unset, .unset, .unset, .unset, .unset] [])) (fun _ k => (st35) _ k) ?_
          exact J129 _ _ _ _ _ _ _ _ _ X35 rfl N35 Zs35 gn_t35 ne_b26_t35 ne_b29_t35 ne_wo33_t35 (by decide) (by decide) (own_j1 hA35) (own_j2 hB35) hD35 (own_j3 hC35 (by omega)) Fa36 S35_0 S35_1 S35_2 S35_3 S35_4 S35_5 S35_6 S35_7 S35_8
      intro TJ hJ lcJ tj btj mtj cj Pj nj XJ eJ NJ ZJ gn_tj ne_b26_tj ne_b29_tj ne_wo33_tj hc0 hc1 hP0 hP1 hn0 hn1 Fj0 Fj1 Fj2 Fj3 Fj4 Fj5 Fj6 Fj7 Fj8 Fj9
      refine own_st (T' := TJ) (g' := (mkF m 131 #[own_jv p1, .second, own_jv p2, .second, iv p3, iv p4, iv p5, iv (0 : Int32), iv (1 : Int32), iv z40, iv z57, iv (0 : Int32), rv b26, .val .null, rv b29, .unset, .unset, .unset, .unset, .unset] [(.ref b29)])) (fun _ k => XS.aload XJ.here hx rfl (hb hby at_129) rfl rfl k) ?_
      obtain ⟨cq37, kq37, q37a, q37b, q37c⟩ := isOf hZ eJ Fj1
      obtain ⟨v37, T37, L37, X37, hQ37, st37⟩ := own_packV (XJ.virtualBack hx (y := (⟨"com/example/millrace/millrace/wire/RecordBatchBuilder", "sizeInBytes", "()I"⟩ : MethodName)) (z := (⟨"com/example/millrace/millrace/wire/RecordBatchBuilder", "sizeInBytes", "()I"⟩ : MethodName)) hown (mvT hZ (hw _ (List.mem_of_getElem? (i := 48) rfl))) (mvT hZ (hw _ (List.mem_of_getElem? (i := 49) rfl))) (notFace_of_selects (args := #[]) (mvT hZ (hw _ (List.mem_of_getElem? (i := 51) rfl)))) (mvT hZ (hw _ (List.mem_of_getElem? (i := 51) rfl))) (mvT hZ (hw _ (List.mem_of_getElem? (i := 50) rfl))) (by decide) (backOf (W := 0) (rm8 l Z a0 hw [] b29 wo33 Pj hJ n0 ZJ Fj2 Fj6 Fj8) hZ (hw _ (List.mem_of_getElem? (i := 52) rfl)) (hw _ (List.mem_of_getElem? (i := 3) rfl)) (by decide) (by decide)) q37a q37c (g := (mkF m 131 #[own_jv p1, .second, own_jv p2, .second, iv p3, iv p4, iv p5, iv (0 : Int32), iv (1 : Int32), iv z40, iv z57, iv (0 : Int32), rv b26, .val .null, rv b29, .unset, .unset, .unset, .unset, .unset] [(.ref b29)])) rfl (by rw [hml]; rfl) (Steps.refl _) (argsL := []) (rest := []) (lenOf own_pd0_2 rfl) rfl (by show 2 * 0 + _ ≤ _; exact Nat.le_of_eq rfl) (hb hby at_131) (fun _ _ => ⟨rfl, eJ, (by decide : 6 + 0 ≤ _), (by decide : 5480 + 0 ≤ _)⟩))
      obtain ⟨rfl, N37q, e37⟩ := hQ37
      obtain ⟨lc37, X37, N37⟩ := own_loc X37 (Fr.app NJ N37q)
      refine own_st (T' := T37) (g' := (mkF m 134 #[own_jv p1, .second, own_jv p2, .second, iv p3, iv p4, iv p5, iv (0 : Int32), iv (1 : Int32), iv z40, iv z57, iv (0 : Int32), rv b26, .val .null, rv b29, .unset, .unset, .unset, .unset, .unset] [(.int Pj)])) (fun _ k => (st37) _ k) ?_
      refine own_st (T' := T37) (g' := (mkF m 136 #[own_jv p1, .second, own_jv p2, .second, iv p3, iv p4, iv p5, iv (0 : Int32), iv (1 : Int32), iv z40, iv z57, iv (0 : Int32), rv b26, .val .null, rv b29, iv Pj, .unset, .unset, .unset, .unset] [])) (fun _ k => XS.istore X37.here hx rfl (hb hby at_134) rfl (l' := #[own_jv p1, .second, own_jv p2, .second, iv p3, iv p4, iv p5, iv (0 : Int32), iv (1 : Int32), iv z40, iv z57, iv (0 : Int32), rv b26, .val .null, rv b29, iv Pj, .unset, .unset, .unset, .unset]) rfl k) ?_
      refine own_st (T' := T37) (g' := (mkF m 138 #[own_jv p1, .second, own_jv p2, .second, iv p3, iv p4, iv p5, iv (0 : Int32), iv (1 : Int32), iv z40, iv z57, iv (0 : Int32), rv b26, .val .null, rv b29, iv Pj, .unset, .unset, .unset, .unset] [(.ref b29)])) (fun _ k => XS.aload X37.here hx rfl (hb hby at_136) rfl rfl k) ?_
      refine own_st (T' := T37) (g' := (mkF m 139 #[own_jv p1, .second, own_jv p2, .second, iv p3, iv p4, iv p5, iv (0 : Int32), iv (1 : Int32), iv z40, iv z57, iv (0 : Int32), rv b26, .val .null, rv b29, iv Pj, .unset, .unset, .unset, .unset] [(.long p2), (.ref b29)])) (fun _ k => XS.lloadN X37.here hx rfl (hb hby at_138) rfl k) ?_
      refine own_st (T' := T37) (g' := (mkF m 141 #[own_jv p1, .second, own_jv p2, .second, iv p3, iv p4, iv p5, iv (0 : Int32), iv (1 : Int32), iv z40, iv z57, iv (0 : Int32), rv b26, .val .null, rv b29, iv Pj, .unset, .unset, .unset, .unset] [(.ref b26), (.long p2), (.ref b29)])) (fun _ k => XS.aload X37.here hx rfl (hb hby at_139) rfl rfl k) ?_
      refine own_st (T' := T37) (g' := (mkF m 143 #[own_jv p1, .second, own_jv p2, .second, iv p3, iv p4, iv p5, iv (0 : Int32), iv (1 : Int32), iv z40, iv z57, iv (0 : Int32), rv b26, .val .null, rv b29, iv Pj, .unset, .unset, .unset, .unset] [.null, (.ref b26), (.long p2), (.ref b29)])) (fun _ k => XS.aload X37.here hx rfl (hb hby at_141) rfl rfl k) ?_
      obtain ⟨cq38, kq38, q38a, q38b, q38c⟩ := isOf hZ e37 Fj1
      obtain ⟨v38, T38, L38, X38, hQ38, st38⟩ := own_packV (X37.virtualBack hx (y := (⟨"com/example/millrace/millrace/wire/RecordBatchBuilder", "append", "(J[B[B)V"⟩ : MethodName)) (z := (⟨"com/example/millrace/millrace/wire/RecordBatchBuilder", "append", "(J[B[B)V"⟩ : MethodName)) hown (mvT hZ (hw _ (List.mem_of_getElem? (i := 58) rfl))) (mvT hZ (hw _ (List.mem_of_getElem? (i := 59) rfl))) (notFace_of_selects (args := #[]) (mvT hZ (hw _ (List.mem_of_getElem? (i := 61) rfl)))) (mvT hZ (hw _ (List.mem_of_getElem? (i := 61) rfl))) (mvT hZ (hw _ (List.mem_of_getElem? (i := 60) rfl))) (by decide) (backOf (W := 0) (rm10_01 l Z a0 hw [] b29 p2 b26 wo33 tj btj mtj cj Pj nj z57 hJ n0 ZJ Fj1 Fj2 Fj3 Fj4 Fj5 Fj6 Fj7 Fj8 Fj9 Fj0 gn_b29 gn_wo33 gn_tj ne_b29_wo33 ne_b29_tj ne_wo33_tj (Ne.symm ne_b26_b29) (Ne.symm ne_b26_wo33) (Ne.symm ne_b26_tj) (by omega) (by omega) (by omega) (by omega) (by omega) (by omega) (by omega) (by omega)) hZ (hw _ (List.mem_of_getElem? (i := 62) rfl)) (hw _ (List.mem_of_getElem? (i := 3) rfl)) (by decide) (by decide)) q38a q38c (g := (mkF m 143 #[own_jv p1, .second, own_jv p2, .second, iv p3, iv p4, iv p5, iv (0 : Int32), iv (1 : Int32), iv z40, iv z57, iv (0 : Int32), rv b26, .val .null, rv b29, iv Pj, .unset, .unset, .unset, .unset] [.null, (.ref b26), (.long p2), (.ref b29)])) rfl (by rw [hml]; rfl) (Steps.refl _) (argsL := [(.long p2), (.ref b26), .null]) (rest := []) (lenOf own_pd0_1 rfl) rfl (by show 2 * 0 + _ ≤ _; exact Nat.le_of_eq rfl) (hb hby at_143) (fun _ _ => ⟨rfl, e37, (by decide : 6 + 1 ≤ _), (by decide : 5480 + 2190 ≤ _)⟩))
      obtain ⟨rfl, N38q, Kq38, t38, nn38, P38, bt38, mt38, ht38, gn_t38, hA38, hB38, hC38, hD38, SS38⟩ := hQ38
      obtain ⟨lc38, X38, N38⟩ := own_loc X38 (Fr.app N37 N38q)
      have ne_b26_t38 : b26 ≠ t38 := own_sep ht38 ne_b26_tj Fj0.lt
      have ne_b29_t38 : b29 ≠ t38 := own_sep ht38 ne_b29_tj Fj1.lt
      have ne_wo33_t38 : wo33 ≠ t38 := own_sep ht38 ne_wo33_tj Fj6.lt
      have Zs38 : n0 ≤ T38.heap.size := Nat.le_trans ZJ Kq38.1
      have Fa39 : own_Y Z T38.heap b26 z57 := Fj0.keep Kq38 (ninS ne_b26_b29 (ninS ne_b26_wo33 (ninS ne_b26_tj nin0)))
      obtain ⟨S38_0, S38_1, S38_2, S38_3, S38_4, S38_5, S38_6, S38_7, S38_8⟩ := SS38
      refine own_st (T' := T38) (g' := (mkF m 146 #[own_jv p1, .second, own_jv p2, .second, iv p3, iv p4, iv p5, iv (0 : Int32), iv (1 : Int32), iv z40, iv z57, iv (0 : Int32), rv b26, .val .null, rv b29, iv Pj, .unset, .unset, .unset, .unset] [])) (fun _ k => (st38) _ k) ?_
      refine own_st (T' := T38) (g' := (mkF m 148 #[own_jv p1, .second, own_jv p2, .second, iv p3, iv p4, iv p5, iv (0 : Int32), iv (1 : Int32), iv z40, iv z57, iv (0 : Int32), rv b26, .val .null, rv b29, iv Pj, .unset, .unset, .unset, .unset] [(.ref b29)])) (fun _ k => XS.aload X38.here hx rfl (hb hby at_146) rfl rfl k) ?_
      obtain ⟨cq40, kq40, q40a, q40b, q40c⟩ := isOf hZ rfl S38_0
      obtain ⟨v40, T40, L40, X40, hQ40, st40⟩ := own_packV (X38.virtualBack hx (y := (⟨"com/example/millrace/millrace/wire/RecordBatchBuilder", "sizeInBytes", "()I"⟩ : MethodName)) (z := (⟨"com/example/millrace/millrace/wire/RecordBatchBuilder", "sizeInBytes", "()I"⟩ : MethodName)) hown (mvT hZ (hw _ (List.mem_of_getElem? (i := 48) rfl))) (mvT hZ (hw _ (List.mem_of_getElem? (i := 49) rfl))) (notFace_of_selects (args := #[]) (mvT hZ (hw _ (List.mem_of_getElem? (i := 51) rfl)))) (mvT hZ (hw _ (List.mem_of_getElem? (i := 51) rfl))) (mvT hZ (hw _ (List.mem_of_getElem? (i := 50) rfl))) (by decide) (backOf (W := 0) (rm8 l Z a0 hw [] b29 wo33 P38 T38.heap n0 Zs38 S38_1 S38_5 S38_7) hZ (hw _ (List.mem_of_getElem? (i := 52) rfl)) (hw _ (List.mem_of_getElem? (i := 3) rfl)) (by decide) (by decide)) q40a q40c (g := (mkF m 148 #[own_jv p1, .second, own_jv p2, .second, iv p3, iv p4, iv p5, iv (0 : Int32), iv (1 : Int32), iv z40, iv z57, iv (0 : Int32), rv b26, .val .null, rv b29, iv Pj, .unset, .unset, .unset, .unset] [(.ref b29)])) rfl (by rw [hml]; rfl) (Steps.refl _) (argsL := []) (rest := []) (lenOf own_pd0_2 rfl) rfl (by show 2 * 0 + _ ≤ _; exact Nat.le_of_eq rfl) (hb hby at_148) (fun _ _ => ⟨rfl, rfl, (by decide : 7 + 0 ≤ _), (by decide : 7670 + 0 ≤ _)⟩))
      obtain ⟨rfl, N40q, e40⟩ := hQ40
      obtain ⟨lc40, X40, N40⟩ := own_loc X40 (Fr.app N38 N40q)
      refine own_st (T' := T40) (g' := (mkF m 151 #[own_jv p1, .second, own_jv p2, .second, iv p3, iv p4, iv p5, iv (0 : Int32), iv (1 : Int32), iv z40, iv z57, iv (0 : Int32), rv b26, .val .null, rv b29, iv Pj, .unset, .unset, .unset, .unset] [(.int P38)])) (fun _ k => (st40) _ k) ?_
      refine own_st (T' := T40) (g' := (mkF m 153 #[own_jv p1, .second, own_jv p2, .second, iv p3, iv p4, iv p5, iv (0 : Int32), iv (1 : Int32), iv z40, iv z57, iv (0 : Int32), rv b26, .val .null, rv b29, iv Pj, .unset, .unset, .unset, .unset] [(.int Pj), (.int P38)])) (fun _ k => XS.iload X40.here hx rfl (hb hby at_151) rfl k) ?_
      refine own_st (T' := T40) (g' := (mkF m 154 #[own_jv p1, .second, own_jv p2, .second, iv p3, iv p4, iv p5, iv (0 : Int32), iv (1 : Int32), iv z40, iv z57, iv (0 : Int32), rv b26, .val .null, rv b29, iv Pj, .unset, .unset, .unset, .unset] [(.int (P38 - Pj))])) (fun _ k => XS.isub X40.here hx rfl (hb hby at_153) rfl k) ?_
      refine own_st (T' := T40) (g' := (mkF m 156 #[own_jv p1, .second, own_jv p2, .second, iv p3, iv p4, iv p5, iv (0 : Int32), iv (1 : Int32), iv z40, iv z57, iv (0 : Int32), rv b26, .val .null, rv b29, iv Pj, iv (P38 - Pj), .unset, .unset, .unset] [])) (fun _ k => XS.istore X40.here hx rfl (hb hby at_154) rfl (l' := #[own_jv p1, .second, own_jv p2, .second, iv p3, iv p4, iv p5, iv (0 : Int32), iv (1 : Int32), iv z40, iv z57, iv (0 : Int32), rv b26, .val .null, rv b29, iv Pj, iv (P38 - Pj), .unset, .unset, .unset]) rfl k) ?_
      refine own_st (T' := T40) (g' := (mkF m 158 #[own_jv p1, .second, own_jv p2, .second, iv p3, iv p4, iv p5, iv (0 : Int32), iv (1 : Int32), iv z40, iv z57, iv (0 : Int32), rv b26, .val .null, rv b29, iv Pj, iv (P38 - Pj), .unset, .unset, .unset] [(.ref b26)])) (fun _ k => XS.aload X40.here hx rfl (hb hby at_156) rfl rfl k) ?_
      refine own_st (T' := T40) (g' := (mkF m 160 #[own_jv p1, .second, own_jv p2, .second, iv p3, iv p4, iv p5, iv (0 : Int32), iv (1 : Int32), iv z40, iv z57, iv (0 : Int32), rv b26, .val .null, rv b29, iv Pj, iv (P38 - Pj), .unset, .unset, .unset] [.null, (.ref b26)])) (fun _ k => XS.aload X40.here hx rfl (hb hby at_158) rfl rfl k) ?_
      obtain ⟨v41, T41, L41, X41, hQ41, st41⟩ := own_packS (Jvm.LawKit.callS X40 hx (y := (⟨"com/example/millrace/millrace/wire/RecordBatchBuilder", "maxRecordSize", "([B[B)I"⟩ : MethodName)) hown (mvT hZ (hw _ (List.mem_of_getElem? (i := 120) rfl))) (mvT hZ (hw _ (List.mem_of_getElem? (i := 121) rfl))) (mvT hZ (hw _ (List.mem_of_getElem? (i := 3) rfl))) (mvT hZ (hw _ (List.mem_of_getElem? (i := 122) rfl))) (by decide) (backOf (W := 0) (rm24_01 l Z a0 hw [] b26 z57 T38.heap n0 Zs38 Fa39) hZ (hw _ (List.mem_of_getElem? (i := 122) rfl)) (hw _ (List.mem_of_getElem? (i := 3) rfl)) (by decide) (by decide)) (g := (mkF m 160 #[own_jv p1, .second, own_jv p2, .second, iv p3, iv p4, iv p5, iv (0 : Int32), iv (1 : Int32), iv z40, iv z57, iv (0 : Int32), rv b26, .val .null, rv b29, iv Pj, iv (P38 - Pj), .unset, .unset, .unset] [.null, (.ref b26)])) rfl (by rw [hml]; rfl) (argsL := [(.ref b26), .null]) (rest := []) (lenOf own_pd0_3 rfl) rfl (by show 2 * 0 + _ ≤ _; exact Nat.le_of_eq rfl) (hb hby at_160) (fun _ _ => ⟨rfl, e40, (by decide : 7 + 0 ≤ _), (by decide : 7670 + 0 ≤ _)⟩))
      obtain ⟨rfl, N41q, e41⟩ := hQ41
      obtain ⟨lc41, X41, N41⟩ := own_loc X41 (Fr.app N40 N41q)
      refine own_st (T' := T41) (g' := (mkF m 163 #[own_jv p1, .second, own_jv p2, .second, iv p3, iv p4, iv p5, iv (0 : Int32), iv (1 : Int32), iv z40, iv z57, iv (0 : Int32), rv b26, .val .null, rv b29, iv Pj, iv (P38 - Pj), .unset, .unset, .unset] [(.int (((((26 : Int32) + z57) + (5 : Int32)) + (0 : Int32)) + (1 : Int32)))])) (fun _ k => (st41) _ k) ?_
      generalize hz163 : (((((26 : Int32) + z57) + (5 : Int32)) + (0 : Int32)) + (1 : Int32)) = z163
      refine own_st (T' := T41) (g' := (mkF m 165 #[own_jv p1, .second, own_jv p2, .second, iv p3, iv p4, iv p5, iv (0 : Int32), iv (1 : Int32), iv z40, iv z57, iv (0 : Int32), rv b26, .val .null, rv b29, iv Pj, iv (P38 - Pj), iv z163, .unset, .unset] [])) (fun _ k => XS.istore X41.here hx rfl (hb hby at_163) rfl (l' := #[own_jv p1, .second, own_jv p2, .second, iv p3, iv p4, iv p5, iv (0 : Int32), iv (1 : Int32), iv z40, iv z57, iv (0 : Int32), rv b26, .val .null, rv b29, iv Pj, iv (P38 - Pj), iv z163, .unset, .unset]) rfl k) ?_
      refine own_st (T' := T41) (g' := (mkF m 166 #[own_jv p1, .second, own_jv p2, .second, iv p3, iv p4, iv p5, iv (0 : Int32), iv (1 : Int32), iv z40, iv z57, iv (0 : Int32), rv b26, .val .null, rv b29, iv Pj, iv (P38 - Pj), iv z163, .unset, .unset] [.null])) (fun _ k => XS.aconstNull X41.here hx rfl (hb hby at_165) k) ?_
      refine own_st (T' := T41) (g' := (mkF m 167 #[own_jv p1, .second, own_jv p2, .second, iv p3, iv p4, iv p5, iv (0 : Int32), iv (1 : Int32), iv z40, iv z57, iv (0 : Int32), rv b26, .val .null, rv b29, iv Pj, iv (P38 - Pj), iv z163, .unset, .unset] [.null, .null])) (fun _ k => XS.aconstNull X41.here hx rfl (hb hby at_166) k) ?_
      obtain ⟨v42, T42, L42, X42, hQ42, st42⟩ := own_packS (Jvm.LawKit.callS X41 hx (y := (⟨"com/example/millrace/millrace/wire/RecordBatchBuilder", "maxRecordSize", "([B[B)I"⟩ : MethodName)) hown (mvT hZ (hw _ (List.mem_of_getElem? (i := 120) rfl))) (mvT hZ (hw _ (List.mem_of_getElem? (i := 121) rfl))) (mvT hZ (hw _ (List.mem_of_getElem? (i := 3) rfl))) (mvT hZ (hw _ (List.mem_of_getElem? (i := 122) rfl))) (by decide) (backOf (W := 0) (rm24_11 l Z a0 hw []  T38.heap n0 Zs38 ) hZ (hw _ (List.mem_of_getElem? (i := 122) rfl)) (hw _ (List.mem_of_getElem? (i := 3) rfl)) (by decide) (by decide)) (g := (mkF m 167 #[own_jv p1, .second, own_jv p2, .second, iv p3, iv p4, iv p5, iv (0 : Int32), iv (1 : Int32), iv z40, iv z57, iv (0 : Int32), rv b26, .val .null, rv b29, iv Pj, iv (P38 - Pj), iv z163, .unset, .unset] [.null, .null])) rfl (by rw [hml]; rfl) (argsL := [.null, .null]) (rest := []) (lenOf own_pd0_3 rfl) rfl (by show 2 * 0 + _ ≤ _; exact Nat.le_of_eq rfl) (hb hby at_167) (fun _ _ => ⟨rfl, e41, (by decide : 7 + 0 ≤ _), (by decide : 7670 + 0 ≤ _)⟩))
      obtain ⟨rfl, N42q, e42⟩ := hQ42
      obtain ⟨lc42, X42, N42⟩ := own_loc X42 (Fr.app N41 N42q)
      refine own_st (T' := T42) (g' := (mkF m 170 #[own_jv p1, .second, own_jv p2, .second, iv p3, iv p4, iv p5, iv (0 : Int32), iv (1 : Int32), iv z40, iv z57, iv (0 : Int32), rv b26, .val .null, rv b29, iv Pj, iv (P38 - Pj), iv z163, .unset, .unset] [(.int (((((26 : Int32) + (0 : Int32)) + (5 : Int32)) + (0 : Int32)) + (1 : Int32)))])) (fun _ k => (st42) _ k) ?_
      refine own_st (T' := T42) (g' := (mkF m 172 #[own_jv p1, .second, own_jv p2, .second, iv p3, iv p4, iv p5, iv (0 : Int32), iv (1 : Int32), iv z40, iv z57, iv (0 : Int32), rv b26, .val .null, rv b29, iv Pj, iv (P38 - Pj), iv z163, iv (((((26 : Int32) + (0 : Int32)) + (5 : Int32)) + (0 : Int32)) + (1 : Int32)), .unset] [])) (fun _ k => XS.istore X42.here hx rfl (hb hby at_170) rfl (l' := #[own_jv p1, .second, own_jv p2, .second, iv p3, iv p4, iv p5, iv (0 : Int32), iv (1 : Int32), iv z40, iv z57, iv (0 : Int32), rv b26, .val .null, rv b29, iv Pj, iv (P38 - Pj), iv z163, iv (((((26 : Int32) + (0 : Int32)) + (5 : Int32)) + (0 : Int32)) + (1 : Int32)), .unset]) rfl k) ?_
      refine own_st (T' := T42) (g' := (mkF m 174 #[own_jv p1, .second, own_jv p2, .second, iv p3, iv p4, iv p5, iv (0 : Int32), iv (1 : Int32), iv z40, iv z57, iv (0 : Int32), rv b26, .val .null, rv b29, iv Pj, iv (P38 - Pj), iv z163, iv (((((26 : Int32) + (0 : Int32)) + (5 : Int32)) + (0 : Int32)) + (1 : Int32)), .unset] [(.int (32 : Int32))])) (fun _ k => XS.bipush X42.here hx rfl (hb hby at_172) k) ?_
      refine own_st (T' := T42) (g' := (mkF m 176 #[own_jv p1, .second, own_jv p2, .second, iv p3, iv p4, iv p5, iv (0 : Int32), iv (1 : Int32), iv z40, iv z57, iv (0 : Int32), rv b26, .val .null, rv b29, iv Pj, iv (P38 - Pj), iv z163, iv (((((26 : Int32) + (0 : Int32)) + (5 : Int32)) + (0 : Int32)) + (1 : Int32)), iv (32 : Int32)] [])) (fun _ k => XS.istore X42.here hx rfl (hb hby at_174) rfl (l' := #[own_jv p1, .second, own_jv p2, .second, iv p3, iv p4, iv p5, iv (0 : Int32), iv (1 : Int32), iv z40, iv z57, iv (0 : Int32), rv b26, .val .null, rv b29, iv Pj, iv (P38 - Pj), iv z163, iv (((((26 : Int32) + (0 : Int32)) + (5 : Int32)) + (0 : Int32)) + (1 : Int32)), iv (32 : Int32)]) rfl k) ?_
      refine own_st (T' := T42) (g' := (mkF m 178 #[own_jv p1, .second, own_jv p2, .second, iv p3, iv p4, iv p5, iv (0 : Int32), iv (1 : Int32), iv z40, iv z57, iv (0 : Int32), rv b26, .val .null, rv b29, iv Pj, iv (P38 - Pj), iv z163, iv (((((26 : Int32) + (0 : Int32)) + (5 : Int32)) + (0 : Int32)) + (1 : Int32)), iv (32 : Int32)] [(.int (((((26 : Int32) + (0 : Int32)) + (5 : Int32)) + (0 : Int32)) + (1 : Int32)))])) (fun _ k => XS.iload X42.here hx rfl (hb hby at_176) rfl k) ?_
      refine own_st (T' := T42) (g' := (mkF m 180 #[own_jv p1, .second, own_jv p2, .second, iv p3, iv p4, iv p5, iv (0 : Int32), iv (1 : Int32), iv z40, iv z57, iv (0 : Int32), rv b26, .val .null, rv b29, iv Pj, iv (P38 - Pj), iv z163, iv (((((26 : Int32) + (0 : Int32)) + (5 : Int32)) + (0 : Int32)) + (1 : Int32)), iv (32 : Int32)] [(.int (32 : Int32)), (.int (((((26 : Int32) + (0 : Int32)) + (5 : Int32)) + (0 : Int32)) + (1 : Int32)))])) (fun _ k => XS.iload X42.here hx rfl (hb hby at_178) rfl k) ?_
      refine own_st (T' := T42) (g' := (mkF m 183 #[own_jv p1, .second, own_jv p2, .second, iv p3, iv p4, iv p5, iv (0 : Int32), iv (1 : Int32), iv z40, iv z57, iv (0 : Int32), rv b26, .val .null, rv b29, iv Pj, iv (P38 - Pj), iv z163, iv (((((26 : Int32) + (0 : Int32)) + (5 : Int32)) + (0 : Int32)) + (1 : Int32)), iv (32 : Int32)] [])) (fun _ k => XS.icmpNo X42.here hx rfl (hb hby at_180) rfl (teq (by decide : (((((26 : Int32) + (0 : Int32)) + (5 : Int32)) + (0 : Int32)) + (1 : Int32)) = (32 : Int32))).2 k) ?_
      refine own_st (T' := T42) (g' := (mkF m 185 #[own_jv p1, .second, own_jv p2, .second, iv p3, iv p4, iv p5, iv (0 : Int32), iv (1 : Int32), iv z40, iv z57, iv (0 : Int32), rv b26, .val .null, rv b29, iv Pj, iv (P38 - Pj), iv z163, iv (((((26 : Int32) + (0 : Int32)) + (5 : Int32)) + (0 : Int32)) + (1 : Int32)), iv (32 : Int32)] [(.int z163)])) (fun _ k => XS.iload X42.here hx rfl (hb hby at_183) rfl k) ?_
      refine own_st (T' := T42) (g' := (mkF m 187 #[own_jv p1, .second, own_jv p2, .second, iv p3, iv p4, iv p5, iv (0 : Int32), iv (1 : Int32), iv z40, iv z57, iv (0 : Int32), rv b26, .val .null, rv b29, iv Pj, iv (P38 - Pj), iv z163, iv (((((26 : Int32) + (0 : Int32)) + (5 : Int32)) + (0 : Int32)) + (1 : Int32)), iv (32 : Int32)] [(.int (((((26 : Int32) + (0 : Int32)) + (5 : Int32)) + (0 : Int32)) + (1 : Int32))), (.int z163)])) (fun _ k => XS.iload X42.here hx rfl (hb hby at_185) rfl k) ?_
      refine own_st (T' := T42) (g' := (mkF m 188 #[own_jv p1, .second, own_jv p2, .second, iv p3, iv p4, iv p5, iv (0 : Int32), iv (1 : Int32), iv z40, iv z57, iv (0 : Int32), rv b26, .val .null, rv b29, iv Pj, iv (P38 - Pj), iv z163, iv (((((26 : Int32) + (0 : Int32)) + (5 : Int32)) + (0 : Int32)) + (1 : Int32)), iv (32 : Int32)] [(.int (z163 - (((((26 : Int32) + (0 : Int32)) + (5 : Int32)) + (0 : Int32)) + (1 : Int32))))])) (fun _ k => XS.isub X42.here hx rfl (hb hby at_187) rfl k) ?_
      refine own_st (T' := T42) (g' := (mkF m 190 #[own_jv p1, .second, own_jv p2, .second, iv p3, iv p4, iv p5, iv (0 : Int32), iv (1 : Int32), iv z40, iv z57, iv (0 : Int32), rv b26, .val .null, rv b29, iv Pj, iv (P38 - Pj), iv z163, iv (((((26 : Int32) + (0 : Int32)) + (5 : Int32)) + (0 : Int32)) + (1 : Int32)), iv (32 : Int32)] [(.int z57), (.int (z163 - (((((26 : Int32) + (0 : Int32)) + (5 : Int32)) + (0 : Int32)) + (1 : Int32))))])) (fun _ k => XS.iload X42.here hx rfl (hb hby at_188) rfl k) ?_
      refine own_st (T' := T42) (g' := (mkF m 192 #[own_jv p1, .second, own_jv p2, .second, iv p3, iv p4, iv p5, iv (0 : Int32), iv (1 : Int32), iv z40, iv z57, iv (0 : Int32), rv b26, .val .null, rv b29, iv Pj, iv (P38 - Pj), iv z163, iv (((((26 : Int32) + (0 : Int32)) + (5 : Int32)) + (0 : Int32)) + (1 : Int32)), iv (32 : Int32)] [(.int (0 : Int32)), (.int z57), (.int (z163 - (((((26 : Int32) + (0 : Int32)) + (5 : Int32)) + (0 : Int32)) + (1 : Int32))))])) (fun _ k => XS.iload X42.here hx rfl (hb hby at_190) rfl k) ?_
      refine own_st (T' := T42) (g' := (mkF m 193 #[own_jv p1, .second, own_jv p2, .second, iv p3, iv p4, iv p5, iv (0 : Int32), iv (1 : Int32), iv z40, iv z57, iv (0 : Int32), rv b26, .val .null, rv b29, iv Pj, iv (P38 - Pj), iv z163, iv (((((26 : Int32) + (0 : Int32)) + (5 : Int32)) + (0 : Int32)) + (1 : Int32)), iv (32 : Int32)] [(.int (z57 + (0 : Int32))), (.int (z163 - (((((26 : Int32) + (0 : Int32)) + (5 : Int32)) + (0 : Int32)) + (1 : Int32))))])) (fun _ k => XS.iadd X42.here hx rfl (hb hby at_192) rfl k) ?_
      refine own_st (T' := T42) (g' := (mkF m 196 #[own_jv p1, .second, own_jv p2, .second, iv p3, iv p4, iv p5, iv (0 : Int32), iv (1 : Int32), iv z40, iv z57, iv (0 : Int32), rv b26, .val .null, rv b29, iv Pj, iv (P38 - Pj), iv z163, iv (((((26 : Int32) + (0 : Int32)) + (5 : Int32)) + (0 : Int32)) + (1 : Int32)), iv (32 : Int32)] [])) (fun _ k => XS.icmpNo X42.here hx rfl (hb hby at_193) rfl (teq (own_fin z57 (0 : Int32) z163 hk57.1 hk57.2 (by decide) (by decide) hz163)).2 k) ?_
      refine own_st (T' := T42) (g' := (mkF m 198 #[own_jv p1, .second, own_jv p2, .second, iv p3, iv p4, iv p5, iv (0 : Int32), iv (1 : Int32), iv z40, iv z57, iv (0 : Int32), rv b26, .val .null, rv b29, iv Pj, iv (P38 - Pj), iv z163, iv (((((26 : Int32) + (0 : Int32)) + (5 : Int32)) + (0 : Int32)) + (1 : Int32)), iv (32 : Int32)] [(.int (P38 - Pj))])) (fun _ k => XS.iload X42.here hx rfl (hb hby at_196) rfl k) ?_
      refine own_st (T' := T42) (g' := (mkF m 200 #[own_jv p1, .second, own_jv p2, .second, iv p3, iv p4, iv p5, iv (0 : Int32), iv (1 : Int32), iv z40, iv z57, iv (0 : Int32), rv b26, .val .null, rv b29, iv Pj, iv (P38 - Pj), iv z163, iv (((((26 : Int32) + (0 : Int32)) + (5 : Int32)) + (0 : Int32)) + (1 : Int32)), iv (32 : Int32)] [(.int z163), (.int (P38 - Pj))])) (fun _ k => XS.iload X42.here hx rfl (hb hby at_198) rfl k) ?_
      have hmr := own_mr z57 (0 : Int32) hk57.1 hk57.2 (by decide) (by decide)
      rw [hz163] at hmr
      have e00 : (0 : Int32).toInt = 0 := rfl
      refine own_st (T' := T42) (g' := (mkF m 203 #[own_jv p1, .second, own_jv p2, .second, iv p3, iv p4, iv p5, iv (0 : Int32), iv (1 : Int32), iv z40, iv z57, iv (0 : Int32), rv b26, .val .null, rv b29, iv Pj, iv (P38 - Pj), iv z163, iv (((((26 : Int32) + (0 : Int32)) + (5 : Int32)) + (0 : Int32)) + (1 : Int32)), iv (32 : Int32)] [])) (fun _ k => XS.icmpNo X42.here hx rfl (hb hby at_200) rfl (flt (own_le Pj P38 z163 (z57.toInt + (0 : Int32).toInt) hP0 (by omega) hA38 (by omega) (by omega) (by omega) (by omega))).2.2.1 k) ?_
      refine own_st (T' := T42) (g' := (mkF m 204 #[own_jv p1, .second, own_jv p2, .second, iv p3, iv p4, iv p5, iv (0 : Int32), iv (1 : Int32), iv z40, iv z57, iv (0 : Int32), rv b26, .val .null, rv b29, iv Pj, iv (P38 - Pj), iv z163, iv (((((26 : Int32) + (0 : Int32)) + (5 : Int32)) + (0 : Int32)) + (1 : Int32)), iv (32 : Int32)] [(.int (1 : Int32))])) (fun _ k => XS.iconst X42.here hx rfl (hb hby at_203) k) ?_
      refine own_st (T' := T42) (g' := (mkF m 208 #[own_jv p1, .second, own_jv p2, .second, iv p3, iv p4, iv p5, iv (0 : Int32), iv (1 : Int32), iv z40, iv z57, iv (0 : Int32), rv b26, .val .null, rv b29, iv Pj, iv (P38 - Pj), iv z163, iv (((((26 : Int32) + (0 : Int32)) + (5 : Int32)) + (0 : Int32)) + (1 : Int32)), iv (32 : Int32)] [(.int (1 : Int32))])) (fun _ k => XS.goto X42.here hx rfl (pc0 := 204) (pc' := 208) rfl (hb hby at_204) (by decide) (by decide) k) ?_
      exact own_end (Q := Q0 Z p1 p2 p3 p4 p5 h0 n0) (v := some (.int (nar .boolean (1 : Int32)))) X42 (fun h => by rw [Bd.returns] at h; cases h) (fun fs hr => retN X42 hx (t := .boolean) Bd.returns (by simp) (hb hby at_208) hr) (⟨rfl, N42⟩) (by decide) (by decide)
  · refine own_st (T' := s₁) (g' := (mkF m 7 #[own_jv p1, .second, own_jv p2, .second, iv p3, iv p4, iv p5, .unset, .unset, .unset, .unset, .unset, .unset, .unset, .unset, .unset, .unset, .unset, .unset, .unset] [])) (fun _ k => XS.ifNo X0.here hx rfl (hb hby at_4) rfl ((if0 _ _).trans (feq hc4).1) k) ?_
    refine own_st (T' := s₁) (g' := (mkF m 8 #[own_jv p1, .second, own_jv p2, .second, iv p3, iv p4, iv p5, .unset, .unset, .unset, .unset, .unset, .unset, .unset, .unset, .unset, .unset, .unset, .unset, .unset] [(.int (1 : Int32))])) (fun _ k => XS.iconst X0.here hx rfl (hb hby at_7) k) ?_
    refine own_st (T' := s₁) (g' := (mkF m 12 #[own_jv p1, .second, own_jv p2, .second, iv p3, iv p4, iv p5, .unset, .unset, .unset, .unset, .unset, .unset, .unset, .unset, .unset, .unset, .unset, .unset, .unset] [(.int (1 : Int32))])) (fun _ k => XS.goto X0.here hx rfl (pc0 := 8) (pc' := 12) rfl (hb hby at_8) (by decide) (by decide) k) ?_
    refine own_st (T' := s₁) (g' := (mkF m 14 #[own_jv p1, .second, own_jv p2, .second, iv p3, iv p4, iv p5, iv (1 : Int32), .unset, .unset, .unset, .unset, .unset, .unset, .unset, .unset, .unset, .unset, .unset, .unset] [])) (fun _ k => XS.istore X0.here hx rfl (hb hby at_12) rfl (l' := #[own_jv p1, .second, own_jv p2, .second, iv p3, iv p4, iv p5, iv (1 : Int32), .unset, .unset, .unset, .unset, .unset, .unset, .unset, .unset, .unset, .unset, .unset, .unset]) rfl k) ?_
    refine own_st (T' := s₁) (g' := (mkF m 16 #[own_jv p1, .second, own_jv p2, .second, iv p3, iv p4, iv p5, iv (1 : Int32), .unset, .unset, .unset, .unset, .unset, .unset, .unset, .unset, .unset, .unset, .unset, .unset] [(.int p5)])) (fun _ k => XS.iload X0.here hx rfl (hb hby at_14) rfl k) ?_
    refine own_st (T' := s₁) (g' := (mkF m 17 #[own_jv p1, .second, own_jv p2, .second, iv p3, iv p4, iv p5, iv (1 : Int32), .unset, .unset, .unset, .unset, .unset, .unset, .unset, .unset, .unset, .unset, .unset, .unset] [(.int (2 : Int32)), (.int p5)])) (fun _ k => XS.iconst X0.here hx rfl (hb hby at_16) k) ?_
    refine own_st (T' := s₁) (g' := (mkF m 18 #[own_jv p1, .second, own_jv p2, .second, iv p3, iv p4, iv p5, iv (1 : Int32), .unset, .unset, .unset, .unset, .unset, .unset, .unset, .unset, .unset, .unset, .unset, .unset] [(.int (p5 &&& (2 : Int32)))])) (fun _ k => XS.iand X0.here hx rfl (hb hby at_17) rfl k) ?_
    by_cases hc18 : (p5 &&& (2 : Int32)) = (0 : Int32)
    · refine own_st (T' := s₁) (g' := (mkF m 25 #[own_jv p1, .second, own_jv p2, .second, iv p3, iv p4, iv p5, iv (1 : Int32), .unset, .unset, .unset, .unset, .unset, .unset, .unset, .unset, .unset, .unset, .unset, .unset] [])) (fun _ k => XS.ifYes X0.here hx rfl (pc0 := 18) (pc' := 25) rfl (hb hby at_18) rfl ((if0 _ _).trans (teq hc18).1) (by decide) (by decide) k) ?_
      refine own_st (T' := s₁) (g' := (mkF m 26 #[own_jv p1, .second, own_jv p2, .second, iv p3, iv p4, iv p5, iv (1 : Int32), .unset, .unset, .unset, .unset, .unset, .unset, .unset, .unset, .unset, .unset, .unset, .unset] [(.int (0 : Int32))])) (fun _ k => XS.iconst X0.here hx rfl (hb hby at_25) k) ?_
      refine own_st (T' := s₁) (g' := (mkF m 28 #[own_jv p1, .second, own_jv p2, .second, iv p3, iv p4, iv p5, iv (1 : Int32), iv (0 : Int32), .unset, .unset, .unset, .unset, .unset, .unset, .unset, .unset, .unset, .unset, .unset] [])) (fun _ k => XS.istore X0.here hx rfl (hb hby at_26) rfl (l' := #[own_jv p1, .second, own_jv p2, .second, iv p3, iv p4, iv p5, iv (1 : Int32), iv (0 : Int32), .unset, .unset, .unset, .unset, .unset, .unset, .unset, .unset, .unset, .unset, .unset]) rfl k) ?_
      suffices JE : ∀ z40 : Int32, own_Goes p e below (fun o U' => ∃ v L, o = .returned v ∧ Q0 Z p1 p2 p3 p4 p5 h0 n0 v U'.heap L ∧ FrameEnd s o U' L room_1.cells room_1.slots) s₁ (mkF m 40 #[own_jv p1, .second, own_jv p2, .second, iv p3, iv p4, iv p5, iv (1 : Int32), iv (0 : Int32), .unset, .unset, .unset, .unset, .unset, .unset, .unset, .unset, .unset, .unset, .unset] [(.int z40)]) by
        refine own_st (T' := s₁) (g' := (mkF m 30 #[own_jv p1, .second, own_jv p2, .second, iv p3, iv p4, iv p5, iv (1 : Int32), iv (0 : Int32), .unset, .unset, .unset, .unset, .unset, .unset, .unset, .unset, .unset, .unset, .unset] [(.int p5)])) (fun _ k => XS.iload X0.here hx rfl (hb hby at_28) rfl k) ?_
        refine own_st (T' := s₁) (g' := (mkF m 31 #[own_jv p1, .second, own_jv p2, .second, iv p3, iv p4, iv p5, iv (1 : Int32), iv (0 : Int32), .unset, .unset, .unset, .unset, .unset, .unset, .unset, .unset, .unset, .unset, .unset] [(.int (4 : Int32)), (.int p5)])) (fun _ k => XS.iconst X0.here hx rfl (hb hby at_30) k) ?_
        refine own_st (T' := s₁) (g' := (mkF m 32 #[own_jv p1, .second, own_jv p2, .second, iv p3, iv p4, iv p5, iv (1 : Int32), iv (0 : Int32), .unset, .unset, .unset, .unset, .unset, .unset, .unset, .unset, .unset, .unset, .unset] [(.int (p5 &&& (4 : Int32)))])) (fun _ k => XS.iand X0.here hx rfl (hb hby at_31) rfl k) ?_
        by_cases hc32 : (p5 &&& (4 : Int32)) = (0 : Int32)
        · refine own_st (T' := s₁) (g' := (mkF m 39 #[own_jv p1, .second, own_jv p2, .second, iv p3, iv p4, iv p5, iv (1 : Int32), iv (0 : Int32), .unset, .unset, .unset, .unset, .unset, .unset, .unset, .unset, .unset, .unset, .unset] [])) (fun _ k => XS.ifYes X0.here hx rfl (pc0 := 32) (pc' := 39) rfl (hb hby at_32) rfl ((if0 _ _).trans (teq hc32).1) (by decide) (by decide) k) ?_
          refine own_st (T' := s₁) (g' := (mkF m 40 #[own_jv p1, .second, own_jv p2, .second, iv p3, iv p4, iv p5, iv (1 : Int32), iv (0 : Int32), .unset, .unset, .unset, .unset, .unset, .unset, .unset, .unset, .unset, .unset, .unset] [(.int (0 : Int32))])) (fun _ k => XS.iconst X0.here hx rfl (hb hby at_39) k) ?_
          exact JE (0 : Int32)
        · refine own_st (T' := s₁) (g' := (mkF m 35 #[own_jv p1, .second, own_jv p2, .second, iv p3, iv p4, iv p5, iv (1 : Int32), iv (0 : Int32), .unset, .unset, .unset, .unset, .unset, .unset, .unset, .unset, .unset, .unset, .unset] [])) (fun _ k => XS.ifNo X0.here hx rfl (hb hby at_32) rfl ((if0 _ _).trans (feq hc32).1) k) ?_
          refine own_st (T' := s₁) (g' := (mkF m 36 #[own_jv p1, .second, own_jv p2, .second, iv p3, iv p4, iv p5, iv (1 : Int32), iv (0 : Int32), .unset, .unset, .unset, .unset, .unset, .unset, .unset, .unset, .unset, .unset, .unset] [(.int (1 : Int32))])) (fun _ k => XS.iconst X0.here hx rfl (hb hby at_35) k) ?_
          refine own_st (T' := s₁) (g' := (mkF m 40 #[own_jv p1, .second, own_jv p2, .second, iv p3, iv p4, iv p5, iv (1 : Int32), iv (0 : Int32), .unset, .unset, .unset, .unset, .unset, .unset, .unset, .unset, .unset, .unset, .unset] [(.int (1 : Int32))])) (fun _ k => XS.goto X0.here hx rfl (pc0 := 36) (pc' := 40) rfl (hb hby at_36) (by decide) (by decide) k) ?_
          exact JE (1 : Int32)
      intro z40
      refine own_st (T' := s₁) (g' := (mkF m 42 #[own_jv p1, .second, own_jv p2, .second, iv p3, iv p4, iv p5, iv (1 : Int32), iv (0 : Int32), iv z40, .unset, .unset, .unset, .unset, .unset, .unset, .unset, .unset, .unset, .unset] [])) (fun _ k => XS.istore X0.here hx rfl (hb hby at_40) rfl (l' := #[own_jv p1, .second, own_jv p2, .second, iv p3, iv p4, iv p5, iv (1 : Int32), iv (0 : Int32), iv z40, .unset, .unset, .unset, .unset, .unset, .unset, .unset, .unset, .unset, .unset]) rfl k) ?_
      refine own_st (T' := s₁) (g' := (mkF m 44 #[own_jv p1, .second, own_jv p2, .second, iv p3, iv p4, iv p5, iv (1 : Int32), iv (0 : Int32), iv z40, .unset, .unset, .unset, .unset, .unset, .unset, .unset, .unset, .unset, .unset] [(.int (1 : Int32))])) (fun _ k => XS.iload X0.here hx rfl (hb hby at_42) rfl k) ?_
      refine own_st (T' := s₁) (g' := (mkF m 47 #[own_jv p1, .second, own_jv p2, .second, iv p3, iv p4, iv p5, iv (1 : Int32), iv (0 : Int32), iv z40, .unset, .unset, .unset, .unset, .unset, .unset, .unset, .unset, .unset, .unset] [])) (fun _ k => XS.ifNo X0.here hx rfl (hb hby at_44) rfl ((if0 _ _).trans (feq (by decide : ¬ ((1 : Int32) = (0 : Int32)))).1) k) ?_
      refine own_st (T' := s₁) (g' := (mkF m 48 #[own_jv p1, .second, own_jv p2, .second, iv p3, iv p4, iv p5, iv (1 : Int32), iv (0 : Int32), iv z40, .unset, .unset, .unset, .unset, .unset, .unset, .unset, .unset, .unset, .unset] [(.int (0 : Int32))])) (fun _ k => XS.iconst X0.here hx rfl (hb hby at_47) k) ?_
      refine own_st (T' := s₁) (g' := (mkF m 57 #[own_jv p1, .second, own_jv p2, .second, iv p3, iv p4, iv p5, iv (1 : Int32), iv (0 : Int32), iv z40, .unset, .unset, .unset, .unset, .unset, .unset, .unset, .unset, .unset, .unset] [(.int (0 : Int32))])) (fun _ k => XS.goto X0.here hx rfl (pc0 := 48) (pc' := 57) rfl (hb hby at_48) (by decide) (by decide) k) ?_
      refine own_st (T' := s₁) (g' := (mkF m 59 #[own_jv p1, .second, own_jv p2, .second, iv p3, iv p4, iv p5, iv (1 : Int32), iv (0 : Int32), iv z40, iv (0 : Int32), .unset, .unset, .unset, .unset, .unset, .unset, .unset, .unset, .unset] [])) (fun _ k => XS.istore X0.here hx rfl (hb hby at_57) rfl (l' := #[own_jv p1, .second, own_jv p2, .second, iv p3, iv p4, iv p5, iv (1 : Int32), iv (0 : Int32), iv z40, iv (0 : Int32), .unset, .unset, .unset, .unset, .unset, .unset, .unset, .unset, .unset]) rfl k) ?_
      refine own_st (T' := s₁) (g' := (mkF m 61 #[own_jv p1, .second, own_jv p2, .second, iv p3, iv p4, iv p5, iv (1 : Int32), iv (0 : Int32), iv z40, iv (0 : Int32), .unset, .unset, .unset, .unset, .unset, .unset, .unset, .unset, .unset] [(.int (0 : Int32))])) (fun _ k => XS.iload X0.here hx rfl (hb hby at_59) rfl k) ?_
      refine own_st (T' := s₁) (g' := (mkF m 68 #[own_jv p1, .second, own_jv p2, .second, iv p3, iv p4, iv p5, iv (1 : Int32), iv (0 : Int32), iv z40, iv (0 : Int32), .unset, .unset, .unset, .unset, .unset, .unset, .unset, .unset, .unset] [])) (fun _ k => XS.ifYes X0.here hx rfl (pc0 := 61) (pc' := 68) rfl (hb hby at_61) rfl ((if0 _ _).trans (teq (by decide : (0 : Int32) = (0 : Int32))).1) (by decide) (by decide) k) ?_
      refine own_st (T' := s₁) (g' := (mkF m 70 #[own_jv p1, .second, own_jv p2, .second, iv p3, iv p4, iv p5, iv (1 : Int32), iv (0 : Int32), iv z40, iv (0 : Int32), .unset, .unset, .unset, .unset, .unset, .unset, .unset, .unset, .unset] [(.int p4)])) (fun _ k => XS.iload X0.here hx rfl (hb hby at_68) rfl k) ?_
      refine own_st (T' := s₁) (g' := (mkF m 73 #[own_jv p1, .second, own_jv p2, .second, iv p3, iv p4, iv p5, iv (1 : Int32), iv (0 : Int32), iv z40, iv (0 : Int32), .unset, .unset, .unset, .unset, .unset, .unset, .unset, .unset, .unset] [(.int (1023 : Int32)), (.int p4)])) (fun _ k => XS.sipush X0.here hx rfl (hb hby at_70) k) ?_
      refine own_st (T' := s₁) (g' := (mkF m 74 #[own_jv p1, .second, own_jv p2, .second, iv p3, iv p4, iv p5, iv (1 : Int32), iv (0 : Int32), iv z40, iv (0 : Int32), .unset, .unset, .unset, .unset, .unset, .unset, .unset, .unset, .unset] [(.int (p4 &&& (1023 : Int32)))])) (fun _ k => XS.iand X0.here hx rfl (hb hby at_73) rfl k) ?_
      generalize hz74 : (p4 &&& (1023 : Int32)) = z74
      refine own_st (T' := s₁) (g' := (mkF m 76 #[own_jv p1, .second, own_jv p2, .second, iv p3, iv p4, iv p5, iv (1 : Int32), iv (0 : Int32), iv z40, iv (0 : Int32), iv z74, .unset, .unset, .unset, .unset, .unset, .unset, .unset, .unset] [])) (fun _ k => XS.istore X0.here hx rfl (hb hby at_74) rfl (l' := #[own_jv p1, .second, own_jv p2, .second, iv p3, iv p4, iv p5, iv (1 : Int32), iv (0 : Int32), iv z40, iv (0 : Int32), iv z74, .unset, .unset, .unset, .unset, .unset, .unset, .unset, .unset]) rfl k) ?_
      have hk74 : 0 ≤ z74.toInt ∧ z74.toInt ≤ 1023 := by rw [← hz74]; exact own_k10 _
      refine own_st (T' := s₁) (g' := (mkF m 78 #[own_jv p1, .second, own_jv p2, .second, iv p3, iv p4, iv p5, iv (1 : Int32), iv (0 : Int32), iv z40, iv (0 : Int32), iv z74, .unset, .unset, .unset, .unset, .unset, .unset, .unset, .unset] [(.int (1 : Int32))])) (fun _ k => XS.iload X0.here hx rfl (hb hby at_76) rfl k) ?_
      refine own_st (T' := s₁) (g' := (mkF m 81 #[own_jv p1, .second, own_jv p2, .second, iv p3, iv p4, iv p5, iv (1 : Int32), iv (0 : Int32), iv z40, iv (0 : Int32), iv z74, .unset, .unset, .unset, .unset, .unset, .unset, .unset, .unset] [])) (fun _ k => XS.ifNo X0.here hx rfl (hb hby at_78) rfl ((if0 _ _).trans (feq (by decide : ¬ ((1 : Int32) = (0 : Int32)))).1) k) ?_
      refine own_st (T' := s₁) (g' := (mkF m 82 #[own_jv p1, .second, own_jv p2, .second, iv p3, iv p4, iv p5, iv (1 : Int32), iv (0 : Int32), iv z40, iv (0 : Int32), iv z74, .unset, .unset, .unset, .unset, .unset, .unset, .unset, .unset] [.null])) (fun _ k => XS.aconstNull X0.here hx rfl (hb hby at_81) k) ?_
      refine own_st (T' := s₁) (g' := (mkF m 89 #[own_jv p1, .second, own_jv p2, .second, iv p3, iv p4, iv p5, iv (1 : Int32), iv (0 : Int32), iv z40, iv (0 : Int32), iv z74, .unset, .unset, .unset, .unset, .unset, .unset, .unset, .unset] [.null])) (fun _ k => XS.goto X0.here hx rfl (pc0 := 82) (pc' := 89) rfl (hb hby at_82) (by decide) (by decide) k) ?_
      refine own_st (T' := s₁) (g' := (mkF m 91 #[own_jv p1, .second, own_jv p2, .second, iv p3, iv p4, iv p5, iv (1 : Int32), iv (0 : Int32), iv z40, iv (0 : Int32), iv z74, .val .null, .unset, .unset, .unset, .unset, .unset, .unset, .unset] [])) (fun _ k => XS.astore X0.here hx rfl (hb hby at_89) rfl rfl (l' := #[own_jv p1, .second, own_jv p2, .second, iv p3, iv p4, iv p5, iv (1 : Int32), iv (0 : Int32), iv z40, iv (0 : Int32), iv z74, .val .null, .unset, .unset, .unset, .unset, .unset, .unset, .unset]) rfl k) ?_
      refine own_st (T' := s₁) (g' := (mkF m 93 #[own_jv p1, .second, own_jv p2, .second, iv p3, iv p4, iv p5, iv (1 : Int32), iv (0 : Int32), iv z40, iv (0 : Int32), iv z74, .val .null, .unset, .unset, .unset, .unset, .unset, .unset, .unset] [(.int (0 : Int32))])) (fun _ k => XS.iload X0.here hx rfl (hb hby at_91) rfl k) ?_
      refine own_st (T' := s₁) (g' := (mkF m 100 #[own_jv p1, .second, own_jv p2, .second, iv p3, iv p4, iv p5, iv (1 : Int32), iv (0 : Int32), iv z40, iv (0 : Int32), iv z74, .val .null, .unset, .unset, .unset, .unset, .unset, .unset, .unset] [])) (fun _ k => XS.ifYes X0.here hx rfl (pc0 := 93) (pc' := 100) rfl (hb hby at_93) rfl ((if0 _ _).trans (teq (by decide : (0 : Int32) = (0 : Int32))).1) (by decide) (by decide) k) ?_
      refine own_st (T' := s₁) (g' := (mkF m 102 #[own_jv p1, .second, own_jv p2, .second, iv p3, iv p4, iv p5, iv (1 : Int32), iv (0 : Int32), iv z40, iv (0 : Int32), iv z74, .val .null, .unset, .unset, .unset, .unset, .unset, .unset, .unset] [(.int z74)])) (fun _ k => XS.iload X0.here hx rfl (hb hby at_100) rfl k) ?_
      obtain ⟨T43, h43, k43, X43, e43, E43, A43, st43⟩ := newP X0 hx hZ (hw _ (List.mem_of_getElem? (i := 0) rfl)) e0 (g := (mkF m 102 #[own_jv p1, .second, own_jv p2, .second, iv p3, iv p4, iv p5, iv (1 : Int32), iv (0 : Int32), iv z40, iv (0 : Int32), iv z74, .val .null, .unset, .unset, .unset, .unset, .unset, .unset, .unset] [(.int z74)])) rfl (hb hby at_102) rfl (own_pos hk74.1) (cap := 1023) (own_cap _ hk74.1 hk74.2) (by decide) (by decide) (by decide)
      obtain ⟨b43, g43⟩ : ∃ z, z = h0.size := ⟨_, rfl⟩
      rw [← g43] at A43 st43
      have ne_hd_b43 : hd ≠ b43 := Nat.ne_of_lt (Nat.lt_of_lt_of_le Y_hd.lt (Nat.le_of_eq g43.symm))
      have gn_b43 : n0 ≤ b43 := Nat.le_trans Z0 (Nat.le_of_eq g43.symm)
      have Zs43 : n0 ≤ h43.size := Nat.le_trans Z0 E43.1
      have Fa44 : Sta Z h43 "com/example/millrace/millrace/wire/RecordBatchBuilder" "HEADER" "[B" (.ref hd) := S_h.ext E43
      have Fa45 : own_Y Z h43 hd (61 : Int32) := Y_hd.ext E43
      have V43 : own_Y Z h43 b43 z74 := own_Y.new A43 (own_pos hk74.1)
      refine own_st (T' := T43) (g' := (mkF m 104 #[own_jv p1, .second, own_jv p2, .second, iv p3, iv p4, iv p5, iv (1 : Int32), iv (0 : Int32), iv z40, iv (0 : Int32), iv z74, .val .null, .unset, .unset, .unset, .unset, .unset, .unset, .unset] [(.ref b43)])) (fun _ k => (st43) _ k) ?_
      refine own_st (T' := T43) (g' := (mkF m 106 #[own_jv p1, .second, own_jv p2, .second, iv p3, iv p4, iv p5, iv (1 : Int32), iv (0 : Int32), iv z40, iv (0 : Int32), iv z74, .val .null, rv b43, .unset, .unset, .unset, .unset, .unset, .unset] [])) (fun _ k => XS.astore X43.here hx rfl (hb hby at_104) rfl rfl (l' := #[own_jv p1, .second, own_jv p2, .second, iv p3, iv p4, iv p5, iv (1 : Int32), iv (0 : Int32), iv z40, iv (0 : Int32), iv z74, .val .null, rv b43, .unset, .unset, .unset, .unset, .unset, .unset]) rfl k) ?_
      obtain ⟨T46, h46, X46, e46, E46, A46, D46, -, st46⟩ := newO X43 hx hZ hown (hw _ (List.mem_of_getElem? (i := 1) rfl)) (hw _ (List.mem_of_getElem? (i := 2) rfl)) (hw _ (List.mem_of_getElem? (i := 3) rfl)) e43 (g := (mkF m 106 #[own_jv p1, .second, own_jv p2, .second, iv p3, iv p4, iv p5, iv (1 : Int32), iv (0 : Int32), iv z40, iv (0 : Int32), iv z74, .val .null, rv b43, .unset, .unset, .unset, .unset, .unset, .unset] [])) rfl (hb hby at_106) (by decide) (by decide)
      obtain ⟨b46, g46⟩ : ∃ z, z = h43.size := ⟨_, rfl⟩
      rw [← g46] at A46 D46 st46
      have ne_hd_b46 : hd ≠ b46 := Nat.ne_of_lt (Nat.lt_of_lt_of_le Fa45.lt (Nat.le_of_eq g46.symm))
      have ne_b43_b46 : b43 ≠ b46 := Nat.ne_of_lt (Nat.lt_of_lt_of_le V43.lt (Nat.le_of_eq g46.symm))
      have gn_b46 : n0 ≤ b46 := Nat.le_trans Zs43 (Nat.le_of_eq g46.symm)
      have Zs46 : n0 ≤ h46.size := Nat.le_trans Zs43 E46.1
      have Fa47 : Sta Z h46 "com/example/millrace/millrace/wire/RecordBatchBuilder" "HEADER" "[B" (.ref hd) := Fa44.ext E46
      have Fa48 : own_Y Z h46 hd (61 : Int32) := Fa45.ext E46
      have Fa49 : own_Y Z h46 b43 z74 := V43.ext E46
      have F46_out : Fld Z h46 b46 "com/example/millrace/millrace/wire/RecordBatchBuilder" "out" "Lcom/example/millrace/millrace/wire/ProtocolWriter;" .null := D46 (Or.inr (hw _ (List.mem_of_getElem? (i := 25) rfl))) (ty := (.object "com/example/millrace/millrace/wire/ProtocolWriter")) (by decide)
      have F46_count : Fld Z h46 b46 "com/example/millrace/millrace/wire/RecordBatchBuilder" "count" "I" (.int (0 : Int32)) := D46 (Or.inl (hw _ (List.mem_of_getElem? (i := 64) rfl))) (ty := .int) (by decide)
      have F46_baseTimestamp : Fld Z h46 b46 "com/example/millrace/millrace/wire/RecordBatchBuilder" "baseTimestamp" "J" (.long (0 : Int64)) := D46 (Or.inl (hw _ (List.mem_of_getElem? (i := 66) rfl))) (ty := .long) (by decide)
      have F46_maxTimestamp : Fld Z h46 b46 "com/example/millrace/millrace/wire/RecordBatchBuilder" "maxTimestamp" "J" (.long (0 : Int64)) := D46 (Or.inl (hw _ (List.mem_of_getElem? (i := 68) rfl))) (ty := .long) (by decide)
      refine own_st (T' := T46) (g' := (mkF m 109 #[own_jv p1, .second, own_jv p2, .second, iv p3, iv p4, iv p5, iv (1 : Int32), iv (0 : Int32), iv z40, iv (0 : Int32), iv z74, .val .null, rv b43, .unset, .unset, .unset, .unset, .unset, .unset] [(.ref b46)])) (fun _ k => (st46) _ k) ?_
      refine own_st (T' := T46) (g' := (mkF m 110 #[own_jv p1, .second, own_jv p2, .second, iv p3, iv p4, iv p5, iv (1 : Int32), iv (0 : Int32), iv z40, iv (0 : Int32), iv z74, .val .null, rv b43, .unset, .unset, .unset, .unset, .unset, .unset] [(.ref b46), (.ref b46)])) (fun _ k => XS.dup X46.here hx rfl (hb hby at_109) rfl rfl k) ?_
      refine own_st (T' := T46) (g' := (mkF m 111 #[own_jv p1, .second, own_jv p2, .second, iv p3, iv p4, iv p5, iv (1 : Int32), iv (0 : Int32), iv z40, iv (0 : Int32), iv z74, .val .null, rv b43, .unset, .unset, .unset, .unset, .unset, .unset] [(.int (0 : Int32)), (.ref b46), (.ref b46)])) (fun _ k => XS.iconst X46.here hx rfl (hb hby at_110) k) ?_
      obtain ⟨v50, T50, L50, X50, hQ50, st50⟩ := own_packV (X46.specialBack hx (y := (⟨"com/example/millrace/millrace/wire/RecordBatchBuilder", "<init>", "(I)V"⟩ : MethodName)) rfl hown (mvT hZ (hw _ (List.mem_of_getElem? (i := 4) rfl))) (mvT hZ (hw _ (List.mem_of_getElem? (i := 5) rfl))) (mvT hZ (hw _ (List.mem_of_getElem? (i := 6) rfl))) (by decide) (backOf (W := 1) (rm1 l Z a0 hw [] b46 hd h46 n0 Zs46 A46 F46_out F46_baseTimestamp F46_maxTimestamp F46_count Fa48 Fa47 gn_b46 (Ne.symm ne_hd_b46)) hZ (hw _ (List.mem_of_getElem? (i := 6) rfl)) (hw _ (List.mem_of_getElem? (i := 3) rfl)) (by decide) (by decide)) (g := (mkF m 111 #[own_jv p1, .second, own_jv p2, .second, iv p3, iv p4, iv p5, iv (1 : Int32), iv (0 : Int32), iv z40, iv (0 : Int32), iv z74, .val .null, rv b43, .unset, .unset, .unset, .unset, .unset, .unset] [(.int (0 : Int32)), (.ref b46), (.ref b46)])) rfl (by rw [hml]; rfl) (Steps.refl _) (a := b46) (argsL := [(.int (0 : Int32))]) (rest := [(.ref b46)]) (lenOf own_pd0_0 rfl) rfl (by show 2 * 0 + _ ≤ _; exact Nat.le_of_eq rfl) (hb hby at_111) (fun _ _ => ⟨rfl, e46, (by decide : 2 + 3 ≤ _), (by decide : 1027 + 2263 ≤ _)⟩))
      obtain ⟨rfl, N50q, Kq50, wo50, t50, nn50, hw50, ht50, gn_wo50, gn_t50, ne_wo50_t50, hA50, hB50, SS50⟩ := hQ50
      obtain ⟨lc50, X50, N50⟩ := own_loc X50 (Fr.app N0 N50q)
      have ne_hd_wo50 : hd ≠ wo50 := Nat.ne_of_lt (Nat.lt_of_lt_of_le Fa48.lt hw50)
      have ne_hd_t50 : hd ≠ t50 := Nat.ne_of_lt (Nat.lt_of_lt_of_le Fa48.lt ht50)
      have ne_b43_wo50 : b43 ≠ wo50 := Nat.ne_of_lt (Nat.lt_of_lt_of_le Fa49.lt hw50)
      have ne_b43_t50 : b43 ≠ t50 := Nat.ne_of_lt (Nat.lt_of_lt_of_le Fa49.lt ht50)
      have ne_b46_wo50 : b46 ≠ wo50 := Nat.ne_of_lt (Nat.lt_of_lt_of_le A46.lt hw50)
      have ne_b46_t50 : b46 ≠ t50 := Nat.ne_of_lt (Nat.lt_of_lt_of_le A46.lt ht50)
      have Zs50 : n0 ≤ T50.heap.size := Nat.le_trans Zs46 Kq50.1
      have Fa51 : own_Y Z T50.heap b43 z74 := Fa49.keep Kq50 (ninS ne_b43_b46 nin0)
      obtain ⟨S50_0, S50_1, S50_2, S50_3, S50_4, S50_5, S50_6, S50_7, S50_8⟩ := SS50
      refine own_st (T' := T50) (g' := (mkF m 114 #[own_jv p1, .second, own_jv p2, .second, iv p3, iv p4, iv p5, iv (1 : Int32), iv (0 : Int32), iv z40, iv (0 : Int32), iv z74, .val .null, rv b43, .unset, .unset, .unset, .unset, .unset, .unset] [(.ref b46)])) (fun _ k => (st50) _ k) ?_
      refine own_st (T' := T50) (g' := (mkF m 116 #[own_jv p1, .second, own_jv p2, .second, iv p3, iv p4, iv p5, iv (1 : Int32), iv (0 : Int32), iv z40, iv (0 : Int32), iv z74, .val .null, rv b43, rv b46, .unset, .unset, .unset, .unset, .unset] [])) (fun _ k => XS.astore X50.here hx rfl (hb hby at_114) rfl rfl (l' := #[own_jv p1, .second, own_jv p2, .second, iv p3, iv p4, iv p5, iv (1 : Int32), iv (0 : Int32), iv z40, iv (0 : Int32), iv z74, .val .null, rv b43, rv b46, .unset, .unset, .unset, .unset, .unset]) rfl k) ?_
      suffices J129 : ∀ (T' : State) (h' : Heap) (lc' : List Loc) (tj : Addr) (btj mtj : Int64) (cj Pj nj : Int32) (X' : Stand p l e room_1 s m #[(.long p1), (.long p2), (.int p3), (.int p4), (.int p5)] below meth c T' lc' 6 5480) (e' : T'.heap = h') (N' : Fr n0 lc') (Zh' : n0 ≤ h'.size) (gn_tj : n0 ≤ tj) (ne_b43_tj : b43 ≠ tj) (ne_b46_tj : b46 ≠ tj) (ne_wo50_tj : wo50 ≠ tj) (hc0 : 0 ≤ cj.toInt) (hc1 : cj.toInt ≤ 1) (hP0 : 0 ≤ Pj.toInt) (hP1 : Pj.toInt ≤ 82) (hn0 : 0 < nj.toInt) (hn1 : nj.toInt ≤ 300) (Fj0 : own_Y Z h' b43 z74) (Fj1 : Exa Z h' b46 "com/example/millrace/millrace/wire/RecordBatchBuilder") (Fj2 : Fld Z h' b46 "com/example/millrace/millrace/wire/RecordBatchBuilder" "out" "Lcom/example/millrace/millrace/wire/ProtocolWriter;" (.ref wo50)) (Fj3 : Fld Z h' b46 "com/example/millrace/millrace/wire/RecordBatchBuilder" "baseTimestamp" "J" (.long btj)) (Fj4 : Fld Z h' b46 "com/example/millrace/millrace/wire/RecordBatchBuilder" "maxTimestamp" "J" (.long mtj)) (Fj5 : Fld Z h' b46 "com/example/millrace/millrace/wire/RecordBatchBuilder" "count" "I" (.int cj)) (Fj6 : Exa Z h' wo50 "com/example/millrace/millrace/wire/ProtocolWriter") (Fj7 : Fld Z h' wo50 "com/example/millrace/millrace/wire/ProtocolWriter" "bytes" "[B" (.ref tj)) (Fj8 : Fld Z h' wo50 "com/example/millrace/millrace/wire/ProtocolWriter" "position" "I" (.int Pj)) (Fj9 : own_Y Z h' tj nj), own_Goes p e below (fun o U' => ∃ v L, o = .returned v ∧ Q0 Z p1 p2 p3 p4 p5 h0 n0 v U'.heap L ∧ FrameEnd s o U' L room_1.cells room_1.slots) T' (mkF m 129 #[own_jv p1, .second, own_jv p2, .second, iv p3, iv p4, iv p5, iv (1 : Int32), iv (0 : Int32), iv z40, iv (0 : Int32), iv z74, .val .null, rv b43, rv b46, .unset, .unset, .unset, .unset, .unset] []) by
        refine own_st (T' := T50) (g' := (mkF m 118 #[own_jv p1, .second, own_jv p2, .second, iv p3, iv p4, iv p5, iv (1 : Int32), iv (0 : Int32), iv z40, iv (0 : Int32), iv z74, .val .null, rv b43, rv b46, .unset, .unset, .unset, .unset, .unset] [(.int z40)])) (fun _ k => XS.iload X50.here hx rfl (hb hby at_116) rfl k) ?_
        by_cases hc118 : z40 = (0 : Int32)
        · refine own_st (T' := T50) (g' := (mkF m 129 #[own_jv p1, .second, own_jv p2, .second, iv p3, iv p4, iv p5, iv (1 : Int32), iv (0 : Int32), iv z40, iv (0 : Int32), iv z74, .val .null, rv b43, rv b46, .unset, .unset, .unset, .unset, .unset] [])) (fun _ k => XS.ifYes X50.here hx rfl (pc0 := 118) (pc' := 129) rfl (hb hby at_118) rfl ((if0 _ _).trans (teq hc118).1) (by decide) (by decide) k) ?_
          exact J129 _ _ _ _ _ _ _ _ _ (X50.more (by decide) (by decide)) rfl N50 Zs50 gn_t50 ne_b43_t50 ne_b46_t50 ne_wo50_t50 (by decide) (by decide) (by decide) (by decide) (by omega) (by omega) Fa51 S50_0 S50_1 S50_2 S50_3 S50_4 S50_5 S50_6 S50_7 S50_8
        · refine own_st (T' := T50) (g' := (mkF m 121 #[own_jv p1, .second, own_jv p2, .second, iv p3, iv p4, iv p5, iv (1 : Int32), iv (0 : Int32), iv z40, iv (0 : Int32), iv z74, .val .null, rv b43, rv b46, .unset, .unset, .unset, .unset, .unset] [])) (fun _ k => XS.ifNo X50.here hx rfl (hb hby at_118) rfl ((if0 _ _).trans (feq hc118).1) k) ?_
          refine own_st (T' := T50) (g' := (mkF m 123 #[own_jv p1, .second, own_jv p2, .second, iv p3, iv p4, iv p5, iv (1 : Int32), iv (0 : Int32), iv z40, iv (0 : Int32), iv z74, .val .null, rv b43, rv b46, .unset, .unset, .unset, .unset, .unset] [(.ref b46)])) (fun _ k => XS.aload X50.here hx rfl (hb hby at_121) rfl rfl k) ?_
          refine own_st (T' := T50) (g' := (mkF m 124 #[own_jv p1, .second, own_jv p2, .second, iv p3, iv p4, iv p5, iv (1 : Int32), iv (0 : Int32), iv z40, iv (0 : Int32), iv z74, .val .null, rv b43, rv b46, .unset, .unset, .unset, .unset, .unset] [(.long p1), (.ref b46)])) (fun _ k => XS.lloadN X50.here hx rfl (hb hby at_123) rfl k) ?_
          refine own_st (T' := T50) (g' := (mkF m 125 #[own_jv p1, .second, own_jv p2, .second, iv p3, iv p4, iv p5, iv (1 : Int32), iv (0 : Int32), iv z40, iv (0 : Int32), iv z74, .val .null, rv b43, rv b46, .unset, .unset, .unset, .unset, .unset] [.null, (.long p1), (.ref b46)])) (fun _ k => XS.aconstNull X50.here hx rfl (hb hby at_124) k) ?_
          refine own_st (T' := T50) (g' := (mkF m 126 #[own_jv p1, .second, own_jv p2, .second, iv p3, iv p4, iv p5, iv (1 : Int32), iv (0 : Int32), iv z40, iv (0 : Int32), iv z74, .val .null, rv b43, rv b46, .unset, .unset, .unset, .unset, .unset] [.null, .null, (.long p1), (.ref b46)])) (fun _ k => XS.aconstNull X50.here hx rfl (hb hby at_125) k) ?_
          obtain ⟨cq52, kq52, q52a, q52b, q52c⟩ := isOf hZ rfl S50_0
          obtain ⟨v52, T52, L52, X52, hQ52, st52⟩ := own_packV (X50.virtualBack hx (y := (⟨"com/example/millrace/millrace/wire/RecordBatchBuilder", "append", "(J[B[B)V"⟩ : MethodName)) (z := (⟨"com/example/millrace/millrace/wire/RecordBatchBuilder", "append", "(J[B[B)V"⟩ : MethodName)) hown (mvT hZ (hw _ (List.mem_of_getElem? (i := 58) rfl))) (mvT hZ (hw _ (List.mem_of_getElem? (i := 59) rfl))) (notFace_of_selects (args := #[]) (mvT hZ (hw _ (List.mem_of_getElem? (i := 61) rfl)))) (mvT hZ (hw _ (List.mem_of_getElem? (i := 61) rfl))) (mvT hZ (hw _ (List.mem_of_getElem? (i := 60) rfl))) (by decide) (backOf (W := 0) (rm10_11 l Z a0 hw [] b46 p1 wo50 t50 (0 : Int64) (0 : Int64) (0 : Int32) (61 : Int32) nn50 T50.heap n0 Zs50 S50_0 S50_1 S50_2 S50_3 S50_4 S50_5 S50_6 S50_7 S50_8 gn_b46 gn_wo50 gn_t50 ne_b46_wo50 ne_b46_t50 ne_wo50_t50 (by decide) (by decide) (by decide) (by decide) (by omega) (by omega)) hZ (hw _ (List.mem_of_getElem? (i := 62) rfl)) (hw _ (List.mem_of_getElem? (i := 3) rfl)) (by decide) (by decide)) q52a q52c (g := (mkF m 126 #[own_jv p1, .second, own_jv p2, .second, iv p3, iv p4, iv p5, iv (1 : Int32), iv (0 : Int32), iv z40, iv (0 : Int32), iv z74, .val .null, rv b43, rv b46, .unset, .unset, .unset, .unset, .unset] [.null, .null, (.long p1), (.ref b46)])) rfl (by rw [hml]; rfl) (Steps.refl _) (argsL := [(.long p1), .null, .null]) (rest := []) (lenOf own_pd0_1 rfl) rfl (by show 2 * 0 + _ ≤ _; exact Nat.le_of_eq rfl) (hb hby at_126) (fun _ _ => ⟨rfl, rfl, (by decide : 5 + 1 ≤ _), (by decide : 3290 + 2190 ≤ _)⟩))
          obtain ⟨rfl, N52q, Kq52, t52, nn52, P52, bt52, mt52, ht52, gn_t52, hA52, hB52, hC52, hD52, SS52⟩ := hQ52
          obtain ⟨lc52, X52, N52⟩ := own_loc X52 (Fr.app N50 N52q)
          have ne_b43_t52 : b43 ≠ t52 := own_sep ht52 ne_b43_t50 Fa51.lt
          have ne_b46_t52 : b46 ≠ t52 := own_sep ht52 ne_b46_t50 S50_0.lt
          have ne_wo50_t52 : wo50 ≠ t52 := own_sep ht52 ne_wo50_t50 S50_5.lt
          have Zs52 : n0 ≤ T52.heap.size := Nat.le_trans Zs50 Kq52.1
          have Fa53 : own_Y Z T52.heap b43 z74 := Fa51.keep Kq52 (ninS ne_b43_b46 (ninS ne_b43_wo50 (ninS ne_b43_t50 nin0)))
          obtain ⟨S52_0, S52_1, S52_2, S52_3, S52_4, S52_5, S52_6, S52_7, S52_8⟩ := SS52
          refine own_st (T' := T52) (g' := (mkF m 129 #[own_jv p1, .second, own_jv p2, .second, iv p3, iv p4, iv p5, iv (1 : Int32), iv (0 : Int32), iv z40, iv (0 : Int32), iv z74, .val .null, rv b43, rv b46, .unset, .unset, .unset, .unset, .unset] [])) (fun _ k => (st52) _ k) ?_
          exact J129 _ _ _ _ _ _ _ _ _ X52 rfl N52 Zs52 gn_t52 ne_b43_t52 ne_b46_t52 ne_wo50_t52 (by decide) (by decide) (own_j1 hA52) (own_j2 hB52) hD52 (own_j3 hC52 (by omega)) Fa53 S52_0 S52_1 S52_2 S52_3 S52_4 S52_5 S52_6 S52_7 S52_8
      intro TJ hJ lcJ tj btj mtj cj Pj nj XJ eJ NJ ZJ gn_tj ne_b43_tj ne_b46_tj ne_wo50_tj hc0 hc1 hP0 hP1 hn0 hn1 Fj0 Fj1 Fj2 Fj3 Fj4 Fj5 Fj6 Fj7 Fj8 Fj9
      refine own_st (T' := TJ) (g' := (mkF m 131 #[own_jv p1, .second, own_jv p2, .second, iv p3, iv p4, iv p5, iv (1 : Int32), iv (0 : Int32), iv z40, iv (0 : Int32), iv z74, .val .null, rv b43, rv b46, .unset, .unset, .unset, .unset, .unset] [(.ref b46)])) (fun _ k => XS.aload XJ.here hx rfl (hb hby at_129) rfl rfl k) ?_
      obtain ⟨cq54, kq54, q54a, q54b, q54c⟩ := isOf hZ eJ Fj1
      obtain ⟨v54, T54, L54, X54, hQ54, st54⟩ := own_packV (XJ.virtualBack hx (y := (⟨"com/example/millrace/millrace/wire/RecordBatchBuilder", "sizeInBytes", "()I"⟩ : MethodName)) (z := (⟨"com/example/millrace/millrace/wire/RecordBatchBuilder", "sizeInBytes", "()I"⟩ : MethodName)) hown (mvT hZ (hw _ (List.mem_of_getElem? (i := 48) rfl))) (mvT hZ (hw _ (List.mem_of_getElem? (i := 49) rfl))) (notFace_of_selects (args := #[]) (mvT hZ (hw _ (List.mem_of_getElem? (i := 51) rfl)))) (mvT hZ (hw _ (List.mem_of_getElem? (i := 51) rfl))) (mvT hZ (hw _ (List.mem_of_getElem? (i := 50) rfl))) (by decide) (backOf (W := 0) (rm8 l Z a0 hw [] b46 wo50 Pj hJ n0 ZJ Fj2 Fj6 Fj8) hZ (hw _ (List.mem_of_getElem? (i := 52) rfl)) (hw _ (List.mem_of_getElem? (i := 3) rfl)) (by decide) (by decide)) q54a q54c (g := (mkF m 131 #[own_jv p1, .second, own_jv p2, .second, iv p3, iv p4, iv p5, iv (1 : Int32), iv (0 : Int32), iv z40, iv (0 : Int32), iv z74, .val .null, rv b43, rv b46, .unset, .unset, .unset, .unset, .unset] [(.ref b46)])) rfl (by rw [hml]; rfl) (Steps.refl _) (argsL := []) (rest := []) (lenOf own_pd0_2 rfl) rfl (by show 2 * 0 + _ ≤ _; exact Nat.le_of_eq rfl) (hb hby at_131) (fun _ _ => ⟨rfl, eJ, (by decide : 6 + 0 ≤ _), (by decide : 5480 + 0 ≤ _)⟩))
      obtain ⟨rfl, N54q, e54⟩ := hQ54
      obtain ⟨lc54, X54, N54⟩ := own_loc X54 (Fr.app NJ N54q)
      refine own_st (T' := T54) (g' := (mkF m 134 #[own_jv p1, .second, own_jv p2, .second, iv p3, iv p4, iv p5, iv (1 : Int32), iv (0 : Int32), iv z40, iv (0 : Int32), iv z74, .val .null, rv b43, rv b46, .unset, .unset, .unset, .unset, .unset] [(.int Pj)])) (fun _ k => (st54) _ k) ?_
      refine own_st (T' := T54) (g' := (mkF m 136 #[own_jv p1, .second, own_jv p2, .second, iv p3, iv p4, iv p5, iv (1 : Int32), iv (0 : Int32), iv z40, iv (0 : Int32), iv z74, .val .null, rv b43, rv b46, iv Pj, .unset, .unset, .unset, .unset] [])) (fun _ k => XS.istore X54.here hx rfl (hb hby at_134) rfl (l' := #[own_jv p1, .second, own_jv p2, .second, iv p3, iv p4, iv p5, iv (1 : Int32), iv (0 : Int32), iv z40, iv (0 : Int32), iv z74, .val .null, rv b43, rv b46, iv Pj, .unset, .unset, .unset, .unset]) rfl k) ?_
      refine own_st (T' := T54) (g' := (mkF m 138 #[own_jv p1, .second, own_jv p2, .second, iv p3, iv p4, iv p5, iv (1 : Int32), iv (0 : Int32), iv z40, iv (0 : Int32), iv z74, .val .null, rv b43, rv b46, iv Pj, .unset, .unset, .unset, .unset] [(.ref b46)])) (fun _ k => XS.aload X54.here hx rfl (hb hby at_136) rfl rfl k) ?_
      refine own_st (T' := T54) (g' := (mkF m 139 #[own_jv p1, .second, own_jv p2, .second, iv p3, iv p4, iv p5, iv (1 : Int32), iv (0 : Int32), iv z40, iv (0 : Int32), iv z74, .val .null, rv b43, rv b46, iv Pj, .unset, .unset, .unset, .unset] [(.long p2), (.ref b46)])) (fun _ k => XS.lloadN X54.here hx rfl (hb hby at_138) rfl k) ?_
      refine own_st (T' := T54) (g' := (mkF m 141 #[own_jv p1, .second, own_jv p2, .second, iv p3, iv p4, iv p5, iv (1 : Int32), iv (0 : Int32), iv z40, iv (0 : Int32), iv z74, .val .null, rv b43, rv b46, iv Pj, .unset, .unset, .unset, .unset] [.null, (.long p2), (.ref b46)])) (fun _ k => XS.aload X54.here hx rfl (hb hby at_139) rfl rfl k) ?_
      refine own_st (T' := T54) (g' := (mkF m 143 #[own_jv p1, .second, own_jv p2, .second, iv p3, iv p4, iv p5, iv (1 : Int32), iv (0 : Int32), iv z40, iv (0 : Int32), iv z74, .val .null, rv b43, rv b46, iv Pj, .unset, .unset, .unset, .unset] [(.ref b43), .null, (.long p2), (.ref b46)])) (fun _ k => XS.aload X54.here hx rfl (hb hby at_141) rfl rfl k) ?_
      obtain ⟨cq55, kq55, q55a, q55b, q55c⟩ := isOf hZ e54 Fj1
      obtain ⟨v55, T55, L55, X55, hQ55, st55⟩ := own_packV (X54.virtualBack hx (y := (⟨"com/example/millrace/millrace/wire/RecordBatchBuilder", "append", "(J[B[B)V"⟩ : MethodName)) (z := (⟨"com/example/millrace/millrace/wire/RecordBatchBuilder", "append", "(J[B[B)V"⟩ : MethodName)) hown (mvT hZ (hw _ (List.mem_of_getElem? (i := 58) rfl))) (mvT hZ (hw _ (List.mem_of_getElem? (i := 59) rfl))) (notFace_of_selects (args := #[]) (mvT hZ (hw _ (List.mem_of_getElem? (i := 61) rfl)))) (mvT hZ (hw _ (List.mem_of_getElem? (i := 61) rfl))) (mvT hZ (hw _ (List.mem_of_getElem? (i := 60) rfl))) (by decide) (backOf (W := 0) (rm10_10 l Z a0 hw [] b46 p2 b43 wo50 tj btj mtj cj Pj nj z74 hJ n0 ZJ Fj1 Fj2 Fj3 Fj4 Fj5 Fj6 Fj7 Fj8 Fj9 Fj0 gn_b46 gn_wo50 gn_tj ne_b46_wo50 ne_b46_tj ne_wo50_tj (Ne.symm ne_b43_b46) (Ne.symm ne_b43_wo50) (Ne.symm ne_b43_tj) (by omega) (by omega) (by omega) (by omega) (by omega) (by omega) (by omega) (by omega)) hZ (hw _ (List.mem_of_getElem? (i := 62) rfl)) (hw _ (List.mem_of_getElem? (i := 3) rfl)) (by decide) (by decide)) q55a q55c (g := (mkF m 143 #[own_jv p1, .second, own_jv p2, .second, iv p3, iv p4, iv p5, iv (1 : Int32), iv (0 : Int32), iv z40, iv (0 : Int32), iv z74, .val .null, rv b43, rv b46, iv Pj, .unset, .unset, .unset, .unset] [(.ref b43), .null, (.long p2), (.ref b46)])) rfl (by rw [hml]; rfl) (Steps.refl _) (argsL := [(.long p2), .null, (.ref b43)]) (rest := []) (lenOf own_pd0_1 rfl) rfl (by show 2 * 0 + _ ≤ _; exact Nat.le_of_eq rfl) (hb hby at_143) (fun _ _ => ⟨rfl, e54, (by decide : 6 + 1 ≤ _), (by decide : 5480 + 2190 ≤ _)⟩))
      obtain ⟨rfl, N55q, Kq55, t55, nn55, P55, bt55, mt55, ht55, gn_t55, hA55, hB55, hC55, hD55, SS55⟩ := hQ55
      obtain ⟨lc55, X55, N55⟩ := own_loc X55 (Fr.app N54 N55q)
      have ne_b43_t55 : b43 ≠ t55 := own_sep ht55 ne_b43_tj Fj0.lt
      have ne_b46_t55 : b46 ≠ t55 := own_sep ht55 ne_b46_tj Fj1.lt
      have ne_wo50_t55 : wo50 ≠ t55 := own_sep ht55 ne_wo50_tj Fj6.lt
      have Zs55 : n0 ≤ T55.heap.size := Nat.le_trans ZJ Kq55.1
      have Fa56 : own_Y Z T55.heap b43 z74 := Fj0.keep Kq55 (ninS ne_b43_b46 (ninS ne_b43_wo50 (ninS ne_b43_tj nin0)))
      obtain ⟨S55_0, S55_1, S55_2, S55_3, S55_4, S55_5, S55_6, S55_7, S55_8⟩ := SS55
      refine own_st (T' := T55) (g' := (mkF m 146 #[own_jv p1, .second, own_jv p2, .second, iv p3, iv p4, iv p5, iv (1 : Int32), iv (0 : Int32), iv z40, iv (0 : Int32), iv z74, .val .null, rv b43, rv b46, iv Pj, .unset, .unset, .unset, .unset] [])) (fun _ k => (st55) _ k) ?_
      refine own_st (T' := T55) (g' := (mkF m 148 #[own_jv p1, .second, own_jv p2, .second, iv p3, iv p4, iv p5, iv (1 : Int32), iv (0 : Int32), iv z40, iv (0 : Int32), iv z74, .val .null, rv b43, rv b46, iv Pj, .unset, .unset, .unset, .unset] [(.ref b46)])) (fun _ k => XS.aload X55.here hx rfl (hb hby at_146) rfl rfl k) ?_
      obtain ⟨cq57, kq57, q57a, q57b, q57c⟩ := isOf hZ rfl S55_0
      obtain ⟨v57, T57, L57, X57, hQ57, st57⟩ := own_packV (X55.virtualBack hx (y := (⟨"com/example/millrace/millrace/wire/RecordBatchBuilder", "sizeInBytes", "()I"⟩ : MethodName)) (z := (⟨"com/example/millrace/millrace/wire/RecordBatchBuilder", "sizeInBytes", "()I"⟩ : MethodName)) hown (mvT hZ (hw _ (List.mem_of_getElem? (i := 48) rfl))) (mvT hZ (hw _ (List.mem_of_getElem? (i := 49) rfl))) (notFace_of_selects (args := #[]) (mvT hZ (hw _ (List.mem_of_getElem? (i := 51) rfl)))) (mvT hZ (hw _ (List.mem_of_getElem? (i := 51) rfl))) (mvT hZ (hw _ (List.mem_of_getElem? (i := 50) rfl))) (by decide) (backOf (W := 0) (rm8 l Z a0 hw [] b46 wo50 P55 T55.heap n0 Zs55 S55_1 S55_5 S55_7) hZ (hw _ (List.mem_of_getElem? (i := 52) rfl)) (hw _ (List.mem_of_getElem? (i := 3) rfl)) (by decide) (by decide)) q57a q57c (g := (mkF m 148 #[own_jv p1, .second, own_jv p2, .second, iv p3, iv p4, iv p5, iv (1 : Int32), iv (0 : Int32), iv z40, iv (0 : Int32), iv z74, .val .null, rv b43, rv b46, iv Pj, .unset, .unset, .unset, .unset] [(.ref b46)])) rfl (by rw [hml]; rfl) (Steps.refl _) (argsL := []) (rest := []) (lenOf own_pd0_2 rfl) rfl (by show 2 * 0 + _ ≤ _; exact Nat.le_of_eq rfl) (hb hby at_148) (fun _ _ => ⟨rfl, rfl, (by decide : 7 + 0 ≤ _), (by decide : 7670 + 0 ≤ _)⟩))
      obtain ⟨rfl, N57q, e57⟩ := hQ57
      obtain ⟨lc57, X57, N57⟩ := own_loc X57 (Fr.app N55 N57q)
      refine own_st (T' := T57) (g' := (mkF m 151 #[own_jv p1, .second, own_jv p2, .second, iv p3, iv p4, iv p5, iv (1 : Int32), iv (0 : Int32), iv z40, iv (0 : Int32), iv z74, .val .null, rv b43, rv b46, iv Pj, .unset, .unset, .unset, .unset] [(.int P55)])) (fun _ k => (st57) _ k) ?_
      refine own_st (T' := T57) (g' := (mkF m 153 #[own_jv p1, .second, own_jv p2, .second, iv p3, iv p4, iv p5, iv (1 : Int32), iv (0 : Int32), iv z40, iv (0 : Int32), iv z74, .val .null, rv b43, rv b46, iv Pj, .unset, .unset, .unset, .unset] [(.int Pj), (.int P55)])) (fun _ k => XS.iload X57.here hx rfl (hb hby at_151) rfl k) ?_
      refine own_st (T' := T57) (g' := (mkF m 154 #[own_jv p1, .second, own_jv p2, .second, iv p3, iv p4, iv p5, iv (1 : Int32), iv (0 : Int32), iv z40, iv (0 : Int32), iv z74, .val .null, rv b43, rv b46, iv Pj, .unset, .unset, .unset, .unset] [(.int (P55 - Pj))])) (fun _ k => XS.isub X57.here hx rfl (hb hby at_153) rfl k) ?_
      refine own_st (T' := T57) (g' := (mkF m 156 #[own_jv p1, .second, own_jv p2, .second, iv p3, iv p4, iv p5, iv (1 : Int32), iv (0 : Int32), iv z40, iv (0 : Int32), iv z74, .val .null, rv b43, rv b46, iv Pj, iv (P55 - Pj), .unset, .unset, .unset] [])) (fun _ k => XS.istore X57.here hx rfl (hb hby at_154) rfl (l' := #[own_jv p1, .second, own_jv p2, .second, iv p3, iv p4, iv p5, iv (1 : Int32), iv (0 : Int32), iv z40, iv (0 : Int32), iv z74, .val .null, rv b43, rv b46, iv Pj, iv (P55 - Pj), .unset, .unset, .unset]) rfl k) ?_
      refine own_st (T' := T57) (g' := (mkF m 158 #[own_jv p1, .second, own_jv p2, .second, iv p3, iv p4, iv p5, iv (1 : Int32), iv (0 : Int32), iv z40, iv (0 : Int32), iv z74, .val .null, rv b43, rv b46, iv Pj, iv (P55 - Pj), .unset, .unset, .unset] [.null])) (fun _ k => XS.aload X57.here hx rfl (hb hby at_156) rfl rfl k) ?_
      refine own_st (T' := T57) (g' := (mkF m 160 #[own_jv p1, .second, own_jv p2, .second, iv p3, iv p4, iv p5, iv (1 : Int32), iv (0 : Int32), iv z40, iv (0 : Int32), iv z74, .val .null, rv b43, rv b46, iv Pj, iv (P55 - Pj), .unset, .unset, .unset] [(.ref b43), .null])) (fun _ k => XS.aload X57.here hx rfl (hb hby at_158) rfl rfl k) ?_
      obtain ⟨v58, T58, L58, X58, hQ58, st58⟩ := own_packS (Jvm.LawKit.callS X57 hx (y := (⟨"com/example/millrace/millrace/wire/RecordBatchBuilder", "maxRecordSize", "([B[B)I"⟩ : MethodName)) hown (mvT hZ (hw _ (List.mem_of_getElem? (i := 120) rfl))) (mvT hZ (hw _ (List.mem_of_getElem? (i := 121) rfl))) (mvT hZ (hw _ (List.mem_of_getElem? (i := 3) rfl))) (mvT hZ (hw _ (List.mem_of_getElem? (i := 122) rfl))) (by decide) (backOf (W := 0) (rm24_10 l Z a0 hw [] b43 z74 T55.heap n0 Zs55 Fa56) hZ (hw _ (List.mem_of_getElem? (i := 122) rfl)) (hw _ (List.mem_of_getElem? (i := 3) rfl)) (by decide) (by decide)) (g := (mkF m 160 #[own_jv p1, .second, own_jv p2, .second, iv p3, iv p4, iv p5, iv (1 : Int32), iv (0 : Int32), iv z40, iv (0 : Int32), iv z74, .val .null, rv b43, rv b46, iv Pj, iv (P55 - Pj), .unset, .unset, .unset] [(.ref b43), .null])) rfl (by rw [hml]; rfl) (argsL := [.null, (.ref b43)]) (rest := []) (lenOf own_pd0_3 rfl) rfl (by show 2 * 0 + _ ≤ _; exact Nat.le_of_eq rfl) (hb hby at_160) (fun _ _ => ⟨rfl, e57, (by decide : 7 + 0 ≤ _), (by decide : 7670 + 0 ≤ _)⟩))
      obtain ⟨rfl, N58q, e58⟩ := hQ58
      obtain ⟨lc58, X58, N58⟩ := own_loc X58 (Fr.app N57 N58q)
      refine own_st (T' := T58) (g' := (mkF m 163 #[own_jv p1, .second, own_jv p2, .second, iv p3, iv p4, iv p5, iv (1 : Int32), iv (0 : Int32), iv z40, iv (0 : Int32), iv z74, .val .null, rv b43, rv b46, iv Pj, iv (P55 - Pj), .unset, .unset, .unset] [(.int (((((26 : Int32) + (0 : Int32)) + (5 : Int32)) + z74) + (1 : Int32)))])) (fun _ k => (st58) _ k) ?_
      generalize hz163 : (((((26 : Int32) + (0 : Int32)) + (5 : Int32)) + z74) + (1 : Int32)) = z163
      refine own_st (T' := T58) (g' := (mkF m 165 #[own_jv p1, .second, own_jv p2, .second, iv p3, iv p4, iv p5, iv (1 : Int32), iv (0 : Int32), iv z40, iv (0 : Int32), iv z74, .val .null, rv b43, rv b46, iv Pj, iv (P55 - Pj), iv z163, .unset, .unset] [])) (fun _ k => XS.istore X58.here hx rfl (hb hby at_163) rfl (l' := #[own_jv p1, .second, own_jv p2, .second, iv p3, iv p4, iv p5, iv (1 : Int32), iv (0 : Int32), iv z40, iv (0 : Int32), iv z74, .val .null, rv b43, rv b46, iv Pj, iv (P55 - Pj), iv z163, .unset, .unset]) rfl k) ?_
      refine own_st (T' := T58) (g' := (mkF m 166 #[own_jv p1, .second, own_jv p2, .second, iv p3, iv p4, iv p5, iv (1 : Int32), iv (0 : Int32), iv z40, iv (0 : Int32), iv z74, .val .null, rv b43, rv b46, iv Pj, iv (P55 - Pj), iv z163, .unset, .unset] [.null])) (fun _ k => XS.aconstNull X58.here hx rfl (hb hby at_165) k) ?_
      refine own_st (T' := T58) (g' := (mkF m 167 #[own_jv p1, .second, own_jv p2, .second, iv p3, iv p4, iv p5, iv (1 : Int32), iv (0 : Int32), iv z40, iv (0 : Int32), iv z74, .val .null, rv b43, rv b46, iv Pj, iv (P55 - Pj), iv z163, .unset, .unset] [.null, .null])) (fun _ k => XS.aconstNull X58.here hx rfl (hb hby at_166) k) ?_
      obtain ⟨v59, T59, L59, X59, hQ59, st59⟩ := own_packS (Jvm.LawKit.callS X58 hx (y := (⟨"com/example/millrace/millrace/wire/RecordBatchBuilder", "maxRecordSize", "([B[B)I"⟩ : MethodName)) hown (mvT hZ (hw _ (List.mem_of_getElem? (i := 120) rfl))) (mvT hZ (hw _ (List.mem_of_getElem? (i := 121) rfl))) (mvT hZ (hw _ (List.mem_of_getElem? (i := 3) rfl))) (mvT hZ (hw _ (List.mem_of_getElem? (i := 122) rfl))) (by decide) (backOf (W := 0) (rm24_11 l Z a0 hw []  T55.heap n0 Zs55 ) hZ (hw _ (List.mem_of_getElem? (i := 122) rfl)) (hw _ (List.mem_of_getElem? (i := 3) rfl)) (by decide) (by decide)) (g := (mkF m 167 #[own_jv p1, .second, own_jv p2, .second, iv p3, iv p4, iv p5, iv (1 : Int32), iv (0 : Int32), iv z40, iv (0 : Int32), iv z74, .val .null, rv b43, rv b46, iv Pj, iv (P55 - Pj), iv z163, .unset, .unset] [.null, .null])) rfl (by rw [hml]; rfl) (argsL := [.null, .null]) (rest := []) (lenOf own_pd0_3 rfl) rfl (by show 2 * 0 + _ ≤ _; exact Nat.le_of_eq rfl) (hb hby at_167) (fun _ _ => ⟨rfl, e58, (by decide : 7 + 0 ≤ _), (by decide : 7670 + 0 ≤ _)⟩))
      obtain ⟨rfl, N59q, e59⟩ := hQ59
      obtain ⟨lc59, X59, N59⟩ := own_loc X59 (Fr.app N58 N59q)
      refine own_st (T' := T59) (g' := (mkF m 170 #[own_jv p1, .second, own_jv p2, .second, iv p3, iv p4, iv p5, iv (1 : Int32), iv (0 : Int32), iv z40, iv (0 : Int32), iv z74, .val .null, rv b43, rv b46, iv Pj, iv (P55 - Pj), iv z163, .unset, .unset] [(.int (((((26 : Int32) + (0 : Int32)) + (5 : Int32)) + (0 : Int32)) + (1 : Int32)))])) (fun _ k => (st59) _ k) ?_
      refine own_st (T' := T59) (g' := (mkF m 172 #[own_jv p1, .second, own_jv p2, .second, iv p3, iv p4, iv p5, iv (1 : Int32), iv (0 : Int32), iv z40, iv (0 : Int32), iv z74, .val .null, rv b43, rv b46, iv Pj, iv (P55 - Pj), iv z163, iv (((((26 : Int32) + (0 : Int32)) + (5 : Int32)) + (0 : Int32)) + (1 : Int32)), .unset] [])) (fun _ k => XS.istore X59.here hx rfl (hb hby at_170) rfl (l' := #[own_jv p1, .second, own_jv p2, .second, iv p3, iv p4, iv p5, iv (1 : Int32), iv (0 : Int32), iv z40, iv (0 : Int32), iv z74, .val .null, rv b43, rv b46, iv Pj, iv (P55 - Pj), iv z163, iv (((((26 : Int32) + (0 : Int32)) + (5 : Int32)) + (0 : Int32)) + (1 : Int32)), .unset]) rfl k) ?_
      refine own_st (T' := T59) (g' := (mkF m 174 #[own_jv p1, .second, own_jv p2, .second, iv p3, iv p4, iv p5, iv (1 : Int32), iv (0 : Int32), iv z40, iv (0 : Int32), iv z74, .val .null, rv b43, rv b46, iv Pj, iv (P55 - Pj), iv z163, iv (((((26 : Int32) + (0 : Int32)) + (5 : Int32)) + (0 : Int32)) + (1 : Int32)), .unset] [(.int (32 : Int32))])) (fun _ k => XS.bipush X59.here hx rfl (hb hby at_172) k) ?_
      refine own_st (T' := T59) (g' := (mkF m 176 #[own_jv p1, .second, own_jv p2, .second, iv p3, iv p4, iv p5, iv (1 : Int32), iv (0 : Int32), iv z40, iv (0 : Int32), iv z74, .val .null, rv b43, rv b46, iv Pj, iv (P55 - Pj), iv z163, iv (((((26 : Int32) + (0 : Int32)) + (5 : Int32)) + (0 : Int32)) + (1 : Int32)), iv (32 : Int32)] [])) (fun _ k => XS.istore X59.here hx rfl (hb hby at_174) rfl (l' := #[own_jv p1, .second, own_jv p2, .second, iv p3, iv p4, iv p5, iv (1 : Int32), iv (0 : Int32), iv z40, iv (0 : Int32), iv z74, .val .null, rv b43, rv b46, iv Pj, iv (P55 - Pj), iv z163, iv (((((26 : Int32) + (0 : Int32)) + (5 : Int32)) + (0 : Int32)) + (1 : Int32)), iv (32 : Int32)]) rfl k) ?_
      refine own_st (T' := T59) (g' := (mkF m 178 #[own_jv p1, .second, own_jv p2, .second, iv p3, iv p4, iv p5, iv (1 : Int32), iv (0 : Int32), iv z40, iv (0 : Int32), iv z74, .val .null, rv b43, rv b46, iv Pj, iv (P55 - Pj), iv z163, iv (((((26 : Int32) + (0 : Int32)) + (5 : Int32)) + (0 : Int32)) + (1 : Int32)), iv (32 : Int32)] [(.int (((((26 : Int32) + (0 : Int32)) + (5 : Int32)) + (0 : Int32)) + (1 : Int32)))])) (fun _ k => XS.iload X59.here hx rfl (hb hby at_176) rfl k) ?_
      refine own_st (T' := T59) (g' := (mkF m 180 #[own_jv p1, .second, own_jv p2, .second, iv p3, iv p4, iv p5, iv (1 : Int32), iv (0 : Int32), iv z40, iv (0 : Int32), iv z74, .val .null, rv b43, rv b46, iv Pj, iv (P55 - Pj), iv z163, iv (((((26 : Int32) + (0 : Int32)) + (5 : Int32)) + (0 : Int32)) + (1 : Int32)), iv (32 : Int32)] [(.int (32 : Int32)), (.int (((((26 : Int32) + (0 : Int32)) + (5 : Int32)) + (0 : Int32)) + (1 : Int32)))])) (fun _ k => XS.iload X59.here hx rfl (hb hby at_178) rfl k) ?_
      refine own_st (T' := T59) (g' := (mkF m 183 #[own_jv p1, .second, own_jv p2, .second, iv p3, iv p4, iv p5, iv (1 : Int32), iv (0 : Int32), iv z40, iv (0 : Int32), iv z74, .val .null, rv b43, rv b46, iv Pj, iv (P55 - Pj), iv z163, iv (((((26 : Int32) + (0 : Int32)) + (5 : Int32)) + (0 : Int32)) + (1 : Int32)), iv (32 : Int32)] [])) (fun _ k => XS.icmpNo X59.here hx rfl (hb hby at_180) rfl (teq (by decide : (((((26 : Int32) + (0 : Int32)) + (5 : Int32)) + (0 : Int32)) + (1 : Int32)) = (32 : Int32))).2 k) ?_
      refine own_st (T' := T59) (g' := (mkF m 185 #[own_jv p1, .second, own_jv p2, .second, iv p3, iv p4, iv p5, iv (1 : Int32), iv (0 : Int32), iv z40, iv (0 : Int32), iv z74, .val .null, rv b43, rv b46, iv Pj, iv (P55 - Pj), iv z163, iv (((((26 : Int32) + (0 : Int32)) + (5 : Int32)) + (0 : Int32)) + (1 : Int32)), iv (32 : Int32)] [(.int z163)])) (fun _ k => XS.iload X59.here hx rfl (hb hby at_183) rfl k) ?_
      refine own_st (T' := T59) (g' := (mkF m 187 #[own_jv p1, .second, own_jv p2, .second, iv p3, iv p4, iv p5, iv (1 : Int32), iv (0 : Int32), iv z40, iv (0 : Int32), iv z74, .val .null, rv b43, rv b46, iv Pj, iv (P55 - Pj), iv z163, iv (((((26 : Int32) + (0 : Int32)) + (5 : Int32)) + (0 : Int32)) + (1 : Int32)), iv (32 : Int32)] [(.int (((((26 : Int32) + (0 : Int32)) + (5 : Int32)) + (0 : Int32)) + (1 : Int32))), (.int z163)])) (fun _ k => XS.iload X59.here hx rfl (hb hby at_185) rfl k) ?_
      refine own_st (T' := T59) (g' := (mkF m 188 #[own_jv p1, .second, own_jv p2, .second, iv p3, iv p4, iv p5, iv (1 : Int32), iv (0 : Int32), iv z40, iv (0 : Int32), iv z74, .val .null, rv b43, rv b46, iv Pj, iv (P55 - Pj), iv z163, iv (((((26 : Int32) + (0 : Int32)) + (5 : Int32)) + (0 : Int32)) + (1 : Int32)), iv (32 : Int32)] [(.int (z163 - (((((26 : Int32) + (0 : Int32)) + (5 : Int32)) + (0 : Int32)) + (1 : Int32))))])) (fun _ k => XS.isub X59.here hx rfl (hb hby at_187) rfl k) ?_
      refine own_st (T' := T59) (g' := (mkF m 190 #[own_jv p1, .second, own_jv p2, .second, iv p3, iv p4, iv p5, iv (1 : Int32), iv (0 : Int32), iv z40, iv (0 : Int32), iv z74, .val .null, rv b43, rv b46, iv Pj, iv (P55 - Pj), iv z163, iv (((((26 : Int32) + (0 : Int32)) + (5 : Int32)) + (0 : Int32)) + (1 : Int32)), iv (32 : Int32)] [(.int (0 : Int32)), (.int (z163 - (((((26 : Int32) + (0 : Int32)) + (5 : Int32)) + (0 : Int32)) + (1 : Int32))))])) (fun _ k => XS.iload X59.here hx rfl (hb hby at_188) rfl k) ?_
      refine own_st (T' := T59) (g' := (mkF m 192 #[own_jv p1, .second, own_jv p2, .second, iv p3, iv p4, iv p5, iv (1 : Int32), iv (0 : Int32), iv z40, iv (0 : Int32), iv z74, .val .null, rv b43, rv b46, iv Pj, iv (P55 - Pj), iv z163, iv (((((26 : Int32) + (0 : Int32)) + (5 : Int32)) + (0 : Int32)) + (1 : Int32)), iv (32 : Int32)] [(.int z74), (.int (0 : Int32)), (.int (z163 - (((((26 : Int32) + (0 : Int32)) + (5 : Int32)) + (0 : Int32)) + (1 : Int32))))])) (fun _ k => XS.iload X59.here hx rfl (hb hby at_190) rfl k) ?_
      refine own_st (T' := T59) (g' := (mkF m 193 #[own_jv p1, .second, own_jv p2, .second, iv p3, iv p4, iv p5, iv (1 : Int32), iv (0 : Int32), iv z40, iv (0 : Int32), iv z74, .val .null, rv b43, rv b46, iv Pj, iv (P55 - Pj), iv z163, iv (((((26 : Int32) + (0 : Int32)) + (5 : Int32)) + (0 : Int32)) + (1 : Int32)), iv (32 : Int32)] [(.int ((0 : Int32) + z74)), (.int (z163 - (((((26 : Int32) + (0 : Int32)) + (5 : Int32)) + (0 : Int32)) + (1 : Int32))))])) (fun _ k => XS.iadd X59.here hx rfl (hb hby at_192) rfl k) ?_
      refine own_st (T' := T59) (g' := (mkF m 196 #[own_jv p1, .second, own_jv p2, .second, iv p3, iv p4, iv p5, iv (1 : Int32), iv (0 : Int32), iv z40, iv (0 : Int32), iv z74, .val .null, rv b43, rv b46, iv Pj, iv (P55 - Pj), iv z163, iv (((((26 : Int32) + (0 : Int32)) + (5 : Int32)) + (0 : Int32)) + (1 : Int32)), iv (32 : Int32)] [])) (fun _ k => XS.icmpNo X59.here hx rfl (hb hby at_193) rfl (teq (own_fin (0 : Int32) z74 z163 (by decide) (by decide) hk74.1 hk74.2 hz163)).2 k) ?_
      refine own_st (T' := T59) (g' := (mkF m 198 #[own_jv p1, .second, own_jv p2, .second, iv p3, iv p4, iv p5, iv (1 : Int32), iv (0 : Int32), iv z40, iv (0 : Int32), iv z74, .val .null, rv b43, rv b46, iv Pj, iv (P55 - Pj), iv z163, iv (((((26 : Int32) + (0 : Int32)) + (5 : Int32)) + (0 : Int32)) + (1 : Int32)), iv (32 : Int32)] [(.int (P55 - Pj))])) (fun _ k => XS.iload X59.here hx rfl (hb hby at_196) rfl k) ?_
      refine own_st (T' := T59) (g' := (mkF m 200 #[own_jv p1, .second, own_jv p2, .second, iv p3, iv p4, iv p5, iv (1 : Int32), iv (0 : Int32), iv z40, iv (0 : Int32), iv z74, .val .null, rv b43, rv b46, iv Pj, iv (P55 - Pj), iv z163, iv (((((26 : Int32) + (0 : Int32)) + (5 : Int32)) + (0 : Int32)) + (1 : Int32)), iv (32 : Int32)] [(.int z163), (.int (P55 - Pj))])) (fun _ k => XS.iload X59.here hx rfl (hb hby at_198) rfl k) ?_
      have hmr := own_mr (0 : Int32) z74 (by decide) (by decide) hk74.1 hk74.2
      rw [hz163] at hmr
      have e00 : (0 : Int32).toInt = 0 := rfl
      refine own_st (T' := T59) (g' := (mkF m 203 #[own_jv p1, .second, own_jv p2, .second, iv p3, iv p4, iv p5, iv (1 : Int32), iv (0 : Int32), iv z40, iv (0 : Int32), iv z74, .val .null, rv b43, rv b46, iv Pj, iv (P55 - Pj), iv z163, iv (((((26 : Int32) + (0 : Int32)) + (5 : Int32)) + (0 : Int32)) + (1 : Int32)), iv (32 : Int32)] [])) (fun _ k => XS.icmpNo X59.here hx rfl (hb hby at_200) rfl (flt (own_le Pj P55 z163 ((0 : Int32).toInt + z74.toInt) hP0 (by omega) hA55 (by omega) (by omega) (by omega) (by omega))).2.2.1 k) ?_
      refine own_st (T' := T59) (g' := (mkF m 204 #[own_jv p1, .second, own_jv p2, .second, iv p3, iv p4, iv p5, iv (1 : Int32), iv (0 : Int32), iv z40, iv (0 : Int32), iv z74, .val .null, rv b43, rv b46, iv Pj, iv (P55 - Pj), iv z163, iv (((((26 : Int32) + (0 : Int32)) + (5 : Int32)) + (0 : Int32)) + (1 : Int32)), iv (32 : Int32)] [(.int (1 : Int32))])) (fun _ k => XS.iconst X59.here hx rfl (hb hby at_203) k) ?_
      refine own_st (T' := T59) (g' := (mkF m 208 #[own_jv p1, .second, own_jv p2, .second, iv p3, iv p4, iv p5, iv (1 : Int32), iv (0 : Int32), iv z40, iv (0 : Int32), iv z74, .val .null, rv b43, rv b46, iv Pj, iv (P55 - Pj), iv z163, iv (((((26 : Int32) + (0 : Int32)) + (5 : Int32)) + (0 : Int32)) + (1 : Int32)), iv (32 : Int32)] [(.int (1 : Int32))])) (fun _ k => XS.goto X59.here hx rfl (pc0 := 204) (pc' := 208) rfl (hb hby at_204) (by decide) (by decide) k) ?_
      exact own_end (Q := Q0 Z p1 p2 p3 p4 p5 h0 n0) (v := some (.int (nar .boolean (1 : Int32)))) X59 (fun h => by rw [Bd.returns] at h; cases h) (fun fs hr => retN X59 hx (t := .boolean) Bd.returns (by simp) (hb hby at_208) hr) (⟨rfl, N59⟩) (by decide) (by decide)
    · refine own_st (T' := s₁) (g' := (mkF m 21 #[own_jv p1, .second, own_jv p2, .second, iv p3, iv p4, iv p5, iv (1 : Int32), .unset, .unset, .unset, .unset, .unset, .unset, .unset, .unset, .unset, .unset, .unset, .unset] [])) (fun _ k => XS.ifNo X0.here hx rfl (hb hby at_18) rfl ((if0 _ _).trans (feq hc18).1) k) ?_
      refine own_st (T' := s₁) (g' := (mkF m 22 #[own_jv p1, .second, own_jv p2, .second, iv p3, iv p4, iv p5, iv (1 : Int32), .unset, .unset, .unset, .unset, .unset, .unset, .unset, .unset, .unset, .unset, .unset, .unset] [(.int (1 : Int32))])) (fun _ k => XS.iconst X0.here hx rfl (hb hby at_21) k) ?_
      refine own_st (T' := s₁) (g' := (mkF m 26 #[own_jv p1, .second, own_jv p2, .second, iv p3, iv p4, iv p5, iv (1 : Int32), .unset, .unset, .unset, .unset, .unset, .unset, .unset, .unset, .unset, .unset, .unset, .unset] [(.int (1 : Int32))])) (fun _ k => XS.goto X0.here hx rfl (pc0 := 22) (pc' := 26) rfl (hb hby at_22) (by decide) (by decide) k) ?_
      refine own_st (T' := s₁) (g' := (mkF m 28 #[own_jv p1, .second, own_jv p2, .second, iv p3, iv p4, iv p5, iv (1 : Int32), iv (1 : Int32), .unset, .unset, .unset, .unset, .unset, .unset, .unset, .unset, .unset, .unset, .unset] [])) (fun _ k => XS.istore X0.here hx rfl (hb hby at_26) rfl (l' := #[own_jv p1, .second, own_jv p2, .second, iv p3, iv p4, iv p5, iv (1 : Int32), iv (1 : Int32), .unset, .unset, .unset, .unset, .unset, .unset, .unset, .unset, .unset, .unset, .unset]) rfl k) ?_
      suffices JE : ∀ z40 : Int32, own_Goes p e below (fun o U' => ∃ v L, o = .returned v ∧ Q0 Z p1 p2 p3 p4 p5 h0 n0 v U'.heap L ∧ FrameEnd s o U' L room_1.cells room_1.slots) s₁ (mkF m 40 #[own_jv p1, .second, own_jv p2, .second, iv p3, iv p4, iv p5, iv (1 : Int32), iv (1 : Int32), .unset, .unset, .unset, .unset, .unset, .unset, .unset, .unset, .unset, .unset, .unset] [(.int z40)]) by
        refine own_st (T' := s₁) (g' := (mkF m 30 #[own_jv p1, .second, own_jv p2, .second, iv p3, iv p4, iv p5, iv (1 : Int32), iv (1 : Int32), .unset, .unset, .unset, .unset, .unset, .unset, .unset, .unset, .unset, .unset, .unset] [(.int p5)])) (fun _ k => XS.iload X0.here hx rfl (hb hby at_28) rfl k) ?_
        refine own_st (T' := s₁) (g' := (mkF m 31 #[own_jv p1, .second, own_jv p2, .second, iv p3, iv p4, iv p5, iv (1 : Int32), iv (1 : Int32), .unset, .unset, .unset, .unset, .unset, .unset, .unset, .unset, .unset, .unset, .unset] [(.int (4 : Int32)), (.int p5)])) (fun _ k => XS.iconst X0.here hx rfl (hb hby at_30) k) ?_
        refine own_st (T' := s₁) (g' := (mkF m 32 #[own_jv p1, .second, own_jv p2, .second, iv p3, iv p4, iv p5, iv (1 : Int32), iv (1 : Int32), .unset, .unset, .unset, .unset, .unset, .unset, .unset, .unset, .unset, .unset, .unset] [(.int (p5 &&& (4 : Int32)))])) (fun _ k => XS.iand X0.here hx rfl (hb hby at_31) rfl k) ?_
        by_cases hc32 : (p5 &&& (4 : Int32)) = (0 : Int32)
        · refine own_st (T' := s₁) (g' := (mkF m 39 #[own_jv p1, .second, own_jv p2, .second, iv p3, iv p4, iv p5, iv (1 : Int32), iv (1 : Int32), .unset, .unset, .unset, .unset, .unset, .unset, .unset, .unset, .unset, .unset, .unset] [])) (fun _ k => XS.ifYes X0.here hx rfl (pc0 := 32) (pc' := 39) rfl (hb hby at_32) rfl ((if0 _ _).trans (teq hc32).1) (by decide) (by decide) k) ?_
          refine own_st (T' := s₁) (g' := (mkF m 40 #[own_jv p1, .second, own_jv p2, .second, iv p3, iv p4, iv p5, iv (1 : Int32), iv (1 : Int32), .unset, .unset, .unset, .unset, .unset, .unset, .unset, .unset, .unset, .unset, .unset] [(.int (0 : Int32))])) (fun _ k => XS.iconst X0.here hx rfl (hb hby at_39) k) ?_
          exact JE (0 : Int32)
        · refine own_st (T' := s₁) (g' := (mkF m 35 #[own_jv p1, .second, own_jv p2, .second, iv p3, iv p4, iv p5, iv (1 : Int32), iv (1 : Int32), .unset, .unset, .unset, .unset, .unset, .unset, .unset, .unset, .unset, .unset, .unset] [])) (fun _ k => XS.ifNo X0.here hx rfl (hb hby at_32) rfl ((if0 _ _).trans (feq hc32).1) k) ?_
          refine own_st (T' := s₁) (g' := (mkF m 36 #[own_jv p1, .second, own_jv p2, .second, iv p3, iv p4, iv p5, iv (1 : Int32), iv (1 : Int32), .unset, .unset, .unset, .unset, .unset, .unset, .unset, .unset, .unset, .unset, .unset] [(.int (1 : Int32))])) (fun _ k => XS.iconst X0.here hx rfl (hb hby at_35) k) ?_
          refine own_st (T' := s₁) (g' := (mkF m 40 #[own_jv p1, .second, own_jv p2, .second, iv p3, iv p4, iv p5, iv (1 : Int32), iv (1 : Int32), .unset, .unset, .unset, .unset, .unset, .unset, .unset, .unset, .unset, .unset, .unset] [(.int (1 : Int32))])) (fun _ k => XS.goto X0.here hx rfl (pc0 := 36) (pc' := 40) rfl (hb hby at_36) (by decide) (by decide) k) ?_
          exact JE (1 : Int32)
      intro z40
      refine own_st (T' := s₁) (g' := (mkF m 42 #[own_jv p1, .second, own_jv p2, .second, iv p3, iv p4, iv p5, iv (1 : Int32), iv (1 : Int32), iv z40, .unset, .unset, .unset, .unset, .unset, .unset, .unset, .unset, .unset, .unset] [])) (fun _ k => XS.istore X0.here hx rfl (hb hby at_40) rfl (l' := #[own_jv p1, .second, own_jv p2, .second, iv p3, iv p4, iv p5, iv (1 : Int32), iv (1 : Int32), iv z40, .unset, .unset, .unset, .unset, .unset, .unset, .unset, .unset, .unset, .unset]) rfl k) ?_
      refine own_st (T' := s₁) (g' := (mkF m 44 #[own_jv p1, .second, own_jv p2, .second, iv p3, iv p4, iv p5, iv (1 : Int32), iv (1 : Int32), iv z40, .unset, .unset, .unset, .unset, .unset, .unset, .unset, .unset, .unset, .unset] [(.int (1 : Int32))])) (fun _ k => XS.iload X0.here hx rfl (hb hby at_42) rfl k) ?_
      refine own_st (T' := s₁) (g' := (mkF m 47 #[own_jv p1, .second, own_jv p2, .second, iv p3, iv p4, iv p5, iv (1 : Int32), iv (1 : Int32), iv z40, .unset, .unset, .unset, .unset, .unset, .unset, .unset, .unset, .unset, .unset] [])) (fun _ k => XS.ifNo X0.here hx rfl (hb hby at_44) rfl ((if0 _ _).trans (feq (by decide : ¬ ((1 : Int32) = (0 : Int32)))).1) k) ?_
      refine own_st (T' := s₁) (g' := (mkF m 48 #[own_jv p1, .second, own_jv p2, .second, iv p3, iv p4, iv p5, iv (1 : Int32), iv (1 : Int32), iv z40, .unset, .unset, .unset, .unset, .unset, .unset, .unset, .unset, .unset, .unset] [(.int (0 : Int32))])) (fun _ k => XS.iconst X0.here hx rfl (hb hby at_47) k) ?_
      refine own_st (T' := s₁) (g' := (mkF m 57 #[own_jv p1, .second, own_jv p2, .second, iv p3, iv p4, iv p5, iv (1 : Int32), iv (1 : Int32), iv z40, .unset, .unset, .unset, .unset, .unset, .unset, .unset, .unset, .unset, .unset] [(.int (0 : Int32))])) (fun _ k => XS.goto X0.here hx rfl (pc0 := 48) (pc' := 57) rfl (hb hby at_48) (by decide) (by decide) k) ?_
      refine own_st (T' := s₁) (g' := (mkF m 59 #[own_jv p1, .second, own_jv p2, .second, iv p3, iv p4, iv p5, iv (1 : Int32), iv (1 : Int32), iv z40, iv (0 : Int32), .unset, .unset, .unset, .unset, .unset, .unset, .unset, .unset, .unset] [])) (fun _ k => XS.istore X0.here hx rfl (hb hby at_57) rfl (l' := #[own_jv p1, .second, own_jv p2, .second, iv p3, iv p4, iv p5, iv (1 : Int32), iv (1 : Int32), iv z40, iv (0 : Int32), .unset, .unset, .unset, .unset, .unset, .unset, .unset, .unset, .unset]) rfl k) ?_
      refine own_st (T' := s₁) (g' := (mkF m 61 #[own_jv p1, .second, own_jv p2, .second, iv p3, iv p4, iv p5, iv (1 : Int32), iv (1 : Int32), iv z40, iv (0 : Int32), .unset, .unset, .unset, .unset, .unset, .unset, .unset, .unset, .unset] [(.int (1 : Int32))])) (fun _ k => XS.iload X0.here hx rfl (hb hby at_59) rfl k) ?_
      refine own_st (T' := s₁) (g' := (mkF m 64 #[own_jv p1, .second, own_jv p2, .second, iv p3, iv p4, iv p5, iv (1 : Int32), iv (1 : Int32), iv z40, iv (0 : Int32), .unset, .unset, .unset, .unset, .unset, .unset, .unset, .unset, .unset] [])) (fun _ k => XS.ifNo X0.here hx rfl (hb hby at_61) rfl ((if0 _ _).trans (feq (by decide : ¬ ((1 : Int32) = (0 : Int32)))).1) k) ?_
      refine own_st (T' := s₁) (g' := (mkF m 65 #[own_jv p1, .second, own_jv p2, .second, iv p3, iv p4, iv p5, iv (1 : Int32), iv (1 : Int32), iv z40, iv (0 : Int32), .unset, .unset, .unset, .unset, .unset, .unset, .unset, .unset, .unset] [(.int (0 : Int32))])) (fun _ k => XS.iconst X0.here hx rfl (hb hby at_64) k) ?_
      refine own_st (T' := s₁) (g' := (mkF m 74 #[own_jv p1, .second, own_jv p2, .second, iv p3, iv p4, iv p5, iv (1 : Int32), iv (1 : Int32), iv z40, iv (0 : Int32), .unset, .unset, .unset, .unset, .unset, .unset, .unset, .unset, .unset] [(.int (0 : Int32))])) (fun _ k => XS.goto X0.here hx rfl (pc0 := 65) (pc' := 74) rfl (hb hby at_65) (by decide) (by decide) k) ?_
      refine own_st (T' := s₁) (g' := (mkF m 76 #[own_jv p1, .second, own_jv p2, .second, iv p3, iv p4, iv p5, iv (1 : Int32), iv (1 : Int32), iv z40, iv (0 : Int32), iv (0 : Int32), .unset, .unset, .unset, .unset, .unset, .unset, .unset, .unset] [])) (fun _ k => XS.istore X0.here hx rfl (hb hby at_74) rfl (l' := #[own_jv p1, .second, own_jv p2, .second, iv p3, iv p4, iv p5, iv (1 : Int32), iv (1 : Int32), iv z40, iv (0 : Int32), iv (0 : Int32), .unset, .unset, .unset, .unset, .unset, .unset, .unset, .unset]) rfl k) ?_
      refine own_st (T' := s₁) (g' := (mkF m 78 #[own_jv p1, .second, own_jv p2, .second, iv p3, iv p4, iv p5, iv (1 : Int32), iv (1 : Int32), iv z40, iv (0 : Int32), iv (0 : Int32), .unset, .unset, .unset, .unset, .unset, .unset, .unset, .unset] [(.int (1 : Int32))])) (fun _ k => XS.iload X0.here hx rfl (hb hby at_76) rfl k) ?_
      refine own_st (T' := s₁) (g' := (mkF m 81 #[own_jv p1, .second, own_jv p2, .second, iv p3, iv p4, iv p5, iv (1 : Int32), iv (1 : Int32), iv z40, iv (0 : Int32), iv (0 : Int32), .unset, .unset, .unset, .unset, .unset, .unset, .unset, .unset] [])) (fun _ k => XS.ifNo X0.here hx rfl (hb hby at_78) rfl ((if0 _ _).trans (feq (by decide : ¬ ((1 : Int32) = (0 : Int32)))).1) k) ?_
      refine own_st (T' := s₁) (g' := (mkF m 82 #[own_jv p1, .second, own_jv p2, .second, iv p3, iv p4, iv p5, iv (1 : Int32), iv (1 : Int32), iv z40, iv (0 : Int32), iv (0 : Int32), .unset, .unset, .unset, .unset, .unset, .unset, .unset, .unset] [.null])) (fun _ k => XS.aconstNull X0.here hx rfl (hb hby at_81) k) ?_
      refine own_st (T' := s₁) (g' := (mkF m 89 #[own_jv p1, .second, own_jv p2, .second, iv p3, iv p4, iv p5, iv (1 : Int32), iv (1 : Int32), iv z40, iv (0 : Int32), iv (0 : Int32), .unset, .unset, .unset, .unset, .unset, .unset, .unset, .unset] [.null])) (fun _ k => XS.goto X0.here hx rfl (pc0 := 82) (pc' := 89) rfl (hb hby at_82) (by decide) (by decide) k) ?_
      refine own_st (T' := s₁) (g' := (mkF m 91 #[own_jv p1, .second, own_jv p2, .second, iv p3, iv p4, iv p5, iv (1 : Int32), iv (1 : Int32), iv z40, iv (0 : Int32), iv (0 : Int32), .val .null, .unset, .unset, .unset, .unset, .unset, .unset, .unset] [])) (fun _ k => XS.astore X0.here hx rfl (hb hby at_89) rfl rfl (l' := #[own_jv p1, .second, own_jv p2, .second, iv p3, iv p4, iv p5, iv (1 : Int32), iv (1 : Int32), iv z40, iv (0 : Int32), iv (0 : Int32), .val .null, .unset, .unset, .unset, .unset, .unset, .unset, .unset]) rfl k) ?_
      refine own_st (T' := s₁) (g' := (mkF m 93 #[own_jv p1, .second, own_jv p2, .second, iv p3, iv p4, iv p5, iv (1 : Int32), iv (1 : Int32), iv z40, iv (0 : Int32), iv (0 : Int32), .val .null, .unset, .unset, .unset, .unset, .unset, .unset, .unset] [(.int (1 : Int32))])) (fun _ k => XS.iload X0.here hx rfl (hb hby at_91) rfl k) ?_
      refine own_st (T' := s₁) (g' := (mkF m 96 #[own_jv p1, .second, own_jv p2, .second, iv p3, iv p4, iv p5, iv (1 : Int32), iv (1 : Int32), iv z40, iv (0 : Int32), iv (0 : Int32), .val .null, .unset, .unset, .unset, .unset, .unset, .unset, .unset] [])) (fun _ k => XS.ifNo X0.here hx rfl (hb hby at_93) rfl ((if0 _ _).trans (feq (by decide : ¬ ((1 : Int32) = (0 : Int32)))).1) k) ?_
      refine own_st (T' := s₁) (g' := (mkF m 97 #[own_jv p1, .second, own_jv p2, .second, iv p3, iv p4, iv p5, iv (1 : Int32), iv (1 : Int32), iv z40, iv (0 : Int32), iv (0 : Int32), .val .null, .unset, .unset, .unset, .unset, .unset, .unset, .unset] [.null])) (fun _ k => XS.aconstNull X0.here hx rfl (hb hby at_96) k) ?_
      refine own_st (T' := s₁) (g' := (mkF m 104 #[own_jv p1, .second, own_jv p2, .second, iv p3, iv p4, iv p5, iv (1 : Int32), iv (1 : Int32), iv z40, iv (0 : Int32), iv (0 : Int32), .val .null, .unset, .unset, .unset, .unset, .unset, .unset, .unset] [.null])) (fun _ k => XS.goto X0.here hx rfl (pc0 := 97) (pc' := 104) rfl (hb hby at_97) (by decide) (by decide) k) ?_
      refine own_st (T' := s₁) (g' := (mkF m 106 #[own_jv p1, .second, own_jv p2, .second, iv p3, iv p4, iv p5, iv (1 : Int32), iv (1 : Int32), iv z40, iv (0 : Int32), iv (0 : Int32), .val .null, .val .null, .unset, .unset, .unset, .unset, .unset, .unset] [])) (fun _ k => XS.astore X0.here hx rfl (hb hby at_104) rfl rfl (l' := #[own_jv p1, .second, own_jv p2, .second, iv p3, iv p4, iv p5, iv (1 : Int32), iv (1 : Int32), iv z40, iv (0 : Int32), iv (0 : Int32), .val .null, .val .null, .unset, .unset, .unset, .unset, .unset, .unset]) rfl k) ?_
      obtain ⟨T60, h60, X60, e60, E60, A60, D60, -, st60⟩ := newO X0 hx hZ hown (hw _ (List.mem_of_getElem? (i := 1) rfl)) (hw _ (List.mem_of_getElem? (i := 2) rfl)) (hw _ (List.mem_of_getElem? (i := 3) rfl)) e0 (g := (mkF m 106 #[own_jv p1, .second, own_jv p2, .second, iv p3, iv p4, iv p5, iv (1 : Int32), iv (1 : Int32), iv z40, iv (0 : Int32), iv (0 : Int32), .val .null, .val .null, .unset, .unset, .unset, .unset, .unset, .unset] [])) rfl (hb hby at_106) (by decide) (by decide)
      obtain ⟨b60, g60⟩ : ∃ z, z = h0.size := ⟨_, rfl⟩
      rw [← g60] at A60 D60 st60
      have ne_hd_b60 : hd ≠ b60 := Nat.ne_of_lt (Nat.lt_of_lt_of_le Y_hd.lt (Nat.le_of_eq g60.symm))
      have gn_b60 : n0 ≤ b60 := Nat.le_trans Z0 (Nat.le_of_eq g60.symm)
      have Zs60 : n0 ≤ h60.size := Nat.le_trans Z0 E60.1
      have Fa61 : Sta Z h60 "com/example/millrace/millrace/wire/RecordBatchBuilder" "HEADER" "[B" (.ref hd) := S_h.ext E60
      have Fa62 : own_Y Z h60 hd (61 : Int32) := Y_hd.ext E60
      have F60_out : Fld Z h60 b60 "com/example/millrace/millrace/wire/RecordBatchBuilder" "out" "Lcom/example/millrace/millrace/wire/ProtocolWriter;" .null := D60 (Or.inr (hw _ (List.mem_of_getElem? (i := 25) rfl))) (ty := (.object "com/example/millrace/millrace/wire/ProtocolWriter")) (by decide)
      have F60_count : Fld Z h60 b60 "com/example/millrace/millrace/wire/RecordBatchBuilder" "count" "I" (.int (0 : Int32)) := D60 (Or.inl (hw _ (List.mem_of_getElem? (i := 64) rfl))) (ty := .int) (by decide)
      have F60_baseTimestamp : Fld Z h60 b60 "com/example/millrace/millrace/wire/RecordBatchBuilder" "baseTimestamp" "J" (.long (0 : Int64)) := D60 (Or.inl (hw _ (List.mem_of_getElem? (i := 66) rfl))) (ty := .long) (by decide)
      have F60_maxTimestamp : Fld Z h60 b60 "com/example/millrace/millrace/wire/RecordBatchBuilder" "maxTimestamp" "J" (.long (0 : Int64)) := D60 (Or.inl (hw _ (List.mem_of_getElem? (i := 68) rfl))) (ty := .long) (by decide)
      refine own_st (T' := T60) (g' := (mkF m 109 #[own_jv p1, .second, own_jv p2, .second, iv p3, iv p4, iv p5, iv (1 : Int32), iv (1 : Int32), iv z40, iv (0 : Int32), iv (0 : Int32), .val .null, .val .null, .unset, .unset, .unset, .unset, .unset, .unset] [(.ref b60)])) (fun _ k => (st60) _ k) ?_
      refine own_st (T' := T60) (g' := (mkF m 110 #[own_jv p1, .second, own_jv p2, .second, iv p3, iv p4, iv p5, iv (1 : Int32), iv (1 : Int32), iv z40, iv (0 : Int32), iv (0 : Int32), .val .null, .val .null, .unset, .unset, .unset, .unset, .unset, .unset] [(.ref b60), (.ref b60)])) (fun _ k => XS.dup X60.here hx rfl (hb hby at_109) rfl rfl k) ?_
      refine own_st (T' := T60) (g' := (mkF m 111 #[own_jv p1, .second, own_jv p2, .second, iv p3, iv p4, iv p5, iv (1 : Int32), iv (1 : Int32), iv z40, iv (0 : Int32), iv (0 : Int32), .val .null, .val .null, .unset, .unset, .unset, .unset, .unset, .unset] [(.int (0 : Int32)), (.ref b60), (.ref b60)])) (fun _ k => XS.iconst X60.here hx rfl (hb hby at_110) k) ?_
      obtain ⟨v63, T63, L63, X63, hQ63, st63⟩ := own_packV (X60.specialBack hx (y := (⟨"com/example/millrace/millrace/wire/RecordBatchBuilder", "<init>", "(I)V"⟩ : MethodName)) rfl hown (mvT hZ (hw _ (List.mem_of_getElem? (i := 4) rfl))) (mvT hZ (hw _ (List.mem_of_getElem? (i := 5) rfl))) (mvT hZ (hw _ (List.mem_of_getElem? (i := 6) rfl))) (by decide) (backOf (W := 1) (rm1 l Z a0 hw [] b60 hd h60 n0 Zs60 A60 F60_out F60_baseTimestamp F60_maxTimestamp F60_count Fa62 Fa61 gn_b60 (Ne.symm ne_hd_b60)) hZ (hw _ (List.mem_of_getElem? (i := 6) rfl)) (hw _ (List.mem_of_getElem? (i := 3) rfl)) (by decide) (by decide)) (g := (mkF m 111 #[own_jv p1, .second, own_jv p2, .second, iv p3, iv p4, iv p5, iv (1 : Int32), iv (1 : Int32), iv z40, iv (0 : Int32), iv (0 : Int32), .val .null, .val .null, .unset, .unset, .unset, .unset, .unset, .unset] [(.int (0 : Int32)), (.ref b60), (.ref b60)])) rfl (by rw [hml]; rfl) (Steps.refl _) (a := b60) (argsL := [(.int (0 : Int32))]) (rest := [(.ref b60)]) (lenOf own_pd0_0 rfl) rfl (by show 2 * 0 + _ ≤ _; exact Nat.le_of_eq rfl) (hb hby at_111) (fun _ _ => ⟨rfl, e60, (by decide : 1 + 3 ≤ _), (by decide : 4 + 2263 ≤ _)⟩))
      obtain ⟨rfl, N63q, Kq63, wo63, t63, nn63, hw63, ht63, gn_wo63, gn_t63, ne_wo63_t63, hA63, hB63, SS63⟩ := hQ63
      obtain ⟨lc63, X63, N63⟩ := own_loc X63 (Fr.app N0 N63q)
      have ne_hd_wo63 : hd ≠ wo63 := Nat.ne_of_lt (Nat.lt_of_lt_of_le Fa62.lt hw63)
      have ne_hd_t63 : hd ≠ t63 := Nat.ne_of_lt (Nat.lt_of_lt_of_le Fa62.lt ht63)
      have ne_b60_wo63 : b60 ≠ wo63 := Nat.ne_of_lt (Nat.lt_of_lt_of_le A60.lt hw63)
      have ne_b60_t63 : b60 ≠ t63 := Nat.ne_of_lt (Nat.lt_of_lt_of_le A60.lt ht63)
      have Zs63 : n0 ≤ T63.heap.size := Nat.le_trans Zs60 Kq63.1
      obtain ⟨S63_0, S63_1, S63_2, S63_3, S63_4, S63_5, S63_6, S63_7, S63_8⟩ := SS63
      refine own_st (T' := T63) (g' := (mkF m 114 #[own_jv p1, .second, own_jv p2, .second, iv p3, iv p4, iv p5, iv (1 : Int32), iv (1 : Int32), iv z40, iv (0 : Int32), iv (0 : Int32), .val .null, .val .null, .unset, .unset, .unset, .unset, .unset, .unset] [(.ref b60)])) (fun _ k => (st63) _ k) ?_
      refine own_st (T' := T63) (g' := (mkF m 116 #[own_jv p1, .second, own_jv p2, .second, iv p3, iv p4, iv p5, iv (1 : Int32), iv (1 : Int32), iv z40, iv (0 : Int32), iv (0 : Int32), .val .null, .val .null, rv b60, .unset, .unset, .unset, .unset, .unset] [])) (fun _ k => XS.astore X63.here hx rfl (hb hby at_114) rfl rfl (l' := #[own_jv p1, .second, own_jv p2, .second, iv p3, iv p4, iv p5, iv (1 : Int32), iv (1 : Int32), iv z40, iv (0 : Int32), iv (0 : Int32), .val .null, .val .null, rv b60, .unset, .unset, .unset, .unset, .unset]) rfl k) ?_
      suffices J129 : ∀ (T' : State) (h' : Heap) (lc' : List Loc) (tj : Addr) (btj mtj : Int64) (cj Pj nj : Int32) (X' : Stand p l e room_1 s m #[(.long p1), (.long p2), (.int p3), (.int p4), (.int p5)] below meth c T' lc' 5 4457) (e' : T'.heap = h') (N' : Fr n0 lc') (Zh' : n0 ≤ h'.size) (gn_tj : n0 ≤ tj) (ne_b60_tj : b60 ≠ tj) (ne_wo63_tj : wo63 ≠ tj) (hc0 : 0 ≤ cj.toInt) (hc1 : cj.toInt ≤ 1) (hP0 : 0 ≤ Pj.toInt) (hP1 : Pj.toInt ≤ 82) (hn0 : 0 < nj.toInt) (hn1 : nj.toInt ≤ 300) (Fj0 : Exa Z h' b60 "com/example/millrace/millrace/wire/RecordBatchBuilder") (Fj1 : Fld Z h' b60 "com/example/millrace/millrace/wire/RecordBatchBuilder" "out" "Lcom/example/millrace/millrace/wire/ProtocolWriter;" (.ref wo63)) (Fj2 : Fld Z h' b60 "com/example/millrace/millrace/wire/RecordBatchBuilder" "baseTimestamp" "J" (.long btj)) (Fj3 : Fld Z h' b60 "com/example/millrace/millrace/wire/RecordBatchBuilder" "maxTimestamp" "J" (.long mtj)) (Fj4 : Fld Z h' b60 "com/example/millrace/millrace/wire/RecordBatchBuilder" "count" "I" (.int cj)) (Fj5 : Exa Z h' wo63 "com/example/millrace/millrace/wire/ProtocolWriter") (Fj6 : Fld Z h' wo63 "com/example/millrace/millrace/wire/ProtocolWriter" "bytes" "[B" (.ref tj)) (Fj7 : Fld Z h' wo63 "com/example/millrace/millrace/wire/ProtocolWriter" "position" "I" (.int Pj)) (Fj8 : own_Y Z h' tj nj), own_Goes p e below (fun o U' => ∃ v L, o = .returned v ∧ Q0 Z p1 p2 p3 p4 p5 h0 n0 v U'.heap L ∧ FrameEnd s o U' L room_1.cells room_1.slots) T' (mkF m 129 #[own_jv p1, .second, own_jv p2, .second, iv p3, iv p4, iv p5, iv (1 : Int32), iv (1 : Int32), iv z40, iv (0 : Int32), iv (0 : Int32), .val .null, .val .null, rv b60, .unset, .unset, .unset, .unset, .unset] []) by
        refine own_st (T' := T63) (g' := (mkF m 118 #[own_jv p1, .second, own_jv p2, .second, iv p3, iv p4, iv p5, iv (1 : Int32), iv (1 : Int32), iv z40, iv (0 : Int32), iv (0 : Int32), .val .null, .val .null, rv b60, .unset, .unset, .unset, .unset, .unset] [(.int z40)])) (fun _ k => XS.iload X63.here hx rfl (hb hby at_116) rfl k) ?_
        by_cases hc118 : z40 = (0 : Int32)
        · refine own_st (T' := T63) (g' := (mkF m 129 #[own_jv p1, .second, own_jv p2, .second, iv p3, iv p4, iv p5, iv (1 : Int32), iv (1 : Int32), iv z40, iv (0 : Int32), iv (0 : Int32), .val .null, .val .null, rv b60, .unset, .unset, .unset, .unset, .unset] [])) (fun _ k => XS.ifYes X63.here hx rfl (pc0 := 118) (pc' := 129) rfl (hb hby at_118) rfl ((if0 _ _).trans (teq hc118).1) (by decide) (by decide) k) ?_
          exact J129 _ _ _ _ _ _ _ _ _ (X63.more (by decide) (by decide)) rfl N63 Zs63 gn_t63 ne_b60_t63 ne_wo63_t63 (by decide) (by decide) (by decide) (by decide) (by omega) (by omega) S63_0 S63_1 S63_2 S63_3 S63_4 S63_5 S63_6 S63_7 S63_8
        · refine own_st (T' := T63) (g' := (mkF m 121 #[own_jv p1, .second, own_jv p2, .second, iv p3, iv p4, iv p5, iv (1 : Int32), iv (1 : Int32), iv z40, iv (0 : Int32), iv (0 : Int32), .val .null, .val .null, rv b60, .unset, .unset, .unset, .unset, .unset] [])) (fun _ k => XS.ifNo X63.here hx rfl (hb hby at_118) rfl ((if0 _ _).trans (feq hc118).1) k) ?_
          refine own_st (T' := T63) (g' := (mkF m 123 #[own_jv p1, .second, own_jv p2, .second, iv p3, iv p4, iv p5, iv (1 : Int32), iv (1 : Int32), iv z40, iv (0 : Int32), iv (0 : Int32), .val .null, .val .null, rv b60, .unset, .unset, .unset, .unset, .unset] [(.ref b60)])) (fun _ k => XS.aload X63.here hx rfl (hb hby at_121) rfl rfl k) ?_
          refine own_st (T' := T63) (g' := (mkF m 124 #[own_jv p1, .second, own_jv p2, .second, iv p3, iv p4, iv p5, iv (1 : Int32), iv (1 : Int32), iv z40, iv (0 : Int32), iv (0 : Int32), .val .null, .val .null, rv b60, .unset, .unset, .unset, .unset, .unset] [(.long p1), (.ref b60)])) (fun _ k => XS.lloadN X63.here hx rfl (hb hby at_123) rfl k) ?_
          refine own_st (T' := T63) (g' := (mkF m 125 #[own_jv p1, .second, own_jv p2, .second, iv p3, iv p4, iv p5, iv (1 : Int32), iv (1 : Int32), iv z40, iv (0 : Int32), iv (0 : Int32), .val .null, .val .null, rv b60, .unset, .unset, .unset, .unset, .unset] [.null, (.long p1), (.ref b60)])) (fun _ k => XS.aconstNull X63.here hx rfl (hb hby at_124) k) ?_
          refine own_st (T' := T63) (g' := (mkF m 126 #[own_jv p1, .second, own_jv p2, .second, iv p3, iv p4, iv p5, iv (1 : Int32), iv (1 : Int32), iv z40, iv (0 : Int32), iv (0 : Int32), .val .null, .val .null, rv b60, .unset, .unset, .unset, .unset, .unset] [.null, .null, (.long p1), (.ref b60)])) (fun _ k => XS.aconstNull X63.here hx rfl (hb hby at_125) k) ?_
          obtain ⟨cq64, kq64, q64a, q64b, q64c⟩ := isOf hZ rfl S63_0
          obtain ⟨v64, T64, L64, X64, hQ64, st64⟩ := own_packV (X63.virtualBack hx (y := (⟨"com/example/millrace/millrace/wire/RecordBatchBuilder", "append", "(J[B[B)V"⟩ : MethodName)) (z := (⟨"com/example/millrace/millrace/wire/RecordBatchBuilder", "append", "(J[B[B)V"⟩ : MethodName)) hown (mvT hZ (hw _ (List.mem_of_getElem? (i := 58) rfl))) (mvT hZ (hw _ (List.mem_of_getElem? (i := 59) rfl))) (notFace_of_selects (args := #[]) (mvT hZ (hw _ (List.mem_of_getElem? (i := 61) rfl)))) (mvT hZ (hw _ (List.mem_of_getElem? (i := 61) rfl))) (mvT hZ (hw _ (List.mem_of_getElem? (i := 60) rfl))) (by decide) (backOf (W := 0) (rm10_11 l Z a0 hw [] b60 p1 wo63 t63 (0 : Int64) (0 : Int64) (0 : Int32) (61 : Int32) nn63 T63.heap n0 Zs63 S63_0 S63_1 S63_2 S63_3 S63_4 S63_5 S63_6 S63_7 S63_8 gn_b60 gn_wo63 gn_t63 ne_b60_wo63 ne_b60_t63 ne_wo63_t63 (by decide) (by decide) (by decide) (by decide) (by omega) (by omega)) hZ (hw _ (List.mem_of_getElem? (i := 62) rfl)) (hw _ (List.mem_of_getElem? (i := 3) rfl)) (by decide) (by decide)) q64a q64c (g := (mkF m 126 #[own_jv p1, .second, own_jv p2, .second, iv p3, iv p4, iv p5, iv (1 : Int32), iv (1 : Int32), iv z40, iv (0 : Int32), iv (0 : Int32), .val .null, .val .null, rv b60, .unset, .unset, .unset, .unset, .unset] [.null, .null, (.long p1), (.ref b60)])) rfl (by rw [hml]; rfl) (Steps.refl _) (argsL := [(.long p1), .null, .null]) (rest := []) (lenOf own_pd0_1 rfl) rfl (by show 2 * 0 + _ ≤ _; exact Nat.le_of_eq rfl) (hb hby at_126) (fun _ _ => ⟨rfl, rfl, (by decide : 4 + 1 ≤ _), (by decide : 2267 + 2190 ≤ _)⟩))
          obtain ⟨rfl, N64q, Kq64, t64, nn64, P64, bt64, mt64, ht64, gn_t64, hA64, hB64, hC64, hD64, SS64⟩ := hQ64
          obtain ⟨lc64, X64, N64⟩ := own_loc X64 (Fr.app N63 N64q)
          have ne_b60_t64 : b60 ≠ t64 := own_sep ht64 ne_b60_t63 S63_0.lt
          have ne_wo63_t64 : wo63 ≠ t64 := own_sep ht64 ne_wo63_t63 S63_5.lt
          have Zs64 : n0 ≤ T64.heap.size := Nat.le_trans Zs63 Kq64.1
          obtain ⟨S64_0, S64_1, S64_2, S64_3, S64_4, S64_5, S64_6, S64_7, S64_8⟩ := SS64
          refine own_st (T' := T64) (g' := (mkF m 129 #[own_jv p1, .second, own_jv p2, .second, iv p3, iv p4, iv p5, iv (1 : Int32), iv (1 : Int32), iv z40, iv (0 : Int32), iv (0 : Int32), .val .null, .val .null, rv b60, .unset, .unset, .unset, .unset, .unset] [])) (fun _ k => (st64) _ k) ?_
          exact J129 _ _ _ _ _ _ _ _ _ X64 rfl N64 Zs64 gn_t64 ne_b60_t64 ne_wo63_t64 (by decide) (by decide) (own_j1 hA64) (own_j2 hB64) hD64 (own_j3 hC64 (by omega)) S64_0 S64_1 S64_2 S64_3 S64_4 S64_5 S64_6 S64_7 S64_8
      intro TJ hJ lcJ tj btj mtj cj Pj nj XJ eJ NJ ZJ gn_tj ne_b60_tj ne_wo63_tj hc0 hc1 hP0 hP1 hn0 hn1 Fj0 Fj1 Fj2 Fj3 Fj4 Fj5 Fj6 Fj7 Fj8
      refine own_st (T' := TJ) (g' := (mkF m 131 #[own_jv p1, .second, own_jv p2, .second, iv p3, iv p4, iv p5, iv (1 : Int32), iv (1 : Int32), iv z40, iv (0 : Int32), iv (0 : Int32), .val .null, .val .null, rv b60, .unset, .unset, .unset, .unset, .unset] [(.ref b60)])) (fun _ k => XS.aload XJ.here hx rfl (hb hby at_129) rfl rfl k) ?_
      obtain ⟨cq65, kq65, q65a, q65b, q65c⟩ := isOf hZ eJ Fj0
      obtain ⟨v65, T65, L65, X65, hQ65, st65⟩ := own_packV (XJ.virtualBack hx (y := (⟨"com/example/millrace/millrace/wire/RecordBatchBuilder", "sizeInBytes", "()I"⟩ : MethodName)) (z := (⟨"com/example/millrace/millrace/wire/RecordBatchBuilder", "sizeInBytes", "()I"⟩ : MethodName)) hown (mvT hZ (hw _ (List.mem_of_getElem? (i := 48) rfl))) (mvT hZ (hw _ (List.mem_of_getElem? (i := 49) rfl))) (notFace_of_selects (args := #[]) (mvT hZ (hw _ (List.mem_of_getElem? (i := 51) rfl)))) (mvT hZ (hw _ (List.mem_of_getElem? (i := 51) rfl))) (mvT hZ (hw _ (List.mem_of_getElem? (i := 50) rfl))) (by decide) (backOf (W := 0) (rm8 l Z a0 hw [] b60 wo63 Pj hJ n0 ZJ Fj1 Fj5 Fj7) hZ (hw _ (List.mem_of_getElem? (i := 52) rfl)) (hw _ (List.mem_of_getElem? (i := 3) rfl)) (by decide) (by decide)) q65a q65c (g := (mkF m 131 #[own_jv p1, .second, own_jv p2, .second, iv p3, iv p4, iv p5, iv (1 : Int32), iv (1 : Int32), iv z40, iv (0 : Int32), iv (0 : Int32), .val .null, .val .null, rv b60, .unset, .unset, .unset, .unset, .unset] [(.ref b60)])) rfl (by rw [hml]; rfl) (Steps.refl _) (argsL := []) (rest := []) (lenOf own_pd0_2 rfl) rfl (by show 2 * 0 + _ ≤ _; exact Nat.le_of_eq rfl) (hb hby at_131) (fun _ _ => ⟨rfl, eJ, (by decide : 5 + 0 ≤ _), (by decide : 4457 + 0 ≤ _)⟩))
      obtain ⟨rfl, N65q, e65⟩ := hQ65
      obtain ⟨lc65, X65, N65⟩ := own_loc X65 (Fr.app NJ N65q)
      refine own_st (T' := T65) (g' := (mkF m 134 #[own_jv p1, .second, own_jv p2, .second, iv p3, iv p4, iv p5, iv (1 : Int32), iv (1 : Int32), iv z40, iv (0 : Int32), iv (0 : Int32), .val .null, .val .null, rv b60, .unset, .unset, .unset, .unset, .unset] [(.int Pj)])) (fun _ k => (st65) _ k) ?_
      refine own_st (T' := T65) (g' := (mkF m 136 #[own_jv p1, .second, own_jv p2, .second, iv p3, iv p4, iv p5, iv (1 : Int32), iv (1 : Int32), iv z40, iv (0 : Int32), iv (0 : Int32), .val .null, .val .null, rv b60, iv Pj, .unset, .unset, .unset, .unset] [])) (fun _ k => XS.istore X65.here hx rfl (hb hby at_134) rfl (l' := #[own_jv p1, .second, own_jv p2, .second, iv p3, iv p4, iv p5, iv (1 : Int32), iv (1 : Int32), iv z40, iv (0 : Int32), iv (0 : Int32), .val .null, .val .null, rv b60, iv Pj, .unset, .unset, .unset, .unset]) rfl k) ?_
      refine own_st (T' := T65) (g' := (mkF m 138 #[own_jv p1, .second, own_jv p2, .second, iv p3, iv p4, iv p5, iv (1 : Int32), iv (1 : Int32), iv z40, iv (0 : Int32), iv (0 : Int32), .val .null, .val .null, rv b60, iv Pj, .unset, .unset, .unset, .unset] [(.ref b60)])) (fun _ k => XS.aload X65.here hx rfl (hb hby at_136) rfl rfl k) ?_
      refine own_st (T' := T65) (g' := (mkF m 139 #[own_jv p1, .second, own_jv p2, .second, iv p3, iv p4, iv p5, iv (1 : Int32), iv (1 : Int32), iv z40, iv (0 : Int32), iv (0 : Int32), .val .null, .val .null, rv b60, iv Pj, .unset, .unset, .unset, .unset] [(.long p2), (.ref b60)])) (fun _ k => XS.lloadN X65.here hx rfl (hb hby at_138) rfl k) ?_
      refine own_st (T' := T65) (g' := (mkF m 141 #[own_jv p1, .second, own_jv p2, .second, iv p3, iv p4, iv p5, iv (1 : Int32), iv (1 : Int32), iv z40, iv (0 : Int32), iv (0 : Int32), .val .null, .val .null, rv b60, iv Pj, .unset, .unset, .unset, .unset] [.null, (.long p2), (.ref b60)])) (fun _ k => XS.aload X65.here hx rfl (hb hby at_139) rfl rfl k) ?_
      refine own_st (T' := T65) (g' := (mkF m 143 #[own_jv p1, .second, own_jv p2, .second, iv p3, iv p4, iv p5, iv (1 : Int32), iv (1 : Int32), iv z40, iv (0 : Int32), iv (0 : Int32), .val .null, .val .null, rv b60, iv Pj, .unset, .unset, .unset, .unset] [.null, .null, (.long p2), (.ref b60)])) (fun _ k => XS.aload X65.here hx rfl (hb hby at_141) rfl rfl k) ?_
      obtain ⟨cq66, kq66, q66a, q66b, q66c⟩ := isOf hZ e65 Fj0
      obtain ⟨v66, T66, L66, X66, hQ66, st66⟩ := own_packV (X65.virtualBack hx (y := (⟨"com/example/millrace/millrace/wire/RecordBatchBuilder", "append", "(J[B[B)V"⟩ : MethodName)) (z := (⟨"com/example/millrace/millrace/wire/RecordBatchBuilder", "append", "(J[B[B)V"⟩ : MethodName)) hown (mvT hZ (hw _ (List.mem_of_getElem? (i := 58) rfl))) (mvT hZ (hw _ (List.mem_of_getElem? (i := 59) rfl))) (notFace_of_selects (args := #[]) (mvT hZ (hw _ (List.mem_of_getElem? (i := 61) rfl)))) (mvT hZ (hw _ (List.mem_of_getElem? (i := 61) rfl))) (mvT hZ (hw _ (List.mem_of_getElem? (i := 60) rfl))) (by decide) (backOf (W := 0) (rm10_11 l Z a0 hw [] b60 p2 wo63 tj btj mtj cj Pj nj hJ n0 ZJ Fj0 Fj1 Fj2 Fj3 Fj4 Fj5 Fj6 Fj7 Fj8 gn_b60 gn_wo63 gn_tj ne_b60_wo63 ne_b60_tj ne_wo63_tj (by omega) (by omega) (by omega) (by omega) (by omega) (by omega)) hZ (hw _ (List.mem_of_getElem? (i := 62) rfl)) (hw _ (List.mem_of_getElem? (i := 3) rfl)) (by decide) (by decide)) q66a q66c (g := (mkF m 143 #[own_jv p1, .second, own_jv p2, .second, iv p3, iv p4, iv p5, iv (1 : Int32), iv (1 : Int32), iv z40, iv (0 : Int32), iv (0 : Int32), .val .null, .val .null, rv b60, iv Pj, .unset, .unset, .unset, .unset] [.null, .null, (.long p2), (.ref b60)])) rfl (by rw [hml]; rfl) (Steps.refl _) (argsL := [(.long p2), .null, .null]) (rest := []) (lenOf own_pd0_1 rfl) rfl (by show 2 * 0 + _ ≤ _; exact Nat.le_of_eq rfl) (hb hby at_143) (fun _ _ => ⟨rfl, e65, (by decide : 5 + 1 ≤ _), (by decide : 4457 + 2190 ≤ _)⟩))
      obtain ⟨rfl, N66q, Kq66, t66, nn66, P66, bt66, mt66, ht66, gn_t66, hA66, hB66, hC66, hD66, SS66⟩ := hQ66
      obtain ⟨lc66, X66, N66⟩ := own_loc X66 (Fr.app N65 N66q)
      have ne_b60_t66 : b60 ≠ t66 := own_sep ht66 ne_b60_tj Fj0.lt
      have ne_wo63_t66 : wo63 ≠ t66 := own_sep ht66 ne_wo63_tj Fj5.lt
      have Zs66 : n0 ≤ T66.heap.size := Nat.le_trans ZJ Kq66.1
      obtain ⟨S66_0, S66_1, S66_2, S66_3, S66_4, S66_5, S66_6, S66_7, S66_8⟩ := SS66
      refine own_st (T' := T66) (g' := (mkF m 146 #[own_jv p1, .second, own_jv p2, .second, iv p3, iv p4, iv p5, iv (1 : Int32), iv (1 : Int32), iv z40, iv (0 : Int32), iv (0 : Int32), .val .null, .val .null, rv b60, iv Pj, .unset, .unset, .unset, .unset] [])) (fun _ k => (st66) _ k) ?_
      refine own_st (T' := T66) (g' := (mkF m 148 #[own_jv p1, .second, own_jv p2, .second, iv p3, iv p4, iv p5, iv (1 : Int32), iv (1 : Int32), iv z40, iv (0 : Int32), iv (0 : Int32), .val .null, .val .null, rv b60, iv Pj, .unset, .unset, .unset, .unset] [(.ref b60)])) (fun _ k => XS.aload X66.here hx rfl (hb hby at_146) rfl rfl k) ?_
      obtain ⟨cq67, kq67, q67a, q67b, q67c⟩ := isOf hZ rfl S66_0
      obtain ⟨v67, T67, L67, X67, hQ67, st67⟩ := own_packV (X66.virtualBack hx (y := (⟨"com/example/millrace/millrace/wire/RecordBatchBuilder", "sizeInBytes", "()I"⟩ : MethodName)) (z := (⟨"com/example/millrace/millrace/wire/RecordBatchBuilder", "sizeInBytes", "()I"⟩ : MethodName)) hown (mvT hZ (hw _ (List.mem_of_getElem? (i := 48) rfl))) (mvT hZ (hw _ (List.mem_of_getElem? (i := 49) rfl))) (notFace_of_selects (args := #[]) (mvT hZ (hw _ (List.mem_of_getElem? (i := 51) rfl)))) (mvT hZ (hw _ (List.mem_of_getElem? (i := 51) rfl))) (mvT hZ (hw _ (List.mem_of_getElem? (i := 50) rfl))) (by decide) (backOf (W := 0) (rm8 l Z a0 hw [] b60 wo63 P66 T66.heap n0 Zs66 S66_1 S66_5 S66_7) hZ (hw _ (List.mem_of_getElem? (i := 52) rfl)) (hw _ (List.mem_of_getElem? (i := 3) rfl)) (by decide) (by decide)) q67a q67c (g := (mkF m 148 #[own_jv p1, .second, own_jv p2, .second, iv p3, iv p4, iv p5, iv (1 : Int32), iv (1 : Int32), iv z40, iv (0 : Int32), iv (0 : Int32), .val .null, .val .null, rv b60, iv Pj, .unset, .unset, .unset, .unset] [(.ref b60)])) rfl (by rw [hml]; rfl) (Steps.refl _) (argsL := []) (rest := []) (lenOf own_pd0_2 rfl) rfl (by show 2 * 0 + _ ≤ _; exact Nat.le_of_eq rfl) (hb hby at_148) (fun _ _ => ⟨rfl, rfl, (by decide : 6 + 0 ≤ _), (by decide : 6647 + 0 ≤ _)⟩))
      obtain ⟨rfl, N67q, e67⟩ := hQ67
      obtain ⟨lc67, X67, N67⟩ := own_loc X67 (Fr.app N66 N67q)
      refine own_st (T' := T67) (g' := (mkF m 151 #[own_jv p1, .second, own_jv p2, .second, iv p3, iv p4, iv p5, iv (1 : Int32), iv (1 : Int32), iv z40, iv (0 : Int32), iv (0 : Int32), .val .null, .val .null, rv b60, iv Pj, .unset, .unset, .unset, .unset] [(.int P66)])) (fun _ k => (st67) _ k) ?_
      refine own_st (T' := T67) (g' := (mkF m 153 #[own_jv p1, .second, own_jv p2, .second, iv p3, iv p4, iv p5, iv (1 : Int32), iv (1 : Int32), iv z40, iv (0 : Int32), iv (0 : Int32), .val .null, .val .null, rv b60, iv Pj, .unset, .unset, .unset, .unset] [(.int Pj), (.int P66)])) (fun _ k => XS.iload X67.here hx rfl (hb hby at_151) rfl k) ?_
      refine own_st (T' := T67) (g' := (mkF m 154 #[own_jv p1, .second, own_jv p2, .second, iv p3, iv p4, iv p5, iv (1 : Int32), iv (1 : Int32), iv z40, iv (0 : Int32), iv (0 : Int32), .val .null, .val .null, rv b60, iv Pj, .unset, .unset, .unset, .unset] [(.int (P66 - Pj))])) (fun _ k => XS.isub X67.here hx rfl (hb hby at_153) rfl k) ?_
      refine own_st (T' := T67) (g' := (mkF m 156 #[own_jv p1, .second, own_jv p2, .second, iv p3, iv p4, iv p5, iv (1 : Int32), iv (1 : Int32), iv z40, iv (0 : Int32), iv (0 : Int32), .val .null, .val .null, rv b60, iv Pj, iv (P66 - Pj), .unset, .unset, .unset] [])) (fun _ k => XS.istore X67.here hx rfl (hb hby at_154) rfl (l' := #[own_jv p1, .second, own_jv p2, .second, iv p3, iv p4, iv p5, iv (1 : Int32), iv (1 : Int32), iv z40, iv (0 : Int32), iv (0 : Int32), .val .null, .val .null, rv b60, iv Pj, iv (P66 - Pj), .unset, .unset, .unset]) rfl k) ?_
      refine own_st (T' := T67) (g' := (mkF m 158 #[own_jv p1, .second, own_jv p2, .second, iv p3, iv p4, iv p5, iv (1 : Int32), iv (1 : Int32), iv z40, iv (0 : Int32), iv (0 : Int32), .val .null, .val .null, rv b60, iv Pj, iv (P66 - Pj), .unset, .unset, .unset] [.null])) (fun _ k => XS.aload X67.here hx rfl (hb hby at_156) rfl rfl k) ?_
      refine own_st (T' := T67) (g' := (mkF m 160 #[own_jv p1, .second, own_jv p2, .second, iv p3, iv p4, iv p5, iv (1 : Int32), iv (1 : Int32), iv z40, iv (0 : Int32), iv (0 : Int32), .val .null, .val .null, rv b60, iv Pj, iv (P66 - Pj), .unset, .unset, .unset] [.null, .null])) (fun _ k => XS.aload X67.here hx rfl (hb hby at_158) rfl rfl k) ?_
      obtain ⟨v68, T68, L68, X68, hQ68, st68⟩ := own_packS (Jvm.LawKit.callS X67 hx (y := (⟨"com/example/millrace/millrace/wire/RecordBatchBuilder", "maxRecordSize", "([B[B)I"⟩ : MethodName)) hown (mvT hZ (hw _ (List.mem_of_getElem? (i := 120) rfl))) (mvT hZ (hw _ (List.mem_of_getElem? (i := 121) rfl))) (mvT hZ (hw _ (List.mem_of_getElem? (i := 3) rfl))) (mvT hZ (hw _ (List.mem_of_getElem? (i := 122) rfl))) (by decide) (backOf (W := 0) (rm24_11 l Z a0 hw []  T66.heap n0 Zs66 ) hZ (hw _ (List.mem_of_getElem? (i := 122) rfl)) (hw _ (List.mem_of_getElem? (i := 3) rfl)) (by decide) (by decide)) (g := (mkF m 160 #[own_jv p1, .second, own_jv p2, .second, iv p3, iv p4, iv p5, iv (1 : Int32), iv (1 : Int32), iv z40, iv (0 : Int32), iv (0 : Int32), .val .null, .val .null, rv b60, iv Pj, iv (P66 - Pj), .unset, .unset, .unset] [.null, .null])) rfl (by rw [hml]; rfl) (argsL := [.null, .null]) (rest := []) (lenOf own_pd0_3 rfl) rfl (by show 2 * 0 + _ ≤ _; exact Nat.le_of_eq rfl) (hb hby at_160) (fun _ _ => ⟨rfl, e67, (by decide : 6 + 0 ≤ _), (by decide : 6647 + 0 ≤ _)⟩))
      obtain ⟨rfl, N68q, e68⟩ := hQ68
      obtain ⟨lc68, X68, N68⟩ := own_loc X68 (Fr.app N67 N68q)
      refine own_st (T' := T68) (g' := (mkF m 163 #[own_jv p1, .second, own_jv p2, .second, iv p3, iv p4, iv p5, iv (1 : Int32), iv (1 : Int32), iv z40, iv (0 : Int32), iv (0 : Int32), .val .null, .val .null, rv b60, iv Pj, iv (P66 - Pj), .unset, .unset, .unset] [(.int (((((26 : Int32) + (0 : Int32)) + (5 : Int32)) + (0 : Int32)) + (1 : Int32)))])) (fun _ k => (st68) _ k) ?_
      generalize hz163 : (((((26 : Int32) + (0 : Int32)) + (5 : Int32)) + (0 : Int32)) + (1 : Int32)) = z163
      refine own_st (T' := T68) (g' := (mkF m 165 #[own_jv p1, .second, own_jv p2, .second, iv p3, iv p4, iv p5, iv (1 : Int32), iv (1 : Int32), iv z40, iv (0 : Int32), iv (0 : Int32), .val .null, .val .null, rv b60, iv Pj, iv (P66 - Pj), iv z163, .unset, .unset] [])) (fun _ k => XS.istore X68.here hx rfl (hb hby at_163) rfl (l' := #[own_jv p1, .second, own_jv p2, .second, iv p3, iv p4, iv p5, iv (1 : Int32), iv (1 : Int32), iv z40, iv (0 : Int32), iv (0 : Int32), .val .null, .val .null, rv b60, iv Pj, iv (P66 - Pj), iv z163, .unset, .unset]) rfl k) ?_
      refine own_st (T' := T68) (g' := (mkF m 166 #[own_jv p1, .second, own_jv p2, .second, iv p3, iv p4, iv p5, iv (1 : Int32), iv (1 : Int32), iv z40, iv (0 : Int32), iv (0 : Int32), .val .null, .val .null, rv b60, iv Pj, iv (P66 - Pj), iv z163, .unset, .unset] [.null])) (fun _ k => XS.aconstNull X68.here hx rfl (hb hby at_165) k) ?_
      refine own_st (T' := T68) (g' := (mkF m 167 #[own_jv p1, .second, own_jv p2, .second, iv p3, iv p4, iv p5, iv (1 : Int32), iv (1 : Int32), iv z40, iv (0 : Int32), iv (0 : Int32), .val .null, .val .null, rv b60, iv Pj, iv (P66 - Pj), iv z163, .unset, .unset] [.null, .null])) (fun _ k => XS.aconstNull X68.here hx rfl (hb hby at_166) k) ?_
      obtain ⟨v69, T69, L69, X69, hQ69, st69⟩ := own_packS (Jvm.LawKit.callS X68 hx (y := (⟨"com/example/millrace/millrace/wire/RecordBatchBuilder", "maxRecordSize", "([B[B)I"⟩ : MethodName)) hown (mvT hZ (hw _ (List.mem_of_getElem? (i := 120) rfl))) (mvT hZ (hw _ (List.mem_of_getElem? (i := 121) rfl))) (mvT hZ (hw _ (List.mem_of_getElem? (i := 3) rfl))) (mvT hZ (hw _ (List.mem_of_getElem? (i := 122) rfl))) (by decide) (backOf (W := 0) (rm24_11 l Z a0 hw []  T66.heap n0 Zs66 ) hZ (hw _ (List.mem_of_getElem? (i := 122) rfl)) (hw _ (List.mem_of_getElem? (i := 3) rfl)) (by decide) (by decide)) (g := (mkF m 167 #[own_jv p1, .second, own_jv p2, .second, iv p3, iv p4, iv p5, iv (1 : Int32), iv (1 : Int32), iv z40, iv (0 : Int32), iv (0 : Int32), .val .null, .val .null, rv b60, iv Pj, iv (P66 - Pj), iv z163, .unset, .unset] [.null, .null])) rfl (by rw [hml]; rfl) (argsL := [.null, .null]) (rest := []) (lenOf own_pd0_3 rfl) rfl (by show 2 * 0 + _ ≤ _; exact Nat.le_of_eq rfl) (hb hby at_167) (fun _ _ => ⟨rfl, e68, (by decide : 6 + 0 ≤ _), (by decide : 6647 + 0 ≤ _)⟩))
      obtain ⟨rfl, N69q, e69⟩ := hQ69
      obtain ⟨lc69, X69, N69⟩ := own_loc X69 (Fr.app N68 N69q)
      refine own_st (T' := T69) (g' := (mkF m 170 #[own_jv p1, .second, own_jv p2, .second, iv p3, iv p4, iv p5, iv (1 : Int32), iv (1 : Int32), iv z40, iv (0 : Int32), iv (0 : Int32), .val .null, .val .null, rv b60, iv Pj, iv (P66 - Pj), iv z163, .unset, .unset] [(.int (((((26 : Int32) + (0 : Int32)) + (5 : Int32)) + (0 : Int32)) + (1 : Int32)))])) (fun _ k => (st69) _ k) ?_
      refine own_st (T' := T69) (g' := (mkF m 172 #[own_jv p1, .second, own_jv p2, .second, iv p3, iv p4, iv p5, iv (1 : Int32), iv (1 : Int32), iv z40, iv (0 : Int32), iv (0 : Int32), .val .null, .val .null, rv b60, iv Pj, iv (P66 - Pj), iv z163, iv (((((26 : Int32) + (0 : Int32)) + (5 : Int32)) + (0 : Int32)) + (1 : Int32)), .unset] [])) (fun _ k => XS.istore X69.here hx rfl (hb hby at_170) rfl (l' := #[own_jv p1, .second, own_jv p2, .second, iv p3, iv p4, iv p5, iv (1 : Int32), iv (1 : Int32), iv z40, iv (0 : Int32), iv (0 : Int32), .val .null, .val .null, rv b60, iv Pj, iv (P66 - Pj), iv z163, iv (((((26 : Int32) + (0 : Int32)) + (5 : Int32)) + (0 : Int32)) + (1 : Int32)), .unset]) rfl k) ?_
      refine own_st (T' := T69) (g' := (mkF m 174 #[own_jv p1, .second, own_jv p2, .second, iv p3, iv p4, iv p5, iv (1 : Int32), iv (1 : Int32), iv z40, iv (0 : Int32), iv (0 : Int32), .val .null, .val .null, rv b60, iv Pj, iv (P66 - Pj), iv z163, iv (((((26 : Int32) + (0 : Int32)) + (5 : Int32)) + (0 : Int32)) + (1 : Int32)), .unset] [(.int (32 : Int32))])) (fun _ k => XS.bipush X69.here hx rfl (hb hby at_172) k) ?_
      refine own_st (T' := T69) (g' := (mkF m 176 #[own_jv p1, .second, own_jv p2, .second, iv p3, iv p4, iv p5, iv (1 : Int32), iv (1 : Int32), iv z40, iv (0 : Int32), iv (0 : Int32), .val .null, .val .null, rv b60, iv Pj, iv (P66 - Pj), iv z163, iv (((((26 : Int32) + (0 : Int32)) + (5 : Int32)) + (0 : Int32)) + (1 : Int32)), iv (32 : Int32)] [])) (fun _ k => XS.istore X69.here hx rfl (hb hby at_174) rfl (l' := #[own_jv p1, .second, own_jv p2, .second, iv p3, iv p4, iv p5, iv (1 : Int32), iv (1 : Int32), iv z40, iv (0 : Int32), iv (0 : Int32), .val .null, .val .null, rv b60, iv Pj, iv (P66 - Pj), iv z163, iv (((((26 : Int32) + (0 : Int32)) + (5 : Int32)) + (0 : Int32)) + (1 : Int32)), iv (32 : Int32)]) rfl k) ?_
      refine own_st (T' := T69) (g' := (mkF m 178 #[own_jv p1, .second, own_jv p2, .second, iv p3, iv p4, iv p5, iv (1 : Int32), iv (1 : Int32), iv z40, iv (0 : Int32), iv (0 : Int32), .val .null, .val .null, rv b60, iv Pj, iv (P66 - Pj), iv z163, iv (((((26 : Int32) + (0 : Int32)) + (5 : Int32)) + (0 : Int32)) + (1 : Int32)), iv (32 : Int32)] [(.int (((((26 : Int32) + (0 : Int32)) + (5 : Int32)) + (0 : Int32)) + (1 : Int32)))])) (fun _ k => XS.iload X69.here hx rfl (hb hby at_176) rfl k) ?_
      refine own_st (T' := T69) (g' := (mkF m 180 #[own_jv p1, .second, own_jv p2, .second, iv p3, iv p4, iv p5, iv (1 : Int32), iv (1 : Int32), iv z40, iv (0 : Int32), iv (0 : Int32), .val .null, .val .null, rv b60, iv Pj, iv (P66 - Pj), iv z163, iv (((((26 : Int32) + (0 : Int32)) + (5 : Int32)) + (0 : Int32)) + (1 : Int32)), iv (32 : Int32)] [(.int (32 : Int32)), (.int (((((26 : Int32) + (0 : Int32)) + (5 : Int32)) + (0 : Int32)) + (1 : Int32)))])) (fun _ k => XS.iload X69.here hx rfl (hb hby at_178) rfl k) ?_
      refine own_st (T' := T69) (g' := (mkF m 183 #[own_jv p1, .second, own_jv p2, .second, iv p3, iv p4, iv p5, iv (1 : Int32), iv (1 : Int32), iv z40, iv (0 : Int32), iv (0 : Int32), .val .null, .val .null, rv b60, iv Pj, iv (P66 - Pj), iv z163, iv (((((26 : Int32) + (0 : Int32)) + (5 : Int32)) + (0 : Int32)) + (1 : Int32)), iv (32 : Int32)] [])) (fun _ k => XS.icmpNo X69.here hx rfl (hb hby at_180) rfl (teq (by decide : (((((26 : Int32) + (0 : Int32)) + (5 : Int32)) + (0 : Int32)) + (1 : Int32)) = (32 : Int32))).2 k) ?_
      refine own_st (T' := T69) (g' := (mkF m 185 #[own_jv p1, .second, own_jv p2, .second, iv p3, iv p4, iv p5, iv (1 : Int32), iv (1 : Int32), iv z40, iv (0 : Int32), iv (0 : Int32), .val .null, .val .null, rv b60, iv Pj, iv (P66 - Pj), iv z163, iv (((((26 : Int32) + (0 : Int32)) + (5 : Int32)) + (0 : Int32)) + (1 : Int32)), iv (32 : Int32)] [(.int z163)])) (fun _ k => XS.iload X69.here hx rfl (hb hby at_183) rfl k) ?_
      refine own_st (T' := T69) (g' := (mkF m 187 #[own_jv p1, .second, own_jv p2, .second, iv p3, iv p4, iv p5, iv (1 : Int32), iv (1 : Int32), iv z40, iv (0 : Int32), iv (0 : Int32), .val .null, .val .null, rv b60, iv Pj, iv (P66 - Pj), iv z163, iv (((((26 : Int32) + (0 : Int32)) + (5 : Int32)) + (0 : Int32)) + (1 : Int32)), iv (32 : Int32)] [(.int (((((26 : Int32) + (0 : Int32)) + (5 : Int32)) + (0 : Int32)) + (1 : Int32))), (.int z163)])) (fun _ k => XS.iload X69.here hx rfl (hb hby at_185) rfl k) ?_
      refine own_st (T' := T69) (g' := (mkF m 188 #[own_jv p1, .second, own_jv p2, .second, iv p3, iv p4, iv p5, iv (1 : Int32), iv (1 : Int32), iv z40, iv (0 : Int32), iv (0 : Int32), .val .null, .val .null, rv b60, iv Pj, iv (P66 - Pj), iv z163, iv (((((26 : Int32) + (0 : Int32)) + (5 : Int32)) + (0 : Int32)) + (1 : Int32)), iv (32 : Int32)] [(.int (z163 - (((((26 : Int32) + (0 : Int32)) + (5 : Int32)) + (0 : Int32)) + (1 : Int32))))])) (fun _ k => XS.isub X69.here hx rfl (hb hby at_187) rfl k) ?_
      refine own_st (T' := T69) (g' := (mkF m 190 #[own_jv p1, .second, own_jv p2, .second, iv p3, iv p4, iv p5, iv (1 : Int32), iv (1 : Int32), iv z40, iv (0 : Int32), iv (0 : Int32), .val .null, .val .null, rv b60, iv Pj, iv (P66 - Pj), iv z163, iv (((((26 : Int32) + (0 : Int32)) + (5 : Int32)) + (0 : Int32)) + (1 : Int32)), iv (32 : Int32)] [(.int (0 : Int32)), (.int (z163 - (((((26 : Int32) + (0 : Int32)) + (5 : Int32)) + (0 : Int32)) + (1 : Int32))))])) (fun _ k => XS.iload X69.here hx rfl (hb hby at_188) rfl k) ?_
      refine own_st (T' := T69) (g' := (mkF m 192 #[own_jv p1, .second, own_jv p2, .second, iv p3, iv p4, iv p5, iv (1 : Int32), iv (1 : Int32), iv z40, iv (0 : Int32), iv (0 : Int32), .val .null, .val .null, rv b60, iv Pj, iv (P66 - Pj), iv z163, iv (((((26 : Int32) + (0 : Int32)) + (5 : Int32)) + (0 : Int32)) + (1 : Int32)), iv (32 : Int32)] [(.int (0 : Int32)), (.int (0 : Int32)), (.int (z163 - (((((26 : Int32) + (0 : Int32)) + (5 : Int32)) + (0 : Int32)) + (1 : Int32))))])) (fun _ k => XS.iload X69.here hx rfl (hb hby at_190) rfl k) ?_
      refine own_st (T' := T69) (g' := (mkF m 193 #[own_jv p1, .second, own_jv p2, .second, iv p3, iv p4, iv p5, iv (1 : Int32), iv (1 : Int32), iv z40, iv (0 : Int32), iv (0 : Int32), .val .null, .val .null, rv b60, iv Pj, iv (P66 - Pj), iv z163, iv (((((26 : Int32) + (0 : Int32)) + (5 : Int32)) + (0 : Int32)) + (1 : Int32)), iv (32 : Int32)] [(.int ((0 : Int32) + (0 : Int32))), (.int (z163 - (((((26 : Int32) + (0 : Int32)) + (5 : Int32)) + (0 : Int32)) + (1 : Int32))))])) (fun _ k => XS.iadd X69.here hx rfl (hb hby at_192) rfl k) ?_
      refine own_st (T' := T69) (g' := (mkF m 196 #[own_jv p1, .second, own_jv p2, .second, iv p3, iv p4, iv p5, iv (1 : Int32), iv (1 : Int32), iv z40, iv (0 : Int32), iv (0 : Int32), .val .null, .val .null, rv b60, iv Pj, iv (P66 - Pj), iv z163, iv (((((26 : Int32) + (0 : Int32)) + (5 : Int32)) + (0 : Int32)) + (1 : Int32)), iv (32 : Int32)] [])) (fun _ k => XS.icmpNo X69.here hx rfl (hb hby at_193) rfl (teq (own_fin (0 : Int32) (0 : Int32) z163 (by decide) (by decide) (by decide) (by decide) hz163)).2 k) ?_
      refine own_st (T' := T69) (g' := (mkF m 198 #[own_jv p1, .second, own_jv p2, .second, iv p3, iv p4, iv p5, iv (1 : Int32), iv (1 : Int32), iv z40, iv (0 : Int32), iv (0 : Int32), .val .null, .val .null, rv b60, iv Pj, iv (P66 - Pj), iv z163, iv (((((26 : Int32) + (0 : Int32)) + (5 : Int32)) + (0 : Int32)) + (1 : Int32)), iv (32 : Int32)] [(.int (P66 - Pj))])) (fun _ k => XS.iload X69.here hx rfl (hb hby at_196) rfl k) ?_
      refine own_st (T' := T69) (g' := (mkF m 200 #[own_jv p1, .second, own_jv p2, .second, iv p3, iv p4, iv p5, iv (1 : Int32), iv (1 : Int32), iv z40, iv (0 : Int32), iv (0 : Int32), .val .null, .val .null, rv b60, iv Pj, iv (P66 - Pj), iv z163, iv (((((26 : Int32) + (0 : Int32)) + (5 : Int32)) + (0 : Int32)) + (1 : Int32)), iv (32 : Int32)] [(.int z163), (.int (P66 - Pj))])) (fun _ k => XS.iload X69.here hx rfl (hb hby at_198) rfl k) ?_
      have hmr := own_mr (0 : Int32) (0 : Int32) (by decide) (by decide) (by decide) (by decide)
      rw [hz163] at hmr
      have e00 : (0 : Int32).toInt = 0 := rfl
      refine own_st (T' := T69) (g' := (mkF m 203 #[own_jv p1, .second, own_jv p2, .second, iv p3, iv p4, iv p5, iv (1 : Int32), iv (1 : Int32), iv z40, iv (0 : Int32), iv (0 : Int32), .val .null, .val .null, rv b60, iv Pj, iv (P66 - Pj), iv z163, iv (((((26 : Int32) + (0 : Int32)) + (5 : Int32)) + (0 : Int32)) + (1 : Int32)), iv (32 : Int32)] [])) (fun _ k => XS.icmpNo X69.here hx rfl (hb hby at_200) rfl (flt (own_le Pj P66 z163 ((0 : Int32).toInt + (0 : Int32).toInt) hP0 (by omega) hA66 (by omega) (by omega) (by omega) (by omega))).2.2.1 k) ?_
      refine own_st (T' := T69) (g' := (mkF m 204 #[own_jv p1, .second, own_jv p2, .second, iv p3, iv p4, iv p5, iv (1 : Int32), iv (1 : Int32), iv z40, iv (0 : Int32), iv (0 : Int32), .val .null, .val .null, rv b60, iv Pj, iv (P66 - Pj), iv z163, iv (((((26 : Int32) + (0 : Int32)) + (5 : Int32)) + (0 : Int32)) + (1 : Int32)), iv (32 : Int32)] [(.int (1 : Int32))])) (fun _ k => XS.iconst X69.here hx rfl (hb hby at_203) k) ?_
      refine own_st (T' := T69) (g' := (mkF m 208 #[own_jv p1, .second, own_jv p2, .second, iv p3, iv p4, iv p5, iv (1 : Int32), iv (1 : Int32), iv z40, iv (0 : Int32), iv (0 : Int32), .val .null, .val .null, rv b60, iv Pj, iv (P66 - Pj), iv z163, iv (((((26 : Int32) + (0 : Int32)) + (5 : Int32)) + (0 : Int32)) + (1 : Int32)), iv (32 : Int32)] [(.int (1 : Int32))])) (fun _ k => XS.goto X69.here hx rfl (pc0 := 204) (pc' := 208) rfl (hb hby at_204) (by decide) (by decide) k) ?_
      exact own_end (Q := Q0 Z p1 p2 p3 p4 p5 h0 n0) (v := some (.int (nar .boolean (1 : Int32)))) X69 (fun h => by rw [Bd.returns] at h; cases h) (fun fs hr => retN X69 hx (t := .boolean) Bd.returns (by simp) (hb hby at_208) hr) (⟨rfl, N69⟩) (by decide) (by decide)
theorem own_bytes {args : Array Value} {s : State} {t : Term} {x : Addr} {c : Cell} {z : Int32} (hf : Fit s) (ev : t.eval args s none [] s = some (.ref x)) (A : Arr s s.heap x c .byte) (h : (Jvm.Cond.eq (Term.length t) (Term.int z)).value args s none s [] = some true) (hz : ¬ z < 0) : own_Y s s.heap x z := by
  have h1 := eqv_i (Term.int_eval z) h
  have ha : s.arrayAt? x = some c := Arr.fin (Vm.Alike.refl _) A
  simp [Term.eval, ev, ha] at h1
  have q : c.slots.size < 2 ^ 31 := by simpa using h1.1
  have S : c.slots.size = z.toNatClampNeg := by rw [← h1.2]; simp only [Int32.toNatClampNeg, len_toInt q]; rfl
  refine ⟨c.cls, c.slots.toList, ⟨c, A, rfl, S, hz, fun i hi => ?_, fun i hi => ?_⟩, by simpa using S⟩
  · simp [List.getD, Array.getElem?_eq_getElem hi]
  · have e1 : (Nat.toInt32 i).toNatClampNeg = i := by simp only [Int32.toNatClampNeg, len_toInt (Nat.lt_trans hi q)]; rfl
    have g := elem_fits (j := Nat.toInt32 i) (v := c.slots[i]) hf A (idx_in hi q) (by rw [e1]; exact Array.getElem?_eq_getElem hi)
    simpa [List.getD, Array.getElem?_eq_getElem hi] using g
set_option maxRecDepth 65536 in
set_option maxHeartbeats 40000000 in
theorem comes_1 {Post : Tables → Env → Array Value → State → Outcome → State → Prop} (hpost : ∀ tb e args s v u, (limb_1_1.after args s (.returned v) u = true ∧ limb_1_2.after args s (.returned v) u = true ∧ True) → FrameEnd s (.returned v) u (Jvm.fieldLocs frame_1_writes args s ++ Jvm.arrayLocs frame_1_arrays args s ++ Jvm.staticLocs frame_1_statics s) 24 8704 → Post tb e args s (.returned v) u) :
    ArmFor flags0 classFile x code maxLocals ret World_1 tables_1 room_1 Calls_1 rest_1 Pre_1 Post := by
  intro l hfl _ _ p e ha hc hk s m args below hf hA hF happ hP
  obtain ⟨hcalls, hrest, hpre⟩ := hP
  obtain ⟨-, -, -, hnamed, -, -, -, hat⟩ := (Spec.applies_iff hf).mp happ
  obtain ⟨hg, hn⟩ := and_e (Cond.before_iff.mp (show (Jvm.Cond.and given_1 narrow_1).before args s = true from hpre))
  obtain ⟨hcount, hg0⟩ := and_e hg
  obtain ⟨ga0, hg1⟩ := and_e hg0
  obtain ⟨ga1, hg2⟩ := and_e hg1
  obtain ⟨ga2, hg3⟩ := and_e hg2
  obtain ⟨ga3, hg4⟩ := and_e hg3
  obtain ⟨w0, w1, w2, w3, w4, rfl⟩ : ∃ w0 w1 w2 w3 w4 : Value, args = #[w0, w1, w2, w3, w4] := by
    have hs : args.size = 5 := by simpa [Cond.value, given_1] using hcount
    obtain ⟨L⟩ := args
    match L, hs with
    | [w0, w1, w2, w3, w4], _ => exact ⟨w0, w1, w2, w3, w4, rfl⟩
  have hw := fun d (hd : d ∈ tables_1) => atoms_spec (ws := Jvm.Cond.code x code maxLocals ret :: tables_1) hat d (List.mem_cons_of_mem _ hd)
  obtain ⟨i0, ei0⟩ := isL_v ga0
  obtain rfl : w0 = (.long i0) := Option.some.inj ei0
  obtain ⟨i1, ei1⟩ := isL_v ga1
  obtain rfl : w1 = (.long i1) := Option.some.inj ei1
  obtain ⟨i2, ei2⟩ := is_v ga2
  obtain rfl : w2 = (.int i2) := Option.some.inj ei2
  obtain ⟨i3, ei3⟩ := is_v ga3
  obtain rfl : w3 = (.int i3) := Option.some.inj ei3
  obtain ⟨i4, ei4⟩ := is_v hg4
  obtain rfl : w4 = (.int i4) := Option.some.inj ei4
  have hfit : Fit s := fun {y c} hc i hi => by
    obtain ⟨ha, rfl⟩ := Array.getElem?_eq_some_iff.mp hc
    have q := List.all_eq_true.mp ((Array.all_eq_true_iff_forall_mem.mp hF) _ (Array.getElem_mem ha)) i (List.mem_range.mpr hi)
    simpa [Array.getElem?_eq_getElem hi] using q
  obtain ⟨na0, hn0⟩ := and_e hn
  obtain ⟨na1, hn1⟩ := and_e hn0
  obtain ⟨na2, -⟩ := and_e hn1
  obtain ⟨hd, evn⟩ := exa_v na1
  have S_h := Sta.start evn (Or.inr ⟨(hw _ (List.mem_of_getElem? (i := 3) rfl)), (hw _ (List.mem_of_getElem? (i := 27) rfl))⟩)
  obtain ⟨cN, A_h⟩ := Arr.start evn na0
  have Y_hd := own_bytes hfit evn A_h na2 (by decide)
  obtain ⟨n, o, h1, h2, h3, _, L, rfl, ⟨rfl, N⟩, hq⟩ := rm0 l s _ hw tables_1 i0 i1 i2 i3 i4 hd s.heap s.heap.size (Nat.le_refl _) S_h Y_hd p e ha hc hk s m _ below hf ((Spec.applies_iff_loose hf).mp happ).1 ⟨rfl, State.Warmed39.refl s, rfl⟩ trivial
  refine ⟨n, _, h1, h2, h3, hpost _ _ _ _ _ _ ⟨Cond.after_iff.mpr rfl, Cond.after_iff.mpr (eq_i res_at (Term.int_eval (1)) rfl), trivial⟩ ⟨hq.1, hq.2.1, (hq.2.2.sift fun y hy => Or.inr (N y hy)).mono (by decide) (by decide)⟩⟩
theorem main_1_1 : Claimed_1_1 := comes_1 fun _ _ _ _ _ _ h hF => ⟨h.1, hF⟩
theorem main_1_2 : Claimed_1_2 := comes_1 fun _ _ _ _ _ _ h hF => ⟨h.2.1, hF⟩
end Jvm.Pilot.@@N@@
namespace Jvm.Pilot.@@N@@
open Jvm Jvm.ClassFile Sem Op Lib Jvm.Free Jvm.Stand Jvm.Pilot.@@N@@.Jvm.D
/-! MADE BY PROGRAM (witnessworld.py) out of the Statement's table words and the real class files: 13 classes; the members and pool entries that the words name. The judged class is class 1, her method 1. -/
namespace start1
open Jvm.ClassFile
def u (s : String) : CpInfo := .utf8 (stringToUtf16 s)
/-- a pool by its gaps: so many unusable entries, then the entry; so many at the end -/
def gap : Nat → List CpInfo → List CpInfo
  | 0, r => r
  | n + 1, r => .unusable :: gap n r
def poolList (es : List (Nat × CpInfo)) (last : Nat) : List CpInfo := es.foldr (fun e r => gap e.1 (e.2 :: r)) (gap last [])
def pool (es : List (Nat × CpInfo)) (last : Nat) : Array CpInfo := ⟨poolList es last⟩
def fileOf (pool : Array CpInfo) (this : Nat) (attrs : Array Attribute := #[]) (ms : Array MethodInfo := #[]) (fl : Nat := 33) (sup : Nat := 0) (ifs : Array Nat := #[]) (fds : Array FieldInfo := #[]) : ClassFile where
  minorVersion := 0
  majorVersion := 65
  constantPool := pool
  accessFlags := fl
  thisClass := this
  superClass := sup
  interfaces := ifs
  fields := fds
  methods := ms
  attributes := attrs
def plain (name : String) (sup : Option ClassId) : Class where
  name := name
  kind := .ordinary
  loader := none
  accessFlags := 33
  super := sup
  interfaces := #[]
  cf := none
  fields := #[]
  methods := #[]
  instanceTypes := #[]
  staticTypes := #[]
  resolved := #[]
  callSites := []
  init := .initialized
  statics := none
  mirror := none

def pool0 : Array CpInfo := pool [(5, u "<init>"), (0, u "()V"), (1, .class_ 10), (1, u "java/lang/Object")] 113

def k0c0 : Code := { maxStack := 0, maxLocals := 1, code := object_method_1_code, exceptionTable := #[], attributes := #[] }
def k0m0 : Method := { name := "<init>", desc := "()V", sig := { parameters := [], returnType := none }, accessFlags := 1, code := some k0c0 }
/-- java/lang/Object -/
def k0 : Class := { plain "java/lang/Object" none with
  accessFlags := 33
  interfaces := #[]
  cf := some (fileOf pool0 8 #[] #[{ accessFlags := 1, nameIndex := 5, descriptorIndex := 6, attributes := #[] }] 33 0 #[] #[])
  fields := #[]
  methods := #[k0m0]
  instanceTypes := #[]
  staticTypes := #[]
  resolved := Array.replicate 124 none
  statics := none }

def pool1 : Array CpInfo := pool [(2, .class_ 4), (1, u "java/lang/Object"), (0, u "<init>"), (0, u "()V"), (0, .class_ 8), (0, u "com/example/millrace/millrace/wire/RecordBatchBuilder"), (0, .methodref 7 10), (0, .nameAndType 5 11), (0, u "(I)V"), (0, .methodref 7 13), (0, .nameAndType 14 15), (0, u "append"), (0, u "(J[B[B)V"), (0, .methodref 7 17), (0, .nameAndType 18 19), (0, u "sizeInBytes"), (0, u "()I"), (0, .methodref 7 21), (0, .nameAndType 22 23), (0, u "maxRecordSize"), (0, u "([B[B)I"), (0, .class_ 25), (0, u "com/example/millrace/millrace/wire/RecordBatchBuilderMaxRecordSizePinLaw"), (2, u "law"), (0, u "(JJIII)Z")] 5

def k1m0 : Method := { name := "<init>", desc := "()V", sig := { parameters := [], returnType := none }, accessFlags := 1, code := none }
def k1c1 : Code := { maxStack := 5, maxLocals := 20, code := code, exceptionTable := #[], attributes := #[] }
def k1m1 : Method := { name := "law", desc := "(JJIII)Z", sig := { parameters := [.long, .long, .int, .int, .int], returnType := some .boolean }, accessFlags := 9, code := some k1c1 }
/-- com/example/millrace/millrace/wire/RecordBatchBuilderMaxRecordSizePinLaw -/
def k1 : Class := { plain "com/example/millrace/millrace/wire/RecordBatchBuilderMaxRecordSizePinLaw" (some 0) with
  accessFlags := 49
  interfaces := #[]
  cf := some (fileOf pool1 24 #[] #[{ accessFlags := 1, nameIndex := 5, descriptorIndex := 6, attributes := #[] }, { accessFlags := 9, nameIndex := 28, descriptorIndex := 29, attributes := #[] }] 49 2 #[] #[])
  fields := #[]
  methods := #[k1m0, k1m1]
  instanceTypes := #[]
  staticTypes := #[]
  resolved := Array.replicate 35 none
  statics := none }

def pool2 : Array CpInfo := pool [(1, .methodref 2 3), (0, .class_ 4), (0, .nameAndType 5 6), (0, u "java/lang/Object"), (0, u "<init>"), (0, u "()V"), (0, .class_ 8), (0, u "com/example/millrace/millrace/wire/ProtocolWriter"), (0, .class_ 10), (0, u "com/example/millrace/millrace/wire/RecordBatchBuilder"), (0, .methodref 12 13), (0, .class_ 14), (0, .nameAndType 15 16), (0, u "java/lang/Math"), (0, u "max"), (0, u "(II)I"), (0, .methodref 7 18), (0, .nameAndType 5 19), (0, u "(I)V"), (0, .fieldref 9 21), (0, .nameAndType 22 23), (0, u "out"), (0, u "Lcom/example/millrace/millrace/wire/ProtocolWriter;"), (0, .fieldref 9 25), (0, .nameAndType 26 27), (0, u "HEADER"), (0, u "[B"), (0, .methodref 7 29), (0, .nameAndType 30 31), (0, u "writeBytes"), (0, u "([B)Lcom/example/millrace/millrace/wire/ProtocolWriter;"), (26, .methodref 7 59), (0, .nameAndType 60 61), (0, u "position"), (0, u "()I"), (0, .fieldref 9 63), (0, .nameAndType 64 65), (0, u "count"), (0, u "I"), (0, .fieldref 9 67), (0, .nameAndType 68 69), (0, u "baseTimestamp"), (0, u "J"), (0, .fieldref 9 71), (0, .nameAndType 72 69), (0, u "maxTimestamp"), (0, .methodref 7 74), (0, .nameAndType 75 76), (0, u "sizeOfVarlong"), (0, u "(J)I"), (0, .methodref 7 78), (0, .nameAndType 79 80), (0, u "sizeOfVarint"), (0, u "(I)I"), (0, .methodref 7 82), (0, .nameAndType 83 84), (0, u "reserve"), (0, u "(I)[B"), (0, .methodref 7 86), (0, .nameAndType 87 88), (0, u "putVarint"), (0, u "([BII)I"), (0, .methodref 7 90), (0, .nameAndType 91 92), (0, u "putVarlong"), (0, u "([BIJ)I"), (0, .methodref 94 95), (0, .class_ 96), (0, .nameAndType 97 98), (0, u "java/lang/System"), (0, u "arraycopy"), (0, u "(Ljava/lang/Object;ILjava/lang/Object;II)V"), (0, .methodref 7 100), (0, .nameAndType 101 19), (0, u "advanceTo"), (0, .methodref 12 103), (0, .nameAndType 15 104), (0, u "(JJ)J"), (24, u "HEADER_SIZE"), (2, u "LOG_OVERHEAD"), (1, u "MAGIC"), (0, u "B"), (1, u "BATCH_LENGTH_OFFSET"), (1, u "MAGIC_OFFSET"), (1, u "CRC_OFFSET"), (1, u "ATTRIBUTES_OFFSET"), (1, u "LAST_OFFSET_DELTA_OFFSET"), (1, u "BASE_TIMESTAMP_OFFSET"), (1, u "MAX_TIMESTAMP_OFFSET"), (1, u "RECORD_COUNT_OFFSET"), (3, u "sizeInBytes"), (1, u "maxRecordSize"), (0, u "([B[B)I"), (1, u "append"), (0, u "(J[B[B)V")] 5

def k2c0 : Code := { maxStack := 6, maxLocals := 2, code := prog_130_method_1_code, exceptionTable := #[], attributes := #[] }
def k2m0 : Method := { name := "<init>", desc := "(I)V", sig := { parameters := [.int], returnType := none }, accessFlags := 1, code := some k2c0 }
def k2c1 : Code := { maxStack := 1, maxLocals := 1, code := prog_130_method_3_code, exceptionTable := #[], attributes := #[] }
def k2m1 : Method := { name := "sizeInBytes", desc := "()I", sig := { parameters := [], returnType := some .int }, accessFlags := 1, code := some k2c1 }
def k2c2 : Code := { maxStack := 2, maxLocals := 4, code := prog_130_method_5_code, exceptionTable := #[], attributes := #[] }
def k2m2 : Method := { name := "maxRecordSize", desc := "([B[B)I", sig := { parameters := [(.array .byte), (.array .byte)], returnType := some .int }, accessFlags := 9, code := some k2c2 }
def k2c3 : Code := { maxStack := 5, maxLocals := 13, code := prog_130_method_6_code, exceptionTable := #[], attributes := #[] }
def k2m3 : Method := { name := "append", desc := "(J[B[B)V", sig := { parameters := [.long, (.array .byte), (.array .byte)], returnType := none }, accessFlags := 1, code := some k2c3 }
/-- com/example/millrace/millrace/wire/RecordBatchBuilder -/
def k2 : Class := { plain "com/example/millrace/millrace/wire/RecordBatchBuilder" (some 0) with
  accessFlags := 49
  interfaces := #[]
  cf := some (fileOf pool2 9 #[] #[{ accessFlags := 1, nameIndex := 5, descriptorIndex := 19, attributes := #[] }, { accessFlags := 1, nameIndex := 155, descriptorIndex := 61, attributes := #[] }, { accessFlags := 9, nameIndex := 157, descriptorIndex := 158, attributes := #[] }, { accessFlags := 1, nameIndex := 160, descriptorIndex := 161, attributes := #[] }] 49 2 #[] #[{ accessFlags := 24, nameIndex := 129, descriptorIndex := 65, attributes := #[] }, { accessFlags := 24, nameIndex := 132, descriptorIndex := 65, attributes := #[] }, { accessFlags := 24, nameIndex := 134, descriptorIndex := 135, attributes := #[] }, { accessFlags := 24, nameIndex := 137, descriptorIndex := 65, attributes := #[] }, { accessFlags := 24, nameIndex := 139, descriptorIndex := 65, attributes := #[] }, { accessFlags := 24, nameIndex := 141, descriptorIndex := 65, attributes := #[] }, { accessFlags := 24, nameIndex := 143, descriptorIndex := 65, attributes := #[] }, { accessFlags := 26, nameIndex := 145, descriptorIndex := 65, attributes := #[] }, { accessFlags := 26, nameIndex := 147, descriptorIndex := 65, attributes := #[] }, { accessFlags := 26, nameIndex := 149, descriptorIndex := 65, attributes := #[] }, { accessFlags := 26, nameIndex := 151, descriptorIndex := 65, attributes := #[] }, { accessFlags := 26, nameIndex := 26, descriptorIndex := 27, attributes := #[] }, { accessFlags := 18, nameIndex := 22, descriptorIndex := 23, attributes := #[] }, { accessFlags := 2, nameIndex := 68, descriptorIndex := 69, attributes := #[] }, { accessFlags := 2, nameIndex := 72, descriptorIndex := 69, attributes := #[] }, { accessFlags := 2, nameIndex := 64, descriptorIndex := 65, attributes := #[] }])
  fields := #[{ name := "HEADER_SIZE", type := .int, accessFlags := 24, slot := 0, constantValue := 0 }, { name := "LOG_OVERHEAD", type := .int, accessFlags := 24, slot := 1, constantValue := 0 }, { name := "MAGIC", type := .byte, accessFlags := 24, slot := 2, constantValue := 0 }, { name := "BATCH_LENGTH_OFFSET", type := .int, accessFlags := 24, slot := 3, constantValue := 0 }, { name := "MAGIC_OFFSET", type := .int, accessFlags := 24, slot := 4, constantValue := 0 }, { name := "CRC_OFFSET", type := .int, accessFlags := 24, slot := 5, constantValue := 0 }, { name := "ATTRIBUTES_OFFSET", type := .int, accessFlags := 24, slot := 6, constantValue := 0 }, { name := "LAST_OFFSET_DELTA_OFFSET", type := .int, accessFlags := 26, slot := 7, constantValue := 0 }, { name := "BASE_TIMESTAMP_OFFSET", type := .int, accessFlags := 26, slot := 8, constantValue := 0 }, { name := "MAX_TIMESTAMP_OFFSET", type := .int, accessFlags := 26, slot := 9, constantValue := 0 }, { name := "RECORD_COUNT_OFFSET", type := .int, accessFlags := 26, slot := 10, constantValue := 0 }, { name := "HEADER", type := (.array .byte), accessFlags := 26, slot := 11, constantValue := 0 }, { name := "out", type := (.object "com/example/millrace/millrace/wire/ProtocolWriter"), accessFlags := 18, slot := 0, constantValue := 0 }, { name := "baseTimestamp", type := .long, accessFlags := 2, slot := 1, constantValue := 0 }, { name := "maxTimestamp", type := .long, accessFlags := 2, slot := 2, constantValue := 0 }, { name := "count", type := .int, accessFlags := 2, slot := 3, constantValue := 0 }]
  methods := #[k2m0, k2m1, k2m2, k2m3]
  instanceTypes := #[(.object "com/example/millrace/millrace/wire/ProtocolWriter"), .long, .long, .int]
  staticTypes := #[.int, .int, .byte, .int, .int, .int, .int, .int, .int, .int, .int, (.array .byte)]
  resolved := Array.replicate 167 none
  statics := some 0 }

def pool3 : Array CpInfo := pool [(1, .methodref 2 3), (0, .class_ 4), (0, .nameAndType 5 6), (0, u "java/lang/Object"), (0, u "<init>"), (0, u "()V"), (0, .methodref 8 9), (0, .class_ 10), (0, .nameAndType 11 12), (0, u "java/lang/Math"), (0, u "max"), (0, u "(II)I"), (0, .fieldref 14 15), (0, .class_ 16), (0, .nameAndType 17 18), (0, u "com/example/millrace/millrace/wire/ProtocolWriter"), (0, u "bytes"), (0, u "[B"), (0, .fieldref 14 20), (0, .nameAndType 21 22), (0, u "position"), (0, u "I"), (0, .methodref 24 25), (0, .class_ 26), (0, .nameAndType 27 28), (0, u "java/util/Arrays"), (0, u "copyOf"), (0, u "([BI)[B"), (25, .methodref 14 55), (0, .nameAndType 56 57), (0, u "ensure"), (0, u "(I)V"), (8, .methodref 14 67), (0, .nameAndType 68 69), (0, u "putUnsignedVarint"), (0, u "([BII)I"), (6, u "putVarlong"), (0, u "([BIJ)I"), (0, .long 4294967295), (1, .methodref 14 81), (0, .nameAndType 82 77), (0, u "putLongUnsignedVarlong"), (0, .long 18446744073709551488), (1, .long 127), (1, .long 128), (1, .methodref 14 90), (0, .nameAndType 91 92), (0, u "writeBytes"), (0, u "([BII)Lcom/example/millrace/millrace/wire/ProtocolWriter;"), (0, .methodref 94 95), (0, .class_ 96), (0, .nameAndType 97 98), (0, u "java/lang/System"), (0, u "arraycopy"), (0, u "(Ljava/lang/Object;ILjava/lang/Object;II)V"), (28, u "([B)Lcom/example/millrace/millrace/wire/ProtocolWriter;"), (16, u "()I"), (28, .methodref 14 174), (0, .nameAndType 175 176), (0, u "sizeOfLongUnsignedVarint"), (0, u "(I)I"), (0, .integer 4292870144), (0, .integer 4026531840), (0, .methodref 14 180), (0, .nameAndType 181 176), (0, u "sizeOfUnsignedVarint"), (0, .methodref 14 183), (0, .nameAndType 184 57), (0, u "grow"), (2, .long 2147483639), (6, .long 2), (1, .methodref 8 197), (0, .nameAndType 198 199), (0, u "min"), (0, u "(JJ)J"), (0, .methodref 8 201), (0, .nameAndType 11 199), (15, u "reserve"), (0, u "(I)[B"), (0, u "advanceTo"), (1, u "putVarint"), (11, u "sizeOfVarint"), (0, u "sizeOfVarlong"), (0, u "(J)I")] 17

def k3c0 : Code := { maxStack := 3, maxLocals := 2, code := prog_128_method_1_code, exceptionTable := #[], attributes := #[] }
def k3m0 : Method := { name := "<init>", desc := "(I)V", sig := { parameters := [.int], returnType := none }, accessFlags := 1, code := some k3c0 }
def k3c1 : Code := { maxStack := 1, maxLocals := 1, code := prog_128_method_2_code, exceptionTable := #[], attributes := #[] }
def k3m1 : Method := { name := "position", desc := "()I", sig := { parameters := [], returnType := some .int }, accessFlags := 1, code := some k3c1 }
def k3c2 : Code := { maxStack := 2, maxLocals := 2, code := prog_128_method_16_code, exceptionTable := #[], attributes := #[] }
def k3m2 : Method := { name := "reserve", desc := "(I)[B", sig := { parameters := [.int], returnType := some (.array .byte) }, accessFlags := 0, code := some k3c2 }
def k3c3 : Code := { maxStack := 2, maxLocals := 2, code := prog_128_method_17_code, exceptionTable := #[], attributes := #[] }
def k3m3 : Method := { name := "advanceTo", desc := "(I)V", sig := { parameters := [.int], returnType := none }, accessFlags := 0, code := some k3c3 }
def k3c4 : Code := { maxStack := 6, maxLocals := 3, code := prog_128_method_18_code, exceptionTable := #[], attributes := #[] }
def k3m4 : Method := { name := "putUnsignedVarint", desc := "([BII)I", sig := { parameters := [(.array .byte), .int, .int], returnType := some .int }, accessFlags := 8, code := some k3c4 }
def k3c5 : Code := { maxStack := 5, maxLocals := 3, code := prog_128_method_19_code, exceptionTable := #[], attributes := #[] }
def k3m5 : Method := { name := "putVarint", desc := "([BII)I", sig := { parameters := [(.array .byte), .int, .int], returnType := some .int }, accessFlags := 8, code := some k3c5 }
def k3c6 : Code := { maxStack := 5, maxLocals := 6, code := prog_128_method_20_code, exceptionTable := #[], attributes := #[] }
def k3m6 : Method := { name := "putVarlong", desc := "([BIJ)I", sig := { parameters := [(.array .byte), .int, .long], returnType := some .int }, accessFlags := 8, code := some k3c6 }
def k3c7 : Code := { maxStack := 6, maxLocals := 7, code := prog_128_method_21_code, exceptionTable := #[], attributes := #[] }
def k3m7 : Method := { name := "putLongUnsignedVarlong", desc := "([BIJ)I", sig := { parameters := [(.array .byte), .int, .long], returnType := some .int }, accessFlags := 10, code := some k3c7 }
def k3c8 : Code := { maxStack := 4, maxLocals := 2, code := prog_128_method_22_code, exceptionTable := #[], attributes := #[] }
def k3m8 : Method := { name := "writeBytes", desc := "([B)Lcom/example/millrace/millrace/wire/ProtocolWriter;", sig := { parameters := [(.array .byte)], returnType := some (.object "com/example/millrace/millrace/wire/ProtocolWriter") }, accessFlags := 1, code := some k3c8 }
def k3c9 : Code := { maxStack := 5, maxLocals := 4, code := prog_128_method_23_code, exceptionTable := #[], attributes := #[] }
def k3m9 : Method := { name := "writeBytes", desc := "([BII)Lcom/example/millrace/millrace/wire/ProtocolWriter;", sig := { parameters := [(.array .byte), .int, .int], returnType := some (.object "com/example/millrace/millrace/wire/ProtocolWriter") }, accessFlags := 1, code := some k3c9 }
def k3c10 : Code := { maxStack := 2, maxLocals := 1, code := prog_128_method_30_code, exceptionTable := #[], attributes := #[] }
def k3m10 : Method := { name := "sizeOfUnsignedVarint", desc := "(I)I", sig := { parameters := [.int], returnType := some .int }, accessFlags := 8, code := some k3c10 }
def k3c11 : Code := { maxStack := 2, maxLocals := 2, code := prog_128_method_31_code, exceptionTable := #[], attributes := #[] }
def k3m11 : Method := { name := "sizeOfLongUnsignedVarint", desc := "(I)I", sig := { parameters := [.int], returnType := some .int }, accessFlags := 10, code := some k3c11 }
def k3c12 : Code := { maxStack := 3, maxLocals := 1, code := prog_128_method_32_code, exceptionTable := #[], attributes := #[] }
def k3m12 : Method := { name := "sizeOfVarint", desc := "(I)I", sig := { parameters := [.int], returnType := some .int }, accessFlags := 8, code := some k3c12 }
def k3c13 : Code := { maxStack := 5, maxLocals := 5, code := prog_128_method_33_code, exceptionTable := #[], attributes := #[] }
def k3m13 : Method := { name := "sizeOfVarlong", desc := "(J)I", sig := { parameters := [.long], returnType := some .int }, accessFlags := 8, code := some k3c13 }
def k3c14 : Code := { maxStack := 3, maxLocals := 2, code := prog_128_method_34_code, exceptionTable := #[], attributes := #[] }
def k3m14 : Method := { name := "ensure", desc := "(I)V", sig := { parameters := [.int], returnType := none }, accessFlags := 2, code := some k3c14 }
def k3c15 : Code := { maxStack := 6, maxLocals := 6, code := prog_128_method_35_code, exceptionTable := #[], attributes := #[] }
def k3m15 : Method := { name := "grow", desc := "(I)V", sig := { parameters := [.int], returnType := none }, accessFlags := 2, code := some k3c15 }
/-- com/example/millrace/millrace/wire/ProtocolWriter -/
def k3 : Class := { plain "com/example/millrace/millrace/wire/ProtocolWriter" (some 0) with
  accessFlags := 49
  interfaces := #[]
  cf := some (fileOf pool3 14 #[] #[{ accessFlags := 1, nameIndex := 5, descriptorIndex := 57, attributes := #[] }, { accessFlags := 1, nameIndex := 21, descriptorIndex := 144, attributes := #[] }, { accessFlags := 0, nameIndex := 217, descriptorIndex := 218, attributes := #[] }, { accessFlags := 0, nameIndex := 219, descriptorIndex := 57, attributes := #[] }, { accessFlags := 8, nameIndex := 68, descriptorIndex := 69, attributes := #[] }, { accessFlags := 8, nameIndex := 221, descriptorIndex := 69, attributes := #[] }, { accessFlags := 8, nameIndex := 76, descriptorIndex := 77, attributes := #[] }, { accessFlags := 10, nameIndex := 82, descriptorIndex := 77, attributes := #[] }, { accessFlags := 1, nameIndex := 91, descriptorIndex := 127, attributes := #[] }, { accessFlags := 1, nameIndex := 91, descriptorIndex := 92, attributes := #[] }, { accessFlags := 8, nameIndex := 181, descriptorIndex := 176, attributes := #[] }, { accessFlags := 10, nameIndex := 175, descriptorIndex := 176, attributes := #[] }, { accessFlags := 8, nameIndex := 233, descriptorIndex := 176, attributes := #[] }, { accessFlags := 8, nameIndex := 234, descriptorIndex := 235, attributes := #[] }, { accessFlags := 2, nameIndex := 56, descriptorIndex := 57, attributes := #[] }, { accessFlags := 2, nameIndex := 184, descriptorIndex := 57, attributes := #[] }] 49 2 #[] #[{ accessFlags := 2, nameIndex := 17, descriptorIndex := 18, attributes := #[] }, { accessFlags := 2, nameIndex := 21, descriptorIndex := 22, attributes := #[] }])
  fields := #[{ name := "bytes", type := (.array .byte), accessFlags := 2, slot := 0, constantValue := 0 }, { name := "position", type := .int, accessFlags := 2, slot := 1, constantValue := 0 }]
  methods := #[k3m0, k3m1, k3m2, k3m3, k3m4, k3m5, k3m6, k3m7, k3m8, k3m9, k3m10, k3m11, k3m12, k3m13, k3m14, k3m15]
  instanceTypes := #[(.array .byte), .int]
  staticTypes := #[]
  resolved := Array.replicate 253 none
  statics := none }

def pool4 : Array CpInfo := pool [(1, .class_ 2), (0, u "java/lang/Math"), (1, .class_ 6), (1, u "java/lang/Object"), (0, u "<init>"), (0, u "()V"), (89, .class_ 100), (1, u "java/lang/Math$RandomNumberGeneratorHolder"), (20, u "(JJ)J"), (50, u "negativeZeroFloatBits"), (0, u "J"), (2, u "negativeZeroDoubleBits"), (21, u "max"), (2, u "min"), (43, u "$assertionsDisabled"), (0, u "Z"), (88, u "(II)I"), (2, u "twoToTheDoubleScaleDown"), (0, u "D"), (4, u "twoToTheDoubleScaleUp"), (9, u "E"), (3, u "PI"), (2, u "TAU"), (2, u "DEGREES_TO_RADIANS"), (0, u "RADIANS_TO_DEGREES")] 94

def k4m0 : Method := { name := "<init>", desc := "()V", sig := { parameters := [], returnType := none }, accessFlags := 2, code := none }
def k4c1 : Code := { maxStack := 2, maxLocals := 2, code := jdk_29_method_65_code, exceptionTable := #[], attributes := #[] }
def k4m1 : Method := { name := "max", desc := "(II)I", sig := { parameters := [.int, .int], returnType := some .int }, accessFlags := 9, code := some k4c1 }
def k4c2 : Code := { maxStack := 4, maxLocals := 4, code := jdk_29_method_66_code, exceptionTable := #[], attributes := #[] }
def k4m2 : Method := { name := "max", desc := "(JJ)J", sig := { parameters := [.long, .long], returnType := some .long }, accessFlags := 9, code := some k4c2 }
def k4c3 : Code := { maxStack := 2, maxLocals := 2, code := jdk_29_method_69_code, exceptionTable := #[], attributes := #[] }
def k4m3 : Method := { name := "min", desc := "(II)I", sig := { parameters := [.int, .int], returnType := some .int }, accessFlags := 9, code := some k4c3 }
def k4c4 : Code := { maxStack := 4, maxLocals := 4, code := jdk_29_method_70_code, exceptionTable := #[], attributes := #[] }
def k4m4 : Method := { name := "min", desc := "(JJ)J", sig := { parameters := [.long, .long], returnType := some .long }, accessFlags := 9, code := some k4c4 }
/-- java/lang/Math -/
def k4 : Class := { plain "java/lang/Math" (some 0) with
  accessFlags := 49
  interfaces := #[]
  cf := some (fileOf pool4 1 #[.nestMembers #[98]] #[{ accessFlags := 2, nameIndex := 7, descriptorIndex := 8, attributes := #[] }, { accessFlags := 9, nameIndex := 198, descriptorIndex := 335, attributes := #[] }, { accessFlags := 9, nameIndex := 198, descriptorIndex := 121, attributes := #[] }, { accessFlags := 9, nameIndex := 201, descriptorIndex := 335, attributes := #[] }, { accessFlags := 9, nameIndex := 201, descriptorIndex := 121, attributes := #[] }] 49 4 #[] #[{ accessFlags := 25, nameIndex := 354, descriptorIndex := 339, attributes := #[] }, { accessFlags := 25, nameIndex := 358, descriptorIndex := 339, attributes := #[] }, { accessFlags := 25, nameIndex := 361, descriptorIndex := 339, attributes := #[] }, { accessFlags := 26, nameIndex := 364, descriptorIndex := 339, attributes := #[] }, { accessFlags := 26, nameIndex := 365, descriptorIndex := 339, attributes := #[] }, { accessFlags := 26, nameIndex := 172, descriptorIndex := 173, attributes := #[] }, { accessFlags := 26, nameIndex := 176, descriptorIndex := 173, attributes := #[] }, { accessFlags := 8, nameIndex := 344, descriptorIndex := 339, attributes := #[] }, { accessFlags := 8, nameIndex := 338, descriptorIndex := 339, attributes := #[] }, { accessFlags := 4120, nameIndex := 245, descriptorIndex := 246, attributes := #[] }])
  fields := #[{ name := "E", type := .double, accessFlags := 25, slot := 0, constantValue := 0 }, { name := "PI", type := .double, accessFlags := 25, slot := 1, constantValue := 0 }, { name := "TAU", type := .double, accessFlags := 25, slot := 2, constantValue := 0 }, { name := "DEGREES_TO_RADIANS", type := .double, accessFlags := 26, slot := 3, constantValue := 0 }, { name := "RADIANS_TO_DEGREES", type := .double, accessFlags := 26, slot := 4, constantValue := 0 }, { name := "negativeZeroFloatBits", type := .long, accessFlags := 26, slot := 5, constantValue := 0 }, { name := "negativeZeroDoubleBits", type := .long, accessFlags := 26, slot := 6, constantValue := 0 }, { name := "twoToTheDoubleScaleUp", type := .double, accessFlags := 8, slot := 7, constantValue := 0 }, { name := "twoToTheDoubleScaleDown", type := .double, accessFlags := 8, slot := 8, constantValue := 0 }, { name := "$assertionsDisabled", type := .boolean, accessFlags := 4120, slot := 9, constantValue := 0 }]
  methods := #[k4m0, k4m1, k4m2, k4m3, k4m4]
  instanceTypes := #[]
  staticTypes := #[.double, .double, .double, .double, .double, .long, .long, .double, .double, .boolean]
  resolved := Array.replicate 460 none
  statics := none }

def pool5 : Array CpInfo := pool [(2, .class_ 4), (1, u "java/lang/Object"), (0, u "<init>"), (0, u "()V"), (1, .class_ 10), (1, u "java/lang/System"), (0, u "allowSecurityManager"), (0, u "I"), (16, u "cons"), (0, u "Ljava/io/Console;"), (77, .class_ 110), (1, u "java/lang/System$CallersHolder"), (43, u "initialErrStream"), (0, u "Ljava/io/PrintStream;"), (19, u "security"), (0, u "Ljava/lang/SecurityManager;"), (31, .class_ 209), (0, u "java/lang/System$1"), (7, u "props"), (0, u "Ljava/util/Properties;"), (2, u "lineSeparator"), (0, u "Ljava/lang/String;"), (96, .class_ 321), (1, u "java/lang/System$LoggerFinder"), (5, .class_ 328), (0, u "java/lang/System$Logger"), (67, u "err"), (2, u "out"), (91, u "notSupportedJnuEncoding"), (15, u "in"), (17, u "initialIn"), (0, u "Ljava/io/InputStream;"), (35, u "bootLayer"), (0, u "Ljava/lang/ModuleLayer;"), (99, .class_ 664), (0, u "java/lang/System$2"), (9, u "NEVER"), (2, u "MAYBE"), (49, u "arraycopy"), (0, u "(Ljava/lang/Object;ILjava/lang/Object;II)V"), (72, .class_ 802), (0, u "java/lang/System$Logger$Level")] 31

def k5m0 : Method := { name := "<init>", desc := "()V", sig := { parameters := [], returnType := none }, accessFlags := 2, code := none }
def k5m1 : Method := { name := "arraycopy", desc := "(Ljava/lang/Object;ILjava/lang/Object;II)V", sig := { parameters := [(.object "java/lang/Object"), .int, (.object "java/lang/Object"), .int, .int], returnType := none }, accessFlags := 265, code := none }
/-- java/lang/System -/
def k5 : Class := { plain "java/lang/System" (some 0) with
  accessFlags := 49
  interfaces := #[]
  cf := some (fileOf pool5 8 #[.nestMembers #[319, 327, 801, 108, 663, 208]] #[{ accessFlags := 2, nameIndex := 5, descriptorIndex := 6, attributes := #[] }, { accessFlags := 265, nameIndex := 727, descriptorIndex := 728, attributes := #[] }] 49 2 #[] #[{ accessFlags := 25, nameIndex := 507, descriptorIndex := 526, attributes := #[] }, { accessFlags := 25, nameIndex := 399, descriptorIndex := 155, attributes := #[] }, { accessFlags := 25, nameIndex := 396, descriptorIndex := 155, attributes := #[] }, { accessFlags := 10, nameIndex := 525, descriptorIndex := 526, attributes := #[] }, { accessFlags := 26, nameIndex := 674, descriptorIndex := 12, attributes := #[] }, { accessFlags := 26, nameIndex := 677, descriptorIndex := 12, attributes := #[] }, { accessFlags := 10, nameIndex := 11, descriptorIndex := 12, attributes := #[] }, { accessFlags := 74, nameIndex := 175, descriptorIndex := 176, attributes := #[] }, { accessFlags := 10, nameIndex := 491, descriptorIndex := 222, attributes := #[] }, { accessFlags := 74, nameIndex := 29, descriptorIndex := 30, attributes := #[] }, { accessFlags := 74, nameIndex := 154, descriptorIndex := 155, attributes := #[] }, { accessFlags := 10, nameIndex := 217, descriptorIndex := 218, attributes := #[] }, { accessFlags := 10, nameIndex := 221, descriptorIndex := 222, attributes := #[] }, { accessFlags := 8, nameIndex := 562, descriptorIndex := 563, attributes := #[] }])
  fields := #[{ name := "in", type := (.object "java/io/InputStream"), accessFlags := 25, slot := 0, constantValue := 0 }, { name := "out", type := (.object "java/io/PrintStream"), accessFlags := 25, slot := 1, constantValue := 0 }, { name := "err", type := (.object "java/io/PrintStream"), accessFlags := 25, slot := 2, constantValue := 0 }, { name := "initialIn", type := (.object "java/io/InputStream"), accessFlags := 10, slot := 3, constantValue := 0 }, { name := "NEVER", type := .int, accessFlags := 26, slot := 4, constantValue := 0 }, { name := "MAYBE", type := .int, accessFlags := 26, slot := 5, constantValue := 0 }, { name := "allowSecurityManager", type := .int, accessFlags := 10, slot := 6, constantValue := 0 }, { name := "security", type := (.object "java/lang/SecurityManager"), accessFlags := 74, slot := 7, constantValue := 0 }, { name := "notSupportedJnuEncoding", type := (.object "java/lang/String"), accessFlags := 10, slot := 8, constantValue := 0 }, { name := "cons", type := (.object "java/io/Console"), accessFlags := 74, slot := 9, constantValue := 0 }, { name := "initialErrStream", type := (.object "java/io/PrintStream"), accessFlags := 74, slot := 10, constantValue := 0 }, { name := "props", type := (.object "java/util/Properties"), accessFlags := 10, slot := 11, constantValue := 0 }, { name := "lineSeparator", type := (.object "java/lang/String"), accessFlags := 10, slot := 12, constantValue := 0 }, { name := "bootLayer", type := (.object "java/lang/ModuleLayer"), accessFlags := 8, slot := 13, constantValue := 0 }]
  methods := #[k5m0, k5m1]
  instanceTypes := #[]
  staticTypes := #[(.object "java/io/InputStream"), (.object "java/io/PrintStream"), (.object "java/io/PrintStream"), (.object "java/io/InputStream"), .int, .int, .int, (.object "java/lang/SecurityManager"), (.object "java/lang/String"), (.object "java/io/Console"), (.object "java/io/PrintStream"), (.object "java/util/Properties"), (.object "java/lang/String"), (.object "java/lang/ModuleLayer")]
  resolved := Array.replicate 834 none
  statics := none }

def pool6 : Array CpInfo := pool [(2, .class_ 4), (1, u "java/lang/Object"), (0, u "<init>"), (0, u "()V"), (7, .class_ 16), (1, u "java/util/Arrays"), (57, .class_ 76), (1, u "java/util/Arrays$NaturalOrder"), (36, .class_ 115), (1, u "java/util/Arrays$LegacyMergeSort"), (1, u "Z"), (32, .methodref 151 152), (0, .class_ 153), (0, .nameAndType 154 155), (0, u "java/lang/System"), (0, u "arraycopy"), (0, u "(Ljava/lang/Object;ILjava/lang/Object;II)V"), (146, u "copyOf"), (1, .methodref 305 306), (0, .class_ 307), (0, .nameAndType 308 309), (0, u "java/lang/Math"), (0, u "min"), (0, u "(II)I"), (65, .class_ 376), (0, u "java/util/Arrays$ArrayList"), (68, u "$assertionsDisabled"), (269, u "MIN_ARRAY_SORT_GRAN"), (0, u "I"), (2, u "INSERTIONSORT_THRESHOLD"), (149, u "([BI)[B"), (105, .class_ 976), (0, u "java/util/Arrays$ArrayItr")] 52

def k6m0 : Method := { name := "<init>", desc := "()V", sig := { parameters := [], returnType := none }, accessFlags := 2, code := none }
def k6c1 : Code := { maxStack := 6, maxLocals := 3, code := jdk_65_method_121_code, exceptionTable := #[], attributes := #[] }
def k6m1 : Method := { name := "copyOf", desc := "([BI)[B", sig := { parameters := [(.array .byte), .int], returnType := some (.array .byte) }, accessFlags := 9, code := some k6c1 }
/-- java/util/Arrays -/
def k6 : Class := { plain "java/util/Arrays" (some 0) with
  accessFlags := 49
  interfaces := #[]
  cf := some (fileOf pool6 14 #[.nestMembers #[975, 375, 113, 74]] #[{ accessFlags := 2, nameIndex := 5, descriptorIndex := 6, attributes := #[] }, { accessFlags := 9, nameIndex := 302, descriptorIndex := 869, attributes := #[] }] 49 2 #[] #[{ accessFlags := 26, nameIndex := 715, descriptorIndex := 716, attributes := #[] }, { accessFlags := 26, nameIndex := 719, descriptorIndex := 716, attributes := #[] }, { accessFlags := 4120, nameIndex := 445, descriptorIndex := 117, attributes := #[] }])
  fields := #[{ name := "MIN_ARRAY_SORT_GRAN", type := .int, accessFlags := 26, slot := 0, constantValue := 0 }, { name := "INSERTIONSORT_THRESHOLD", type := .int, accessFlags := 26, slot := 1, constantValue := 0 }, { name := "$assertionsDisabled", type := .boolean, accessFlags := 4120, slot := 2, constantValue := 0 }]
  methods := #[k6m0, k6m1]
  instanceTypes := #[]
  staticTypes := #[.int, .int, .boolean]
  resolved := Array.replicate 1029 none
  statics := none }

def pool7 : Array CpInfo := pool [(1, u "java/lang/Cloneable"), (0, .class_ 1), (0, u "java/lang/Object"), (0, .class_ 3)] 3

/-- java/lang/Cloneable -/
def k7 : Class := { plain "java/lang/Cloneable" (some 0) with
  accessFlags := 1537
  interfaces := #[]
  cf := some (fileOf pool7 2 #[] #[] 1537 4 #[] #[])
  fields := #[]
  methods := #[]
  instanceTypes := #[]
  staticTypes := #[]
  resolved := Array.replicate 8 none
  statics := none }

def pool8 : Array CpInfo := pool [(1, u "java/io/Serializable"), (0, .class_ 1), (0, u "java/lang/Object"), (0, .class_ 3)] 3

/-- java/io/Serializable -/
def k8 : Class := { plain "java/io/Serializable" (some 0) with
  accessFlags := 1537
  interfaces := #[]
  cf := some (fileOf pool8 2 #[] #[] 1537 4 #[] #[])
  fields := #[]
  methods := #[]
  instanceTypes := #[]
  staticTypes := #[]
  resolved := Array.replicate 8 none
  statics := none }

/-- the primitive byte -/
def k9 : Class := { plain "byte" none with kind := .primitive 'B', accessFlags := 0x411 }
/-- [B -/
def k10 : Class := { plain "[B" (some 0) with kind := .array 9 .byte, interfaces := #[7, 8], accessFlags := 1041 }

/-- the primitive int -/
def k11 : Class := { plain "int" none with kind := .primitive 'I', accessFlags := 0x411 }
/-- [I -/
def k12 : Class := { plain "[I" (some 0) with kind := .array 11 .int, interfaces := #[7, 8], accessFlags := 1041 }

def heap : Heap := #[{ cls := 2, slots := #[.int 0, .int 0, .int 0, .int 0, .int 0, .int 0, .int 0, .int 0, .int 0, .int 0, .int 0, .ref 1], vm := .statics 2 },
  { cls := 10, slots := #[.int 0, .int 0, .int 0, .int 0, .int 0, .int 0, .int 0, .int 0, .int 0, .int 0, .int 0, .int 0, .int (-1), .int (-1), .int (-1), .int (-1), .int 2, .int 0, .int 0, .int 0, .int 0, .int 0, .int 0, .int 0, .int 0, .int 0, .int 0, .int 0, .int 0, .int 0, .int 0, .int 0, .int 0, .int 0, .int 0, .int 0, .int 0, .int 0, .int 0, .int 0, .int 0, .int 0, .int 0, .int (-1), .int (-1), .int (-1), .int (-1), .int (-1), .int (-1), .int (-1), .int (-1), .int (-1), .int (-1), .int (-1), .int (-1), .int (-1), .int (-1), .int 0, .int 0, .int 0, .int 0], vm := .none }]
def classes : Array Class := #[k0, k1, k2, k3, k4, k5, k6, k7, k8, k9, k10, k11, k12]
def interned : List (Array UInt16 × Addr) := []
def slotsUsed : Nat := 73
def theMethod : MethodId := ⟨1, 1⟩
def args0 : Array Value := #[.long 5, .long 7, .int 3, .int 4, .int 0]
def aboutOver (below : List Frame) : State where
  vm := { classes := classes, interned := interned.toArray }
  heap := heap
  slotsUsed := slotsUsed
  threads := #[{ frames := .invoking theMethod args0 :: below }]
def below0 : List Frame := [.native { method := ⟨0, 0⟩, args := #[] }]
def about1 : State := aboutOver below0
def p0 : Program := .bare "" "" ""
def e0 : Env := launch0.env 0 0 0
theorem w_frames : about1.frames = Frame.invoking theMethod args0 :: below0 := rfl
set_option maxRecDepth 65536 in
theorem w_args : argsFit about1.vm theMethod args0 = true := by decide +kernel
set_option maxRecDepth 65536 in
theorem w_heap : heapFits about1 = true := by decide +kernel
set_option maxRecDepth 65536 in
theorem w_runnable : about1.curStatus? = some .runnable := by decide +kernel
set_option maxRecDepth 65536 in
theorem w_alone : about1.alone = true := by decide +kernel
set_option maxRecDepth 65536 in
theorem w_named : about1.methodNamed? x = some theMethod := by decide +kernel
set_option maxRecDepth 65536 in
theorem w_hears : about1.hears theMethod below0 = true := by decide +kernel
set_option maxRecDepth 65536 in
theorem w_ripe : about1.ripe theMethod args0 below0 = true := by decide +kernel
theorem w_running : about1.status = .running := rfl
set_option maxRecDepth 65536 in
theorem w_room : about1.hasRoom e0.platform room_1 = true :=
  launch0.hasRoom_least _ room_1 (by decide +kernel) (by decide +kernel) (by decide +kernel) (by decide +kernel) (by decide +kernel) (by decide +kernel)
theorem allAtoms_all (ts : List Jvm.Cond) (a : Array Jvm.Value) (st : Jvm.State) : (allAtoms ts).before a st = ts.all (fun c => c.before a st) := by
  induction ts with
  | nil => rfl
  | cons c t ih =>
    show (Jvm.Cond.and c (allAtoms t)).before a st = _
    rw [Jvm.Cond.before_and, ih, List.all_cons]
def words1 : List Jvm.Cond := Jvm.Cond.code x code maxLocals ret :: tables_1
/-- a 'code' word, met by the world's own term for the bytes: nothing is compared byte by byte -/
theorem code_word {y : MethodName} {bytes : ByteArray} {mx : Nat} {rt : Option FieldType} {a : Array Value} {s : State} {m : MethodId} {meth : Method} {c : Code} (h1 : s.methodNamed? y = some m) (h2 : s.vm.method? m = some meth) (h3 : meth.code = some c) (h4 : c.code = bytes)
    (h5 : (c.maxLocals == mx && c.exceptionTable.isEmpty && decide (c.maxStack ≤ mostOperands) && decide (meth.sig.returnType = rt) && !meth.locks && decide (parseMethodDescriptor y.desc = some meth.sig)) = true) : (Jvm.Cond.code y bytes mx rt).before a s = true := by
  simp only [Bool.and_eq_true, beq_iff_eq, Bool.not_eq_true', decide_eq_true_eq] at h5
  obtain ⟨⟨⟨⟨⟨g1, g2⟩, g3⟩, g4⟩, g5⟩, g6⟩ := h5
  simp [Cond.before, Cond.holds, Cond.value, h1, h2, h3, h4, g1, g2, g3, g4, g5, g6]
def isCode : Jvm.Cond → Bool
  | .code _ _ _ _ => true
  | _ => false
theorem all_split {L : List Jvm.Cond} {P : Jvm.Cond → Bool} (h1 : L.all (fun c => isCode c || P c) = true) (h2 : ∀ c ∈ L.filter isCode, P c = true) : L.all P = true := by
  refine List.all_eq_true.mpr fun c hc => ?_
  have h := List.all_eq_true.mp h1 c hc
  rcases Bool.eq_false_or_eq_true (isCode c) with hi | hi
  · exact h2 c (List.mem_filter.mpr ⟨hc, hi⟩)
  · simpa [hi] using h
set_option maxRecDepth 65536 in
theorem w_c0 : (Jvm.Cond.code x code maxLocals ret).before args0 about1 = true := code_word (m := ⟨1, 1⟩) (meth := k1m1) (c := k1c1) (by decide +kernel) rfl rfl rfl (by decide +kernel)
set_option maxRecDepth 65536 in
theorem w_c1 : (Jvm.Cond.code ({ cls := "com/example/millrace/millrace/wire/RecordBatchBuilder", name := "<init>", desc := "(I)V" } : Jvm.MethodName) prog_130_method_1_code (2 : Nat) (Option.none : Option Jvm.ClassFile.FieldType)).before args0 about1 = true := code_word (m := ⟨2, 0⟩) (meth := k2m0) (c := k2c0) (by decide +kernel) rfl rfl rfl (by decide +kernel)
set_option maxRecDepth 65536 in
theorem w_c2 : (Jvm.Cond.code ({ cls := "java/lang/Object", name := "<init>", desc := "()V" } : Jvm.MethodName) object_method_1_code (1 : Nat) (Option.none : Option Jvm.ClassFile.FieldType)).before args0 about1 = true := code_word (m := ⟨0, 0⟩) (meth := k0m0) (c := k0c0) (by decide +kernel) rfl rfl rfl (by decide +kernel)
set_option maxRecDepth 65536 in
theorem w_c3 : (Jvm.Cond.code ({ cls := "java/lang/Math", name := "max", desc := "(II)I" } : Jvm.MethodName) jdk_29_method_65_code (2 : Nat) (Option.some Jvm.ClassFile.FieldType.int)).before args0 about1 = true := code_word (m := ⟨4, 1⟩) (meth := k4m1) (c := k4c1) (by decide +kernel) rfl rfl rfl (by decide +kernel)
set_option maxRecDepth 65536 in
theorem w_c4 : (Jvm.Cond.code ({ cls := "com/example/millrace/millrace/wire/ProtocolWriter", name := "<init>", desc := "(I)V" } : Jvm.MethodName) prog_128_method_1_code (2 : Nat) (Option.none : Option Jvm.ClassFile.FieldType)).before args0 about1 = true := code_word (m := ⟨3, 0⟩) (meth := k3m0) (c := k3c0) (by decide +kernel) rfl rfl rfl (by decide +kernel)
set_option maxRecDepth 65536 in
theorem w_c5 : (Jvm.Cond.code ({ cls := "com/example/millrace/millrace/wire/ProtocolWriter", name := "writeBytes", desc := "([B)Lcom/example/millrace/millrace/wire/ProtocolWriter;" } : Jvm.MethodName) prog_128_method_22_code (2 : Nat) (Option.some (Jvm.ClassFile.FieldType.object "com/example/millrace/millrace/wire/ProtocolWriter"))).before args0 about1 = true := code_word (m := ⟨3, 8⟩) (meth := k3m8) (c := k3c8) (by decide +kernel) rfl rfl rfl (by decide +kernel)
set_option maxRecDepth 65536 in
theorem w_c6 : (Jvm.Cond.code ({ cls := "com/example/millrace/millrace/wire/ProtocolWriter", name := "writeBytes", desc := "([BII)Lcom/example/millrace/millrace/wire/ProtocolWriter;" } : Jvm.MethodName) prog_128_method_23_code (4 : Nat) (Option.some (Jvm.ClassFile.FieldType.object "com/example/millrace/millrace/wire/ProtocolWriter"))).before args0 about1 = true := code_word (m := ⟨3, 9⟩) (meth := k3m9) (c := k3c9) (by decide +kernel) rfl rfl rfl (by decide +kernel)
set_option maxRecDepth 65536 in
theorem w_c7 : (Jvm.Cond.code ({ cls := "com/example/millrace/millrace/wire/ProtocolWriter", name := "ensure", desc := "(I)V" } : Jvm.MethodName) prog_128_method_34_code (2 : Nat) (Option.none : Option Jvm.ClassFile.FieldType)).before args0 about1 = true := code_word (m := ⟨3, 14⟩) (meth := k3m14) (c := k3c14) (by decide +kernel) rfl rfl rfl (by decide +kernel)
set_option maxRecDepth 65536 in
theorem w_c8 : (Jvm.Cond.code ({ cls := "com/example/millrace/millrace/wire/RecordBatchBuilder", name := "sizeInBytes", desc := "()I" } : Jvm.MethodName) prog_130_method_3_code (1 : Nat) (Option.some Jvm.ClassFile.FieldType.int)).before args0 about1 = true := code_word (m := ⟨2, 1⟩) (meth := k2m1) (c := k2c1) (by decide +kernel) rfl rfl rfl (by decide +kernel)
set_option maxRecDepth 65536 in
theorem w_c9 : (Jvm.Cond.code ({ cls := "com/example/millrace/millrace/wire/ProtocolWriter", name := "position", desc := "()I" } : Jvm.MethodName) prog_128_method_2_code (1 : Nat) (Option.some Jvm.ClassFile.FieldType.int)).before args0 about1 = true := code_word (m := ⟨3, 1⟩) (meth := k3m1) (c := k3c1) (by decide +kernel) rfl rfl rfl (by decide +kernel)
set_option maxRecDepth 65536 in
theorem w_c10 : (Jvm.Cond.code ({ cls := "com/example/millrace/millrace/wire/RecordBatchBuilder", name := "append", desc := "(J[B[B)V" } : Jvm.MethodName) prog_130_method_6_code (13 : Nat) (Option.none : Option Jvm.ClassFile.FieldType)).before args0 about1 = true := code_word (m := ⟨2, 3⟩) (meth := k2m3) (c := k2c3) (by decide +kernel) rfl rfl rfl (by decide +kernel)
set_option maxRecDepth 65536 in
theorem w_c11 : (Jvm.Cond.code ({ cls := "com/example/millrace/millrace/wire/ProtocolWriter", name := "sizeOfVarlong", desc := "(J)I" } : Jvm.MethodName) prog_128_method_33_code (5 : Nat) (Option.some Jvm.ClassFile.FieldType.int)).before args0 about1 = true := code_word (m := ⟨3, 13⟩) (meth := k3m13) (c := k3c13) (by decide +kernel) rfl rfl rfl (by decide +kernel)
set_option maxRecDepth 65536 in
theorem w_c12 : (Jvm.Cond.code ({ cls := "com/example/millrace/millrace/wire/ProtocolWriter", name := "sizeOfVarint", desc := "(I)I" } : Jvm.MethodName) prog_128_method_32_code (1 : Nat) (Option.some Jvm.ClassFile.FieldType.int)).before args0 about1 = true := code_word (m := ⟨3, 12⟩) (meth := k3m12) (c := k3c12) (by decide +kernel) rfl rfl rfl (by decide +kernel)
set_option maxRecDepth 65536 in
theorem w_c13 : (Jvm.Cond.code ({ cls := "com/example/millrace/millrace/wire/ProtocolWriter", name := "sizeOfUnsignedVarint", desc := "(I)I" } : Jvm.MethodName) prog_128_method_30_code (1 : Nat) (Option.some Jvm.ClassFile.FieldType.int)).before args0 about1 = true := code_word (m := ⟨3, 10⟩) (meth := k3m10) (c := k3c10) (by decide +kernel) rfl rfl rfl (by decide +kernel)
set_option maxRecDepth 65536 in
theorem w_c14 : (Jvm.Cond.code ({ cls := "com/example/millrace/millrace/wire/ProtocolWriter", name := "reserve", desc := "(I)[B" } : Jvm.MethodName) prog_128_method_16_code (2 : Nat) (Option.some (Jvm.ClassFile.FieldType.array Jvm.ClassFile.FieldType.byte))).before args0 about1 = true := code_word (m := ⟨3, 2⟩) (meth := k3m2) (c := k3c2) (by decide +kernel) rfl rfl rfl (by decide +kernel)
set_option maxRecDepth 65536 in
theorem w_c15 : (Jvm.Cond.code ({ cls := "com/example/millrace/millrace/wire/ProtocolWriter", name := "grow", desc := "(I)V" } : Jvm.MethodName) prog_128_method_35_code (6 : Nat) (Option.none : Option Jvm.ClassFile.FieldType)).before args0 about1 = true := code_word (m := ⟨3, 15⟩) (meth := k3m15) (c := k3c15) (by decide +kernel) rfl rfl rfl (by decide +kernel)
set_option maxRecDepth 65536 in
theorem w_c16 : (Jvm.Cond.code ({ cls := "java/lang/Math", name := "min", desc := "(JJ)J" } : Jvm.MethodName) jdk_29_method_70_code (4 : Nat) (Option.some Jvm.ClassFile.FieldType.long)).before args0 about1 = true := code_word (m := ⟨4, 4⟩) (meth := k4m4) (c := k4c4) (by decide +kernel) rfl rfl rfl (by decide +kernel)
set_option maxRecDepth 65536 in
theorem w_c17 : (Jvm.Cond.code ({ cls := "java/lang/Math", name := "max", desc := "(JJ)J" } : Jvm.MethodName) jdk_29_method_66_code (4 : Nat) (Option.some Jvm.ClassFile.FieldType.long)).before args0 about1 = true := code_word (m := ⟨4, 2⟩) (meth := k4m2) (c := k4c2) (by decide +kernel) rfl rfl rfl (by decide +kernel)
set_option maxRecDepth 65536 in
theorem w_c18 : (Jvm.Cond.code ({ cls := "java/util/Arrays", name := "copyOf", desc := "([BI)[B" } : Jvm.MethodName) jdk_65_method_121_code (3 : Nat) (Option.some (Jvm.ClassFile.FieldType.array Jvm.ClassFile.FieldType.byte))).before args0 about1 = true := code_word (m := ⟨6, 1⟩) (meth := k6m1) (c := k6c1) (by decide +kernel) rfl rfl rfl (by decide +kernel)
set_option maxRecDepth 65536 in
theorem w_c19 : (Jvm.Cond.code ({ cls := "java/lang/Math", name := "min", desc := "(II)I" } : Jvm.MethodName) jdk_29_method_69_code (2 : Nat) (Option.some Jvm.ClassFile.FieldType.int)).before args0 about1 = true := code_word (m := ⟨4, 3⟩) (meth := k4m3) (c := k4c3) (by decide +kernel) rfl rfl rfl (by decide +kernel)
set_option maxRecDepth 65536 in
theorem w_c20 : (Jvm.Cond.code ({ cls := "com/example/millrace/millrace/wire/ProtocolWriter", name := "putVarint", desc := "([BII)I" } : Jvm.MethodName) prog_128_method_19_code (3 : Nat) (Option.some Jvm.ClassFile.FieldType.int)).before args0 about1 = true := code_word (m := ⟨3, 5⟩) (meth := k3m5) (c := k3c5) (by decide +kernel) rfl rfl rfl (by decide +kernel)
set_option maxRecDepth 65536 in
theorem w_c21 : (Jvm.Cond.code ({ cls := "com/example/millrace/millrace/wire/ProtocolWriter", name := "putUnsignedVarint", desc := "([BII)I" } : Jvm.MethodName) prog_128_method_18_code (3 : Nat) (Option.some Jvm.ClassFile.FieldType.int)).before args0 about1 = true := code_word (m := ⟨3, 4⟩) (meth := k3m4) (c := k3c4) (by decide +kernel) rfl rfl rfl (by decide +kernel)
set_option maxRecDepth 65536 in
theorem w_c22 : (Jvm.Cond.code ({ cls := "com/example/millrace/millrace/wire/ProtocolWriter", name := "putVarlong", desc := "([BIJ)I" } : Jvm.MethodName) prog_128_method_20_code (6 : Nat) (Option.some Jvm.ClassFile.FieldType.int)).before args0 about1 = true := code_word (m := ⟨3, 6⟩) (meth := k3m6) (c := k3c6) (by decide +kernel) rfl rfl rfl (by decide +kernel)
set_option maxRecDepth 65536 in
theorem w_c23 : (Jvm.Cond.code ({ cls := "com/example/millrace/millrace/wire/ProtocolWriter", name := "advanceTo", desc := "(I)V" } : Jvm.MethodName) prog_128_method_17_code (2 : Nat) (Option.none : Option Jvm.ClassFile.FieldType)).before args0 about1 = true := code_word (m := ⟨3, 3⟩) (meth := k3m3) (c := k3c3) (by decide +kernel) rfl rfl rfl (by decide +kernel)
set_option maxRecDepth 65536 in
theorem w_c24 : (Jvm.Cond.code ({ cls := "com/example/millrace/millrace/wire/RecordBatchBuilder", name := "maxRecordSize", desc := "([B[B)I" } : Jvm.MethodName) prog_130_method_5_code (4 : Nat) (Option.some Jvm.ClassFile.FieldType.int)).before args0 about1 = true := code_word (m := ⟨2, 2⟩) (meth := k2m2) (c := k2c2) (by decide +kernel) rfl rfl rfl (by decide +kernel)
set_option maxRecDepth 65536 in
theorem w_c25 : (Jvm.Cond.code ({ cls := "com/example/millrace/millrace/wire/ProtocolWriter", name := "sizeOfLongUnsignedVarint", desc := "(I)I" } : Jvm.MethodName) prog_128_method_31_code (2 : Nat) (Option.some Jvm.ClassFile.FieldType.int)).before args0 about1 = true := code_word (m := ⟨3, 11⟩) (meth := k3m11) (c := k3c11) (by decide +kernel) rfl rfl rfl (by decide +kernel)
set_option maxRecDepth 65536 in
theorem w_c26 : (Jvm.Cond.code ({ cls := "com/example/millrace/millrace/wire/ProtocolWriter", name := "putLongUnsignedVarlong", desc := "([BIJ)I" } : Jvm.MethodName) prog_128_method_21_code (7 : Nat) (Option.some Jvm.ClassFile.FieldType.int)).before args0 about1 = true := code_word (m := ⟨3, 7⟩) (meth := k3m7) (c := k3c7) (by decide +kernel) rfl rfl rfl (by decide +kernel)
def codes1 : List Jvm.Cond := [Jvm.Cond.code x code maxLocals ret, Jvm.Cond.code ({ cls := "com/example/millrace/millrace/wire/RecordBatchBuilder", name := "<init>", desc := "(I)V" } : Jvm.MethodName) prog_130_method_1_code (2 : Nat) (Option.none : Option Jvm.ClassFile.FieldType), Jvm.Cond.code ({ cls := "java/lang/Object", name := "<init>", desc := "()V" } : Jvm.MethodName) object_method_1_code (1 : Nat) (Option.none : Option Jvm.ClassFile.FieldType), Jvm.Cond.code ({ cls := "java/lang/Math", name := "max", desc := "(II)I" } : Jvm.MethodName) jdk_29_method_65_code (2 : Nat) (Option.some Jvm.ClassFile.FieldType.int), Jvm.Cond.code ({ cls := "com/example/millrace/millrace/wire/ProtocolWriter", name := "<init>", desc := "(I)V" } : Jvm.MethodName) prog_128_method_1_code (2 : Nat) (Option.none : Option Jvm.ClassFile.FieldType), Jvm.Cond.code ({ cls := "com/example/millrace/millrace/wire/ProtocolWriter", name := "writeBytes", desc := "([B)Lcom/example/millrace/millrace/wire/ProtocolWriter;" } : Jvm.MethodName) prog_128_method_22_code (2 : Nat) (Option.some (Jvm.ClassFile.FieldType.object "com/example/millrace/millrace/wire/ProtocolWriter")), Jvm.Cond.code ({ cls := "com/example/millrace/millrace/wire/ProtocolWriter", name := "writeBytes", desc := "([BII)Lcom/example/millrace/millrace/wire/ProtocolWriter;" } : Jvm.MethodName) prog_128_method_23_code (4 : Nat) (Option.some (Jvm.ClassFile.FieldType.object "com/example/millrace/millrace/wire/ProtocolWriter")), Jvm.Cond.code ({ cls := "com/example/millrace/millrace/wire/ProtocolWriter", name := "ensure", desc := "(I)V" } : Jvm.MethodName) prog_128_method_34_code (2 : Nat) (Option.none : Option Jvm.ClassFile.FieldType), Jvm.Cond.code ({ cls := "com/example/millrace/millrace/wire/RecordBatchBuilder", name := "sizeInBytes", desc := "()I" } : Jvm.MethodName) prog_130_method_3_code (1 : Nat) (Option.some Jvm.ClassFile.FieldType.int), Jvm.Cond.code ({ cls := "com/example/millrace/millrace/wire/ProtocolWriter", name := "position", desc := "()I" } : Jvm.MethodName) prog_128_method_2_code (1 : Nat) (Option.some Jvm.ClassFile.FieldType.int), Jvm.Cond.code ({ cls := "com/example/millrace/millrace/wire/RecordBatchBuilder", name := "append", desc := "(J[B[B)V" } : Jvm.MethodName) prog_130_method_6_code (13 : Nat) (Option.none : Option Jvm.ClassFile.FieldType), Jvm.Cond.code ({ cls := "com/example/millrace/millrace/wire/ProtocolWriter", name := "sizeOfVarlong", desc := "(J)I" } : Jvm.MethodName) prog_128_method_33_code (5 : Nat) (Option.some Jvm.ClassFile.FieldType.int), Jvm.Cond.code ({ cls := "com/example/millrace/millrace/wire/ProtocolWriter", name := "sizeOfVarint", desc := "(I)I" } : Jvm.MethodName) prog_128_method_32_code (1 : Nat) (Option.some Jvm.ClassFile.FieldType.int), Jvm.Cond.code ({ cls := "com/example/millrace/millrace/wire/ProtocolWriter", name := "sizeOfUnsignedVarint", desc := "(I)I" } : Jvm.MethodName) prog_128_method_30_code (1 : Nat) (Option.some Jvm.ClassFile.FieldType.int), Jvm.Cond.code ({ cls := "com/example/millrace/millrace/wire/ProtocolWriter", name := "reserve", desc := "(I)[B" } : Jvm.MethodName) prog_128_method_16_code (2 : Nat) (Option.some (Jvm.ClassFile.FieldType.array Jvm.ClassFile.FieldType.byte)), Jvm.Cond.code ({ cls := "com/example/millrace/millrace/wire/ProtocolWriter", name := "grow", desc := "(I)V" } : Jvm.MethodName) prog_128_method_35_code (6 : Nat) (Option.none : Option Jvm.ClassFile.FieldType), Jvm.Cond.code ({ cls := "java/lang/Math", name := "min", desc := "(JJ)J" } : Jvm.MethodName) jdk_29_method_70_code (4 : Nat) (Option.some Jvm.ClassFile.FieldType.long), Jvm.Cond.code ({ cls := "java/lang/Math", name := "max", desc := "(JJ)J" } : Jvm.MethodName) jdk_29_method_66_code (4 : Nat) (Option.some Jvm.ClassFile.FieldType.long), Jvm.Cond.code ({ cls := "java/util/Arrays", name := "copyOf", desc := "([BI)[B" } : Jvm.MethodName) jdk_65_method_121_code (3 : Nat) (Option.some (Jvm.ClassFile.FieldType.array Jvm.ClassFile.FieldType.byte)), Jvm.Cond.code ({ cls := "java/lang/Math", name := "min", desc := "(II)I" } : Jvm.MethodName) jdk_29_method_69_code (2 : Nat) (Option.some Jvm.ClassFile.FieldType.int), Jvm.Cond.code ({ cls := "com/example/millrace/millrace/wire/ProtocolWriter", name := "putVarint", desc := "([BII)I" } : Jvm.MethodName) prog_128_method_19_code (3 : Nat) (Option.some Jvm.ClassFile.FieldType.int), Jvm.Cond.code ({ cls := "com/example/millrace/millrace/wire/ProtocolWriter", name := "putUnsignedVarint", desc := "([BII)I" } : Jvm.MethodName) prog_128_method_18_code (3 : Nat) (Option.some Jvm.ClassFile.FieldType.int), Jvm.Cond.code ({ cls := "com/example/millrace/millrace/wire/ProtocolWriter", name := "putVarlong", desc := "([BIJ)I" } : Jvm.MethodName) prog_128_method_20_code (6 : Nat) (Option.some Jvm.ClassFile.FieldType.int), Jvm.Cond.code ({ cls := "com/example/millrace/millrace/wire/ProtocolWriter", name := "advanceTo", desc := "(I)V" } : Jvm.MethodName) prog_128_method_17_code (2 : Nat) (Option.none : Option Jvm.ClassFile.FieldType), Jvm.Cond.code ({ cls := "com/example/millrace/millrace/wire/RecordBatchBuilder", name := "maxRecordSize", desc := "([B[B)I" } : Jvm.MethodName) prog_130_method_5_code (4 : Nat) (Option.some Jvm.ClassFile.FieldType.int), Jvm.Cond.code ({ cls := "com/example/millrace/millrace/wire/ProtocolWriter", name := "sizeOfLongUnsignedVarint", desc := "(I)I" } : Jvm.MethodName) prog_128_method_31_code (2 : Nat) (Option.some Jvm.ClassFile.FieldType.int), Jvm.Cond.code ({ cls := "com/example/millrace/millrace/wire/ProtocolWriter", name := "putLongUnsignedVarlong", desc := "([BIJ)I" } : Jvm.MethodName) prog_128_method_21_code (7 : Nat) (Option.some Jvm.ClassFile.FieldType.int)]
set_option maxRecDepth 65536 in
theorem codes_eq : words1.filter isCode = codes1 := rfl
theorem w_codes : ∀ c ∈ words1.filter isCode, c.before args0 about1 = true := by
  rw [codes_eq]
  intro c hc
  simp only [codes1, List.mem_cons, List.not_mem_nil, or_false] at hc
  rcases hc with rfl | rfl | rfl | rfl | rfl | rfl | rfl | rfl | rfl | rfl | rfl | rfl | rfl | rfl | rfl | rfl | rfl | rfl | rfl | rfl | rfl | rfl | rfl | rfl | rfl | rfl | rfl
  · exact w_c0
  · exact w_c1
  · exact w_c2
  · exact w_c3
  · exact w_c4
  · exact w_c5
  · exact w_c6
  · exact w_c7
  · exact w_c8
  · exact w_c9
  · exact w_c10
  · exact w_c11
  · exact w_c12
  · exact w_c13
  · exact w_c14
  · exact w_c15
  · exact w_c16
  · exact w_c17
  · exact w_c18
  · exact w_c19
  · exact w_c20
  · exact w_c21
  · exact w_c22
  · exact w_c23
  · exact w_c24
  · exact w_c25
  · exact w_c26
set_option maxRecDepth 65536 in
theorem w_t1 : (words1.take 24).all (fun c => isCode c || c.before args0 about1) = true := by decide +kernel
set_option maxRecDepth 65536 in
theorem w_t2 : ((words1.drop 24).take 24).all (fun c => isCode c || c.before args0 about1) = true := by decide +kernel
set_option maxRecDepth 65536 in
theorem w_t3 : (((words1.drop 24).drop 24).take 24).all (fun c => isCode c || c.before args0 about1) = true := by decide +kernel
set_option maxRecDepth 65536 in
theorem w_t4 : ((((words1.drop 24).drop 24).drop 24).take 24).all (fun c => isCode c || c.before args0 about1) = true := by decide +kernel
set_option maxRecDepth 65536 in
theorem w_t5 : (((((words1.drop 24).drop 24).drop 24).drop 24).take 24).all (fun c => isCode c || c.before args0 about1) = true := by decide +kernel
set_option maxRecDepth 65536 in
theorem w_t6 : (((((words1.drop 24).drop 24).drop 24).drop 24).drop 24).all (fun c => isCode c || c.before args0 about1) = true := by decide +kernel
theorem w_tables : (allAtoms (Jvm.Cond.code x code maxLocals ret :: tables_1)).before args0 about1 = true := by
  rw [allAtoms_all]
  show words1.all (fun c => c.before args0 about1) = true
  refine all_split ?_ w_codes
  rw [← List.take_append_drop 24 words1, List.all_append, w_t1, ← List.take_append_drop 24 (words1.drop 24), List.all_append, w_t2, ← List.take_append_drop 24 ((words1.drop 24).drop 24), List.all_append, w_t3, ← List.take_append_drop 24 (((words1.drop 24).drop 24).drop 24), List.all_append, w_t4, ← List.take_append_drop 24 ((((words1.drop 24).drop 24).drop 24).drop 24), List.all_append, w_t5, w_t6]
  rfl
set_option maxRecDepth 65536 in
theorem w_case : (Jvm.Cond.and given_1 narrow_1).before args0 about1 = true := by decide +kernel
theorem w_applies : (headSpec (Jvm.Cond.code x code maxLocals ret :: tables_1) room_1).applies x e0.platform about1 = true :=
  (Spec.applies_iff w_frames).mpr ⟨w_running, w_runnable, w_alone, w_named, w_hears, w_ripe, w_room, w_tables⟩
theorem atStart : AtStart classFile x code maxLocals ret World_1 tables_1 room_1 Calls_1 rest_1 Pre_1 launch0 p0 e0 about1 theMethod args0 below0 :=
  ⟨lists_1, trivial, launch0.admits_env _ _ _, launch0.least_env, fairChoices_fair.cas, fairChoices_fair.clock, w_frames, w_args, w_heap, w_applies, trivial, trivial, w_case⟩
end start1
theorem witness_1 : WitnessClaimed_1 := ⟨start1.p0, start1.e0, start1.about1, start1.theMethod, start1.args0, start1.below0, start1.atStart⟩
end Jvm.Pilot.@@N@@
