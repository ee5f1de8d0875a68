import JvmDerived
import JvmDerived.Pilot.@@N@@Statement
import JvmDerived.Pilot.@@N@@Code
set_option linter.unusedVariables false
set_option linter.unusedSimpArgs false
namespace Jvm.RoadKit
open Sem ClassFile Op Lib Jvm.Stand Jvm.Free Jvm.LawKit
section New
variable {p : Program} {l : Launch} {e : Env} {R : Room} {s : State} {m : MethodId} {args : Array Value} {below : List Frame} {meth : Method} {c : Code} {T : State} {locs : List Loc} {cells slots : Nat}
theorem retI (X : Stand p l e R s m args below meth c T locs cells slots) (hx : p.tables.exec = Jvm.exec) {pc : Nat} {Ls : Array Slot} {z : Int32} {rest : List Value} (hret : meth.sig.returnType = some .int) (hd : decode c.code pc = .ok (.ireturn, 1)) {fs : List Frame}
    (hl : ∀ (f : JFrame) (acts : List Action), f.method = m → f.locked = none → f.entered = [] → (doReturn e (T.setTop f) acts (some (.int z))).1 = T.setFrames fs) : Steps p.tables e below (T.setTop (mkF m pc Ls (.int z :: rest))) (T.setFrames fs) := by
  have hm' : T.vm.method? m = some meth := X.method'
  have hn : narrow .int (.int z) = .int z := rfl
  show Steps p.tables e below (T.setTop { method := m, pc := pc, locals := Ls, stack := _ :: rest, locked := none }) _
  jvm_step X.here [X.here.top, hx, hd, hm', hret, hn]
  first | (intro acts; rw [hl _ acts rfl rfl rfl]) | rw [hl _ _ rfl rfl rfl]
  exact Steps.refl _
end New
end Jvm.RoadKit
namespace Jvm.Pilot.@@N@@
open Jvm Jvm.ClassFile Sem Op Lib Jvm.Free Jvm.Stand Jvm.LawKit Jvm.RoadKit Bundle Jvm.Pilot.@@N@@.Jvm.D
/-- from the frame g on the run comes to an end that Q says -/
def own_Goes (p : Program) (e : Env) (below : List Frame) (Q : Outcome → State → Prop) (T : State) (g : JFrame) : Prop :=
  ∃ s₂ o, Steps p.tables e below (T.setTop g) s₂ ∧ s₂.status = .running ∧ Ended s₂ below o ∧ Q o s₂
theorem own_st {p : Program} {e : Env} {below : List Frame} {Q : Outcome → State → Prop} {T T' : State} {g g' : JFrame}
    (h : ∀ t, Steps p.tables e below (T'.setTop g') t → Steps p.tables e below (T.setTop g) t) (k : own_Goes p e below Q T' g') : own_Goes p e below Q T g := by
  obtain ⟨s₂, o, h1, h2⟩ := k
  exact ⟨s₂, o, h _ h1, h2⟩
theorem own_end {p : Program} {l : Launch} {e : Env} {R : Room} {s : State} {m : MethodId} {args : Array Value} {below : List Frame} {meth : Method} {c : Code} {T : State} {locs : List Loc} {cells slots : Nat} {C S : Nat} {Q : Option Value → Heap → List Loc → Prop} {g : JFrame} {v : Option Value}
    (X : Stand p l e R s m args below meth c T locs cells slots) (hv : meth.sig.returnType = none → v = none)
    (hret : ∀ fs, (∀ (f : JFrame) (acts : List Action), f.method = m → f.locked = none → f.entered = [] → (doReturn e (T.setTop f) acts v).1 = T.setFrames fs) → Steps p.tables e below (T.setTop g) (T.setFrames fs))
    (hQ : Q v T.heap locs) (hC : cells ≤ C) (hS : slots ≤ S) (hlocks : meth.locks = false := by first | assumption) :
    own_Goes p e below (fun o U' => ∃ v L, o = .returned v ∧ Q v U'.heap L ∧ FrameEnd s o U' L C S) T g := by
  obtain ⟨fs, hr, hrun, hended, hW, hsame⟩ := X.leave (v := v) hv hlocks
  exact ⟨_, _, hret fs hr, hrun, hended, _, _, rfl, hQ, ⟨_, rfl⟩, hW, hsame.mono hC hS⟩
theorem own_selP {s : State} {args : Array Value} {y : MethodName} {n : Nat} (wi : (Cond.instantiable y.cls n).before args s = true) (hpriv : s.PrivateAt y) (hinst : (Cond.instanceMethod y).before args s = true)
    (hy : y.cls ≠ "java/lang/invoke/MethodHandle" ∧ y.cls ≠ "java/lang/invoke/VarHandle") : (Cond.selects y.cls y y).before args s = true := by
  obtain ⟨c, k, hc, hk, -, hi, -, -⟩ := Cond.instantiable_spec wi
  exact Jvm.Stand.selects_self_of_private hc hk (Bool.or_eq_false_iff.mp hi).1 hpriv hinst hy
/-- what a call by a contract leaves, its counters put in -/
theorem own_packS {p : Program} {l : Launch} {e : Env} {R : Room} {s : State} {m : MethodId} {args : Array Value} {below : List Frame} {meth : Method} {c : Code} {T : State} {locs : List Loc} {cells slots rc rs : Nat} {Q : Option Value → Heap → List Loc → Prop} {g : JFrame} {rest : List Value}
    (h : ∃ (v : Option Value) (vm₁ : Vm) (B : Pt), s.WarmedH vm₁ ∧ Stand p l e R s m args below meth c B.U B.locs B.cells B.slots ∧ (∃ L, Q v B.U.heap L ∧ B.locs = locs ++ L ∧ B.cells = cells + rc ∧ B.slots = slots + rs) ∧ ∀ target, Steps p.tables e below (B.U.setTop { g with pc := g.pc + 3, stack := v.toList ++ rest }) target → Steps p.tables e below (T.setTop g) target) :
    ∃ (v : Option Value) (T' : State) (L : List Loc), Stand p l e R s m args below meth c T' (locs ++ L) (cells + rc) (slots + rs) ∧ Q v T'.heap L ∧ ∀ target, Steps p.tables e below (T'.setTop { g with pc := g.pc + 3, stack := v.toList ++ rest }) target → Steps p.tables e below (T.setTop g) target := by
  obtain ⟨v, vm₁, ⟨T', L', k', n'⟩, -, X', ⟨Lc, hq, l, y, z⟩, st⟩ := h
  subst l y z
  exact ⟨v, T', Lc, X', hq, st⟩
theorem own_packV {p : Program} {l : Launch} {e : Env} {R : Room} {s : State} {m : MethodId} {args : Array Value} {below : List Frame} {meth : Method} {c : Code} {T : State} {locs : List Loc} {cells slots rc rs : Nat} {Q : Option Value → Heap → List Loc → Prop} {g : JFrame} {rest : List Value}
    (h : ∃ (v : Option Value) (vm₁ : Vm) (B : Pt), s.WarmedH vm₁ ∧ Stand p l e R s m args below meth c B.U B.locs B.cells B.slots ∧ (∃ L, Q v B.U.heap L ∧ B.locs = locs ++ L ∧ B.cells = cells + rc ∧ B.slots = slots + rs) ∧ Steps p.tables e below (T.setTop g) (B.U.setTop { g with pc := g.pc + 3, stack := v.toList ++ rest })) :
    ∃ (v : Option Value) (T' : State) (L : List Loc), Stand p l e R s m args below meth c T' (locs ++ L) (cells + rc) (slots + rs) ∧ Q v T'.heap L ∧ ∀ target, Steps p.tables e below (T'.setTop { g with pc := g.pc + 3, stack := v.toList ++ rest }) target → Steps p.tables e below (T.setTop g) target := by
  obtain ⟨v, vm₁, ⟨T', L', k', n'⟩, -, X', ⟨Lc, hq, l, y, z⟩, st⟩ := h
  subst l y z
  exact ⟨v, T', Lc, X', hq, fun _ k => st.trans k⟩
/-- the written places, their list forgotten -/
theorem own_loc {p : Program} {l : Launch} {e : Env} {R : Room} {s : State} {m : MethodId} {args : Array Value} {below : List Frame} {meth : Method} {c : Code} {T : State} {locs : List Loc} {cells slots k : Nat}
    (X : Stand p l e R s m args below meth c T locs cells slots) (N : Fr k locs) : ∃ locs', Stand p l e R s m args below meth c T locs' cells slots ∧ Fr k locs' := ⟨_, X, N⟩

theorem own_and (x : Int32) : 0 ≤ (x &&& 2147483647).toInt := by
  have := (c_and x 2147483647 (by decide)).1; exact this
theorem own_rem (x d : Int32) (h0 : 0 ≤ x.toInt) (hd : 0 < d.toInt) : (x - (x / d) * d).toInt = x.toInt % d.toInt ∧ 0 ≤ (x - (x / d) * d).toInt ∧ (x - (x / d) * d).toInt < d.toInt := by
  rw [irem_eq_mod]
  have e := (c_irem x d d.toInt rfl).1 h0
  exact ⟨e, by rw [e]; exact Int.emod_nonneg _ (by omega), by rw [e]; exact Int.emod_lt_of_pos _ hd⟩
theorem own_in (j d : Int32) (h1 : 0 ≤ j.toInt) (h2 : j.toInt < d.toInt) : ¬ j < 0 ∧ j < d := by
  constructor
  · rw [Int32.lt_iff_toInt_lt]; simp; omega
  · rw [Int32.lt_iff_toInt_lt]; exact h2
theorem own_getD (L : List Int32) (k : Nat) : (L.map Value.int).getD k (.int 0) = .int (L.getD k 0) := by
  simp only [List.getD, List.getElem?_map]
  cases L[k]? <;> rfl

/-! references that may be null; what may lie in an Object[] -/
def own_Rf (r : Value) : Prop := r = .null ∨ ∃ a, r = .ref a
theorem own_Rf.isRef {r : Value} (h : own_Rf r) : r.isRef = true := by rcases h with rfl | ⟨a, rfl⟩ <;> rfl
theorem own_Rf.cat {r : Value} (h : own_Rf r) : r.category = 1 := by rcases h with rfl | ⟨a, rfl⟩ <;> rfl
def own_R (Z : State) (h : Heap) (r : Value) : Prop := r = .null ∨ ∃ a, r = .ref a ∧ Exa Z h a "[I"
theorem own_R.rf {Z : State} {h : Heap} {r : Value} (F : own_R Z h r) : own_Rf r := by
  rcases F with rfl | ⟨a, rfl, -⟩
  · exact Or.inl rfl
  · exact Or.inr ⟨a, rfl⟩
theorem own_R.ext {Z : State} {h h' : Heap} {r : Value} (F : own_R Z h r) (E : Ext h h') : own_R Z h' r := F.imp id fun ⟨a, q, X⟩ => ⟨a, q, X.ext E⟩
theorem own_R.wr {Z : State} {h h' : Heap} {r : Value} {b : Addr} {sl : Nat} {v : Value} (F : own_R Z h r) (W : Wr h h' b sl v) : own_R Z h' r := F.imp id fun ⟨a, q, X⟩ => ⟨a, q, X.wr W⟩
theorem own_R.keep {Z : State} {h h' : Heap} {r : Value} {ws : List Addr} (F : own_R Z h r) (K : Keep h h' ws) : own_R Z h' r := F.imp id fun ⟨a, q, X⟩ => ⟨a, q, X.keep K⟩
def own_O (Z : State) (h : Heap) (r : Value) : Prop := r = .null ∨ ∃ a, r = .ref a ∧ Ins Z h a "java/lang/Object" true
theorem own_O.rf {Z : State} {h : Heap} {r : Value} (F : own_O Z h r) : own_Rf r := by
  rcases F with rfl | ⟨a, rfl, -⟩
  · exact Or.inl rfl
  · exact Or.inr ⟨a, rfl⟩
theorem own_O.ext {Z : State} {h h' : Heap} {r : Value} (F : own_O Z h r) (E : Ext h h') : own_O Z h' r := F.imp id fun ⟨a, q, X⟩ => ⟨a, q, X.ext E⟩
theorem own_O.wr {Z : State} {h h' : Heap} {r : Value} {b : Addr} {sl : Nat} {v : Value} (F : own_O Z h r) (W : Wr h h' b sl v) : own_O Z h' r := F.imp id fun ⟨a, q, X⟩ => ⟨a, q, X.wr W⟩
theorem own_R.o {Z : State} {h : Heap} {r : Value} {a0 : Array Value} (F : own_R Z h r) (w : (Cond.castable "[I" "java/lang/Object").before a0 Z = true) : own_O Z h r := F.imp id fun ⟨a, q, X⟩ => ⟨a, q, Ins.of_exa X w⟩
theorem own_O.sto {Z : State} {h : Heap} {r : Value} {b : Addr} {c : Cell} {k : ClassId} {ty : FieldType} (F : own_O Z h r) (A : Arr Z h b c ty) (q : c.cls = k) (O : Ovr Z k "java/lang/Object") : Sto Z h b r := by
  rcases F with rfl | ⟨a, rfl, I⟩
  · exact Or.inl rfl
  · exact Sto.ofV A q O I
theorem own_R.stoA {Z : State} {h : Heap} {r : Value} {b : Addr} {c : Cell} {k : ClassId} {ty : FieldType} (F : own_R Z h r) (A : Arr Z h b c ty) (q : c.cls = k) (O : OvrA Z k .int "[I") : Sto Z h b r := by
  rcases F with rfl | ⟨a, rfl, X⟩
  · exact Or.inl rfl
  · exact Sto.ofVA A q O (Ins.self X)
theorem own_fitsR {r : Value} {C : String} (h : own_Rf r) : fits (.object C) r = true := by rcases h with rfl | ⟨a, rfl⟩ <;> rfl
theorem own_fitsA {r : Value} {t : FieldType} (h : own_Rf r) : fits (.array t) r = true := by rcases h with rfl | ⟨a, rfl⟩ <;> rfl
theorem own_ext_wr {h0 h h' : Heap} {b : Addr} {sl : Nat} {v : Value} (E : Ext h0 h) (W : Wr h h' b sl v) (q : h0.size ≤ b) : Ext h0 h' := by
  refine ⟨Nat.le_trans E.1 (Keep.of_wr W).1, fun x c hc => (Keep.of_wr W).2.1 x c (E.2 x c hc) fun z => ?_⟩
  cases List.mem_singleton.mp z
  exact absurd (Array.getElem?_eq_some_iff.mp hc).1 (Nat.not_lt.mpr q)
theorem own_ext_keep {h0 h h' : Heap} {b : Addr} (E : Ext h0 h) (K : Keep h h' [b]) (q : h0.size ≤ b) : Ext h0 h' := by
  refine ⟨Nat.le_trans E.1 K.1, fun x c hc => K.2.1 x c (E.2 x c hc) fun z => ?_⟩
  cases List.mem_singleton.mp z
  exact absurd (Array.getElem?_eq_some_iff.mp hc).1 (Nat.not_lt.mpr q)
theorem own_ext_trans {h0 h h' : Heap} (E : Ext h0 h) (F : Ext h h') : Ext h0 h' := ⟨Nat.le_trans E.1 F.1, fun x c hc => F.2 x c (E.2 x c hc)⟩
theorem own_ext_refl (h : Heap) : Ext h h := ⟨Nat.le_refl _, fun _ _ q => q⟩
theorem own_keep_ext {h h' : Heap} {ws : List Addr} (E : Ext h h') : Keep h h' ws := (Keep.refl h ws).ext E
theorem own_sta_keep {Z : State} {h h' : Heap} {C n d : String} {v : Value} {ws : List Addr} (F : Sta Z h C n d v) (K : Keep h h' ws) (hw : ∀ x ∈ ws, ∀ cell : Cell, h[x]? = some cell → cell.vm.isStatics = false) : Sta Z h' C n d v := by
  obtain ⟨cf, i, k, f, st, cell, h1, h2, h3, h4, h5, h6, r⟩ := F
  refine ⟨cf, i, k, f, st, cell, h1, h2, h3, h4, K.2.1 st cell h5 (fun z => ?_), h6, r⟩
  have := hw st z cell h5
  rw [h6] at this; cases this
/-- the class has its mirror -/
def own_Mm (Z : State) (C : String) (mr : Addr) : Prop := ∃ (c : ClassId) (k : Class), Z.vm.findClass C = some c ∧ Z.vm.classes[c]? = some k ∧ k.mirror = some mr
section Own
variable {p : Program} {l : Launch} {e : Env} {R : Room} {s : State} {m : MethodId} {args : Array Value} {below : List Frame} {meth : Method} {c : Code} {T : State} {locs : List Loc} {cells slots : Nat} {Z : State} {a0 : Array Value} {h : Heap}
theorem own_ldcM (X : Stand p l e R s m args below meth c T locs cells slots) (hx : p.tables.exec = Jvm.exec) (hZ : Z.Warmed39 s.vm) {own C : String} {index : Nat} (hown : s.vm.findClass own = some m.cls) (w : (Cond.classLink own index C).before a0 Z = true) (eT : T.heap = h) {mr : Addr} (M : own_Mm Z C mr)
    {g : JFrame} (hg : g.method = m) (hd : decode c.code g.pc = .ok (.ldc index, 2)) : ∃ T', Stand p l e R s m args below meth c T' locs cells slots ∧ T'.heap = h ∧ ∀ target, Steps p.tables e below (T'.setTop { g with pc := g.pc + 2, stack := .ref mr :: g.stack }) target → Steps p.tables e below (T.setTop g) target := by
  obtain ⟨cc, k, m1, m2, m3⟩ := M
  obtain ⟨k', q, ek⟩ := hZ.alike.2.2 _ _ m2
  have hev : (Term.mirror C).eval args s none [] s = some (.ref mr) := by
    have f1 : s.vm.findClass C = some cc := by rw [hZ.alike.findClass]; exact m1
    have f3 : k'.mirror = some mr := by rw [ek]; exact m3
    simp [Term.eval, f1, q, f3]
  obtain ⟨vm', X', st⟩ := X.ldcMirror hx hown (mv hZ w) hev hg hd
  exact ⟨_, X', eT, st⟩
theorem own_gcls (X : Stand p l e R s m args below meth c T locs cells slots) (hx : p.tables.exec = Jvm.exec) (hZ : Z.Warmed39 s.vm) {own C : String} {index : Nat} (hown : s.vm.findClass own = some m.cls)
    (w1 : (Cond.methodLink own index ⟨"java/lang/Object", "getClass", "()Ljava/lang/Class;"⟩).before a0 Z = true) (w2 : (Cond.declares ⟨"java/lang/Object", "getClass", "()Ljava/lang/Class;"⟩).before a0 Z = true) (w4 : (Cond.selects C ⟨"java/lang/Object", "getClass", "()Ljava/lang/Class;"⟩ ⟨"java/lang/Object", "getClass", "()Ljava/lang/Class;"⟩).before a0 Z = true)
    (w5 : (Cond.instanceMethod ⟨"java/lang/Object", "getClass", "()Ljava/lang/Class;"⟩).before a0 Z = true) (w6 : (Cond.native ⟨"java/lang/Object", "getClass", "()Ljava/lang/Class;"⟩).before a0 Z = true) (eT : T.heap = h) {a : Addr} (E : Exa Z h a C) {mr : Addr} (M : own_Mm Z C mr)
    {g : JFrame} (hg : g.method = m) (hsize : g.locals.size = c.maxLocals) {rest : List Value} (hs : g.stack = .ref a :: rest) (hd : decode c.code g.pc = .ok (.invokevirtual index, 3)) (hf : 1 ≤ R.frames) (hl : 2 * g.monitorRoom + (rest.map fun v => v.category).sum + (nativeFrameWords "java/lang/Object" "getClass" 1 + 11) ≤ R.locals) :
    ∃ T', Stand p l e R s m args below meth c T' locs cells slots ∧ T'.heap = h ∧ ∀ target, Steps p.tables e below (T'.setTop { g with pc := g.pc + 3, stack := .ref mr :: rest }) target → Steps p.tables e below (T.setTop g) target := by
  obtain ⟨cB, kB, i1, i2, i3⟩ := isOf hZ eT E
  obtain ⟨cc, kc, m1, m2, m3⟩ := M
  rw [hZ.alike.findClass] at i1
  cases i1.symm.trans m1
  obtain ⟨k', q, ek⟩ := hZ.alike.2.2 _ _ m2
  obtain ⟨vm', X', st⟩ := X.getClassOf hx hown (mvT hZ w1) (mvT hZ w2) (notFace_of_selects (args := #[]) (mvT hZ w4)) (mvT hZ w4) (mvT hZ w5) (mvT hZ w6) (by rw [hZ.alike.findClass]; exact m1) i3 q (by rw [ek]; exact m3) hg hsize hs hd hf hl
  exact ⟨_, X', eT, st⟩
theorem own_castV (X : Stand p l e R s m args below meth c T locs cells slots) (hx : p.tables.exec = Jvm.exec) (hZ : Z.Warmed39 s.vm) {own : String} {index : Nat} (hown : s.vm.findClass own = some m.cls) (w : (Cond.classLink own index "[I").before a0 Z = true) (eT : T.heap = h) {r : Value} (F : own_R Z h r)
    {g : JFrame} (hg : g.method = m) {rest : List Value} (hs : g.stack = r :: rest) (hd : decode c.code g.pc = .ok (.checkcast index, 3)) : ∃ T', Stand p l e R s m args below meth c T' locs cells slots ∧ T'.heap = h ∧ ∀ target, Steps p.tables e below (T'.setTop { g with pc := g.pc + 3 }) target → Steps p.tables e below (T.setTop g) target := by
  rcases F with rfl | ⟨a, rfl, E⟩
  · exact ⟨T, X, eT, X.checkcastNull hx hg hs hd⟩
  · exact castY X hx hZ hown w eT (Ins.self E) hg hs hd
end Own
theorem own_range (L : List Value) (n : Nat) (h : L.length = n) : L = (List.range n).map fun i => L.getD (0 + i) .null := by
  subst h
  apply List.ext_getElem
  · simp
  · intro i h1 h2
    simp [List.getD, List.getElem?_eq_getElem h1]
theorem own_stoL {Z : State} {h : Heap} {b : Addr} : ∀ (us : List Value), (∀ v ∈ us, Sto Z h b v) → StoL Z h b us
  | [], _ => trivial
  | v :: r, H => ⟨H v (List.mem_cons_self ..), own_stoL r fun w q => H w (List.mem_cons_of_mem _ q)⟩
theorem own_getR (as : List Addr) (i : Nat) (h : i < as.length) : (as.map Value.ref).getD i .null = .ref (as.getD i 0) := by
  simp [List.getD, List.getElem?_eq_getElem h]

theorem d9_0 : decode jdk_29_method_65_code 0 = .ok (.iload_n 0, 1) := by decide +kernel
theorem d9_1 : decode jdk_29_method_65_code 1 = .ok (.iload_n 1, 1) := by decide +kernel
theorem d9_2 : decode jdk_29_method_65_code 2 = .ok (.if_icmp .lt 7, 3) := by decide +kernel
theorem d9_5 : decode jdk_29_method_65_code 5 = .ok (.iload_n 0, 1) := by decide +kernel
theorem d9_6 : decode jdk_29_method_65_code 6 = .ok (.goto 4, 3) := by decide +kernel
theorem d9_9 : decode jdk_29_method_65_code 9 = .ok (.iload_n 1, 1) := by decide +kernel
theorem d9_10 : decode jdk_29_method_65_code 10 = .ok (.ireturn, 1) := by decide +kernel
theorem own_ef9 (m : MethodId) (x0 : Int32) (x1 : Int32) : entryFrame m #[(.int x0), (.int x1)] 2 = mkF m 0 #[.val (.int x0), .val (.int x1)] [] := by first | (simp [entryFrame, mkF, argsToLocals, Value.category]; done) | rfl
def own_f9_10 (v0 : Int32) (v1 : Int32) (t0 : Int32) : Int32 := t0
def own_f9_0 (p1 : Int32) (p2 : Int32) : Int32 := (if p1 < p2 then own_f9_10 p1 p2 p2 else own_f9_10 p1 p2 p1)
def Q9 (Z : State) (p1 : Int32) (p2 : Int32) (h0 : Heap) (n0 : Nat) (v : Option Value) (h : Heap) (L : List Loc) : Prop := v = some (.int (own_f9_0 p1 p2)) ∧ Fr n0 L ∧ h = h0
set_option maxRecDepth 65536 in
set_option maxHeartbeats 40000000 in
theorem rm9 (l : Launch) (Z : State) (a0 : Array Value) (hw : ∀ d ∈ tables_1, d.before a0 Z = true) (ws : List Jvm.Cond) (p1 : Int32) (p2 : Int32) (h0 : Heap) (n0 : Nat) (Z0 : n0 ≤ h0.size)  :
    MetFree l (⟨"java/lang/Math", "max", "(II)I"⟩ : MethodName) (head1 (Jvm.Cond.code (⟨"java/lang/Math", "max", "(II)I"⟩ : MethodName) jdk_29_method_65_code 2 (some .int) :: ws) ({ frames := 0, cells := 0, slots := 0, locals := 0 } : Room)) (fun a U => a = #[(.int p1), (.int p2)] ∧ Z.Warmed39 U.vm ∧ U.heap = h0) (fun _ _ _ _ _ => True) (fun _ U o U' => ∃ v L, o = .returned v ∧ Q9 Z p1 p2 h0 n0 v U'.heap L ∧ FrameEnd U o U' L ({ frames := 0, cells := 0, slots := 0, locals := 0 } : Room).cells ({ frames := 0, cells := 0, slots := 0, locals := 0 } : Room).slots) := by
  refine MetFree.of_bodySF (Jvm.Free.JP.mathPlain rfl (by decide +kernel)) hisR ?_
  intro p e s m args below meth c s₁ Bd hml0 hP hK
  obtain ⟨rfl, hZ, hh⟩ := hP
  have hx := Bd.exec
  have hby := Bd.bytes
  have hml : c.maxLocals = 2 := hml0
  have hown : s.vm.findClass "java/lang/Math" = some m.cls := findClass_of_methodNamed Bd.named
  have hnm := (name_of_methodNamed Bd.named Bd.method).1
  have hlk := Bd.notSynchronized
  have X0 : Stand p l e ({ frames := 0, cells := 0, slots := 0, locals := 0 } : Room) s m #[(.int p1), (.int p2)] below meth c s₁ [] 0 0 := Stand.of_body Bd
  have e0 : s₁.heap = h0 := by rw [← hh, Bd.state]; rfl
  have N0 := Fr.nil n0
  show own_Goes p e below (fun o U' => ∃ v L, o = .returned v ∧ Q9 Z p1 p2 h0 n0 v U'.heap L ∧ FrameEnd s o U' L ({ frames := 0, cells := 0, slots := 0, locals := 0 } : Room).cells ({ frames := 0, cells := 0, slots := 0, locals := 0 } : Room).slots) s₁ (entryFrame m #[(.int p1), (.int p2)] 2)
  refine own_st (T' := s₁) (g' := mkF m 0 #[.val (.int p1), .val (.int p2)] []) (fun _ k => castTop (own_ef9 m p1 p2) k) ?_
  have b10 : ∀ (T : State) (Lc : List Loc) (X : Stand p l e ({ frames := 0, cells := 0, slots := 0, locals := 0 } : Room) s m #[(.int p1), (.int p2)] below meth c T Lc 0 0) (eT : T.heap = h0) (NL : Fr n0 Lc) (v0 : Int32) (v1 : Int32) (t0 : Int32), own_f9_0 p1 p2 = own_f9_10 v0 v1 t0 → own_Goes p e below (fun o U' => ∃ v L, o = .returned v ∧ Q9 Z p1 p2 h0 n0 v U'.heap L ∧ FrameEnd s o U' L ({ frames := 0, cells := 0, slots := 0, locals := 0 } : Room).cells ({ frames := 0, cells := 0, slots := 0, locals := 0 } : Room).slots) T (mkF m 10 #[.val (.int v0), .val (.int v1)] [(.int t0)]) := by
    intro T Lc X eT NL v0 v1 t0 hf
    exact own_end (Q := Q9 Z p1 p2 h0 n0) (v := some (.int t0)) X (fun h => by rw [Bd.returns] at h; cases h) (fun fs hr => retI X hx Bd.returns (hb hby d9_10) hr) (⟨congrArg (fun z => some (Value.int z)) hf.symm, NL, eT⟩) (by decide) (by decide)
  have hf : own_f9_0 p1 p2 = own_f9_0 p1 p2 := rfl
  refine own_st (T' := s₁) (g' := (mkF m 1 #[.val (.int p1), .val (.int p2)] [(.int p1)])) (fun _ k => Jvm.Free.XS.iloadN (g := (mkF m 0 #[.val (.int p1), .val (.int p2)] [])) X0.here hx rfl (hb hby d9_0) rfl k) ?_
  refine own_st (T' := s₁) (g' := (mkF m 2 #[.val (.int p1), .val (.int p2)] [(.int p2), (.int p1)])) (fun _ k => Jvm.Free.XS.iloadN (g := (mkF m 1 #[.val (.int p1), .val (.int p2)] [(.int p1)])) X0.here hx rfl (hb hby d9_1) rfl k) ?_
  by_cases hc2 : p1 < p2
  · have hf := hf.trans (if_pos hc2)
    refine own_st (T' := s₁) (g' := (mkF m 9 #[.val (.int p1), .val (.int p2)] [])) (fun _ k => XS.icmpYes (g := (mkF m 2 #[.val (.int p1), .val (.int p2)] [(.int p2), (.int p1)])) X0.here hx rfl (pc0 := 2) (pc' := 9) rfl (hb hby d9_2) rfl (tlt hc2).1 (by decide) (by decide) k) ?_
    refine own_st (T' := s₁) (g' := (mkF m 10 #[.val (.int p1), .val (.int p2)] [(.int p2)])) (fun _ k => Jvm.Free.XS.iloadN (g := (mkF m 9 #[.val (.int p1), .val (.int p2)] [])) X0.here hx rfl (hb hby d9_9) rfl k) ?_
    exact b10 s₁ _ X0 e0 N0  p1 p2 p2 hf
  · have hf := hf.trans (if_neg hc2)
    refine own_st (T' := s₁) (g' := (mkF m 5 #[.val (.int p1), .val (.int p2)] [])) (fun _ k => XS.icmpNo (g := (mkF m 2 #[.val (.int p1), .val (.int p2)] [(.int p2), (.int p1)])) X0.here hx rfl (hb hby d9_2) rfl (flt hc2).1 k) ?_
    refine own_st (T' := s₁) (g' := (mkF m 6 #[.val (.int p1), .val (.int p2)] [(.int p1)])) (fun _ k => Jvm.Free.XS.iloadN (g := (mkF m 5 #[.val (.int p1), .val (.int p2)] [])) X0.here hx rfl (hb hby d9_5) rfl k) ?_
    refine own_st (T' := s₁) (g' := (mkF m 10 #[.val (.int p1), .val (.int p2)] [(.int p1)])) (fun _ k => XS.goto (g := (mkF m 6 #[.val (.int p1), .val (.int p2)] [(.int p1)])) X0.here hx rfl (pc0 := 6) (pc' := 10) rfl (hb hby d9_6) (by decide) (by decide) k) ?_
    exact b10 s₁ _ X0 e0 N0  p1 p2 p1 hf
theorem d12_0 : decode jdk_29_method_69_code 0 = .ok (.iload_n 0, 1) := by decide +kernel
theorem d12_1 : decode jdk_29_method_69_code 1 = .ok (.iload_n 1, 1) := by decide +kernel
theorem d12_2 : decode jdk_29_method_69_code 2 = .ok (.if_icmp .gt 7, 3) := by decide +kernel
theorem d12_5 : decode jdk_29_method_69_code 5 = .ok (.iload_n 0, 1) := by decide +kernel
theorem d12_6 : decode jdk_29_method_69_code 6 = .ok (.goto 4, 3) := by decide +kernel
theorem d12_9 : decode jdk_29_method_69_code 9 = .ok (.iload_n 1, 1) := by decide +kernel
theorem d12_10 : decode jdk_29_method_69_code 10 = .ok (.ireturn, 1) := by decide +kernel
theorem own_ef12 (m : MethodId) (x0 : Int32) (x1 : Int32) : entryFrame m #[(.int x0), (.int x1)] 2 = mkF m 0 #[.val (.int x0), .val (.int x1)] [] := by first | (simp [entryFrame, mkF, argsToLocals, Value.category]; done) | rfl
def own_f12_10 (v0 : Int32) (v1 : Int32) (t0 : Int32) : Int32 := t0
def own_f12_0 (p1 : Int32) (p2 : Int32) : Int32 := (if p2 < p1 then own_f12_10 p1 p2 p2 else own_f12_10 p1 p2 p1)
def Q12 (Z : State) (p1 : Int32) (p2 : Int32) (h0 : Heap) (n0 : Nat) (v : Option Value) (h : Heap) (L : List Loc) : Prop := v = some (.int (own_f12_0 p1 p2)) ∧ Fr n0 L ∧ h = h0
set_option maxRecDepth 65536 in
set_option maxHeartbeats 40000000 in
theorem rm12 (l : Launch) (Z : State) (a0 : Array Value) (hw : ∀ d ∈ tables_1, d.before a0 Z = true) (ws : List Jvm.Cond) (p1 : Int32) (p2 : Int32) (h0 : Heap) (n0 : Nat) (Z0 : n0 ≤ h0.size)  :
    MetFree l (⟨"java/lang/Math", "min", "(II)I"⟩ : MethodName) (head1 (Jvm.Cond.code (⟨"java/lang/Math", "min", "(II)I"⟩ : MethodName) jdk_29_method_69_code 2 (some .int) :: ws) ({ frames := 0, cells := 0, slots := 0, locals := 0 } : Room)) (fun a U => a = #[(.int p1), (.int p2)] ∧ Z.Warmed39 U.vm ∧ U.heap = h0) (fun _ _ _ _ _ => True) (fun _ U o U' => ∃ v L, o = .returned v ∧ Q12 Z p1 p2 h0 n0 v U'.heap L ∧ FrameEnd U o U' L ({ frames := 0, cells := 0, slots := 0, locals := 0 } : Room).cells ({ frames := 0, cells := 0, slots := 0, locals := 0 } : Room).slots) := by
  refine MetFree.of_bodySF (Jvm.Free.JP.mathPlain rfl (by decide +kernel)) hisR ?_
  intro p e s m args below meth c s₁ Bd hml0 hP hK
  obtain ⟨rfl, hZ, hh⟩ := hP
  have hx := Bd.exec
  have hby := Bd.bytes
  have hml : c.maxLocals = 2 := hml0
  have hown : s.vm.findClass "java/lang/Math" = some m.cls := findClass_of_methodNamed Bd.named
  have hnm := (name_of_methodNamed Bd.named Bd.method).1
  have hlk := Bd.notSynchronized
  have X0 : Stand p l e ({ frames := 0, cells := 0, slots := 0, locals := 0 } : Room) s m #[(.int p1), (.int p2)] below meth c s₁ [] 0 0 := Stand.of_body Bd
  have e0 : s₁.heap = h0 := by rw [← hh, Bd.state]; rfl
  have N0 := Fr.nil n0
  show own_Goes p e below (fun o U' => ∃ v L, o = .returned v ∧ Q12 Z p1 p2 h0 n0 v U'.heap L ∧ FrameEnd s o U' L ({ frames := 0, cells := 0, slots := 0, locals := 0 } : Room).cells ({ frames := 0, cells := 0, slots := 0, locals := 0 } : Room).slots) s₁ (entryFrame m #[(.int p1), (.int p2)] 2)
  refine own_st (T' := s₁) (g' := mkF m 0 #[.val (.int p1), .val (.int p2)] []) (fun _ k => castTop (own_ef12 m p1 p2) k) ?_
  have b10 : ∀ (T : State) (Lc : List Loc) (X : Stand p l e ({ frames := 0, cells := 0, slots := 0, locals := 0 } : Room) s m #[(.int p1), (.int p2)] below meth c T Lc 0 0) (eT : T.heap = h0) (NL : Fr n0 Lc) (v0 : Int32) (v1 : Int32) (t0 : Int32), own_f12_0 p1 p2 = own_f12_10 v0 v1 t0 → own_Goes p e below (fun o U' => ∃ v L, o = .returned v ∧ Q12 Z p1 p2 h0 n0 v U'.heap L ∧ FrameEnd s o U' L ({ frames := 0, cells := 0, slots := 0, locals := 0 } : Room).cells ({ frames := 0, cells := 0, slots := 0, locals := 0 } : Room).slots) T (mkF m 10 #[.val (.int v0), .val (.int v1)] [(.int t0)]) := by
    intro T Lc X eT NL v0 v1 t0 hf
    exact own_end (Q := Q12 Z p1 p2 h0 n0) (v := some (.int t0)) X (fun h => by rw [Bd.returns] at h; cases h) (fun fs hr => retI X hx Bd.returns (hb hby d12_10) hr) (⟨congrArg (fun z => some (Value.int z)) hf.symm, NL, eT⟩) (by decide) (by decide)
  have hf : own_f12_0 p1 p2 = own_f12_0 p1 p2 := rfl
  refine own_st (T' := s₁) (g' := (mkF m 1 #[.val (.int p1), .val (.int p2)] [(.int p1)])) (fun _ k => Jvm.Free.XS.iloadN (g := (mkF m 0 #[.val (.int p1), .val (.int p2)] [])) X0.here hx rfl (hb hby d12_0) rfl k) ?_
  refine own_st (T' := s₁) (g' := (mkF m 2 #[.val (.int p1), .val (.int p2)] [(.int p2), (.int p1)])) (fun _ k => Jvm.Free.XS.iloadN (g := (mkF m 1 #[.val (.int p1), .val (.int p2)] [(.int p1)])) X0.here hx rfl (hb hby d12_1) rfl k) ?_
  by_cases hc2 : p2 < p1
  · have hf := hf.trans (if_pos hc2)
    refine own_st (T' := s₁) (g' := (mkF m 9 #[.val (.int p1), .val (.int p2)] [])) (fun _ k => XS.icmpYes (g := (mkF m 2 #[.val (.int p1), .val (.int p2)] [(.int p2), (.int p1)])) X0.here hx rfl (pc0 := 2) (pc' := 9) rfl (hb hby d12_2) rfl (tlt hc2).2.2.1 (by decide) (by decide) k) ?_
    refine own_st (T' := s₁) (g' := (mkF m 10 #[.val (.int p1), .val (.int p2)] [(.int p2)])) (fun _ k => Jvm.Free.XS.iloadN (g := (mkF m 9 #[.val (.int p1), .val (.int p2)] [])) X0.here hx rfl (hb hby d12_9) rfl k) ?_
    exact b10 s₁ _ X0 e0 N0  p1 p2 p2 hf
  · have hf := hf.trans (if_neg hc2)
    refine own_st (T' := s₁) (g' := (mkF m 5 #[.val (.int p1), .val (.int p2)] [])) (fun _ k => XS.icmpNo (g := (mkF m 2 #[.val (.int p1), .val (.int p2)] [(.int p2), (.int p1)])) X0.here hx rfl (hb hby d12_2) rfl (flt hc2).2.2.1 k) ?_
    refine own_st (T' := s₁) (g' := (mkF m 6 #[.val (.int p1), .val (.int p2)] [(.int p1)])) (fun _ k => Jvm.Free.XS.iloadN (g := (mkF m 5 #[.val (.int p1), .val (.int p2)] [])) X0.here hx rfl (hb hby d12_5) rfl k) ?_
    refine own_st (T' := s₁) (g' := (mkF m 10 #[.val (.int p1), .val (.int p2)] [(.int p1)])) (fun _ k => XS.goto (g := (mkF m 6 #[.val (.int p1), .val (.int p2)] [(.int p1)])) X0.here hx rfl (pc0 := 6) (pc' := 10) rfl (hb hby d12_6) (by decide) (by decide) k) ?_
    exact b10 s₁ _ X0 e0 N0  p1 p2 p1 hf
theorem d3_0 : decode jdk_22_method_1_code 0 = .ok (.aload_n 0, 1) := by decide +kernel
theorem d3_1 : decode jdk_22_method_1_code 1 = .ok (.invokespecial 1, 3) := by decide +kernel
theorem d3_4 : decode jdk_22_method_1_code 4 = .ok (.return_, 1) := by decide +kernel
theorem own_pn3 : plainName "java/util/AbstractCollection" = true := by first | (simp [plainName, overriddenIn]; done) | decide +kernel
theorem own_ef3 (m : MethodId) (x0 : Addr) : entryFrame m #[(.ref x0)] 1 = mkF m 0 #[.val (.ref x0)] [] := by first | (simp [entryFrame, mkF, argsToLocals, Value.category]; done) | rfl
def Q3 (Z : State) (a1 : Addr)  (h0 : Heap) (n0 : Nat) (v : Option Value) (h : Heap) (L : List Loc) : Prop := v = none ∧ Fr n0 L ∧ h = h0
set_option maxRecDepth 65536 in
set_option maxHeartbeats 40000000 in
theorem rm3 (l : Launch) (Z : State) (a0 : Array Value) (hw : ∀ d ∈ tables_1, d.before a0 Z = true) (ws : List Jvm.Cond) (a1 : Addr)  (h0 : Heap) (n0 : Nat) (Z0 : n0 ≤ h0.size)    :
    MetFree l (⟨"java/util/AbstractCollection", "<init>", "()V"⟩ : MethodName) (head1 (Jvm.Cond.code (⟨"java/util/AbstractCollection", "<init>", "()V"⟩ : MethodName) jdk_22_method_1_code 1 none :: ws) ({ frames := 1, cells := 0, slots := 0, locals := 12 } : Room)) (fun a U => a = #[(.ref a1)] ∧ Z.Warmed39 U.vm ∧ U.heap = h0) (fun _ _ _ _ _ => True) (fun _ U o U' => ∃ v L, o = .returned v ∧ Q3 Z a1  h0 n0 v U'.heap L ∧ FrameEnd U o U' L ({ frames := 1, cells := 0, slots := 0, locals := 12 } : Room).cells ({ frames := 1, cells := 0, slots := 0, locals := 12 } : Room).slots) := by
  refine MetFree.of_bodySF (plainFor_of_name own_pn3) hisR ?_
  intro p e s m args below meth c s₁ Bd hml0 hP hK
  obtain ⟨rfl, hZ, hh⟩ := hP
  have hx := Bd.exec
  have hby := Bd.bytes
  have hml : c.maxLocals = 1 := hml0
  have hown : s.vm.findClass "java/util/AbstractCollection" = some m.cls := findClass_of_methodNamed Bd.named
  have hnm := (name_of_methodNamed Bd.named Bd.method).1
  have hlk := Bd.notSynchronized
  have X0 : Stand p l e ({ frames := 1, cells := 0, slots := 0, locals := 12 } : Room) s m #[(.ref a1)] below meth c s₁ [] 0 0 := Stand.of_body Bd
  have e0 : s₁.heap = h0 := by rw [← hh, Bd.state]; rfl
  have N0 := Fr.nil n0
  show own_Goes p e below (fun o U' => ∃ v L, o = .returned v ∧ Q3 Z a1  h0 n0 v U'.heap L ∧ FrameEnd s o U' L ({ frames := 1, cells := 0, slots := 0, locals := 12 } : Room).cells ({ frames := 1, cells := 0, slots := 0, locals := 12 } : Room).slots) s₁ (entryFrame m #[(.ref a1)] 1)
  refine own_st (T' := s₁) (g' := mkF m 0 #[.val (.ref a1)] []) (fun _ k => castTop (own_ef3 m a1) k) ?_
  refine own_st (T' := s₁) (g' := (mkF m 1 #[.val (.ref a1)] [(.ref a1)])) (fun _ k => Jvm.Free.XS.aloadN (g := (mkF m 0 #[.val (.ref a1)] [])) X0.here hx rfl (hb hby d3_0) rfl rfl k) ?_
  obtain ⟨T1, X1, e1, st1⟩ := initO X0 hx hZ hown (hw _ (List.mem_of_getElem? (i := 23) rfl)) (hw _ (List.mem_of_getElem? (i := 24) rfl)) (hw _ (List.mem_of_getElem? (i := 25) rfl)) e0 (g := (mkF m 1 #[.val (.ref a1)] [(.ref a1)])) rfl (by rw [hml]; rfl) rfl (hb hby d3_1) (by decide) (W := 0) (by show 2 * 0 + _ ≤ _; exact Nat.le_of_eq rfl) (by decide)
  refine own_st (T' := T1) (g' := (mkF m 4 #[.val (.ref a1)] [])) (fun _ k => (st1) _ k) ?_
  exact own_end (Q := Q3 Z a1  h0 n0) (v := none) X1 (fun _ => rfl) (fun fs hr => X1.returnOut hx Bd.returns (hb hby d3_4) hr) (⟨rfl, N0, e1⟩) (by decide) (by decide)
theorem d2_0 : decode jdk_39_method_1_code 0 = .ok (.aload_n 0, 1) := by decide +kernel
theorem d2_1 : decode jdk_39_method_1_code 1 = .ok (.invokespecial 1, 3) := by decide +kernel
theorem d2_4 : decode jdk_39_method_1_code 4 = .ok (.aload_n 0, 1) := by decide +kernel
theorem d2_5 : decode jdk_39_method_1_code 5 = .ok (.iconst 0, 1) := by decide +kernel
theorem d2_6 : decode jdk_39_method_1_code 6 = .ok (.putfield 7, 3) := by decide +kernel
theorem d2_9 : decode jdk_39_method_1_code 9 = .ok (.return_, 1) := by decide +kernel
theorem own_pn2 : plainName "java/util/AbstractList" = true := by first | (simp [plainName, overriddenIn]; done) | decide +kernel
theorem own_pd2_0 : parseMethodDescriptor "()V" = some ⟨[], none⟩ := by decide +kernel
theorem own_ef2 (m : MethodId) (x0 : Addr) : entryFrame m #[(.ref x0)] 1 = mkF m 0 #[.val (.ref x0)] [] := by first | (simp [entryFrame, mkF, argsToLocals, Value.category]; done) | rfl
def Q2 (Z : State) (a1 : Addr)  (h0 : Heap) (n0 : Nat) (v : Option Value) (h : Heap) (L : List Loc) : Prop := v = none ∧ Fr n0 L ∧ Keep h0 h [a1] ∧ Exa Z h a1 "java/util/ArrayList" ∧ Fld Z h a1 "java/util/ArrayList" "elementData" "[Ljava/lang/Object;" .null
set_option maxRecDepth 65536 in
set_option maxHeartbeats 40000000 in
theorem rm2 (l : Launch) (Z : State) (a0 : Array Value) (hw : ∀ d ∈ tables_1, d.before a0 Z = true) (ws : List Jvm.Cond) (a1 : Addr)  (h0 : Heap) (n0 : Nat) (Z0 : n0 ≤ h0.size) (E_a1 : Exa Z h0 a1 "java/util/ArrayList") (F_m : Fld Z h0 a1 "java/util/AbstractList" "modCount" "I" (.int (0 : Int32))) (F_e : Fld Z h0 a1 "java/util/ArrayList" "elementData" "[Ljava/lang/Object;" .null) (gn_a1 : n0 ≤ a1)  :
    MetFree l (⟨"java/util/AbstractList", "<init>", "()V"⟩ : MethodName) (head1 (Jvm.Cond.code (⟨"java/util/AbstractList", "<init>", "()V"⟩ : MethodName) jdk_39_method_1_code 1 none :: ws) ({ frames := 2, cells := 0, slots := 0, locals := 24 } : Room)) (fun a U => a = #[(.ref a1)] ∧ Z.Warmed39 U.vm ∧ U.heap = h0) (fun _ _ _ _ _ => True) (fun _ U o U' => ∃ v L, o = .returned v ∧ Q2 Z a1  h0 n0 v U'.heap L ∧ FrameEnd U o U' L ({ frames := 2, cells := 0, slots := 0, locals := 24 } : Room).cells ({ frames := 2, cells := 0, slots := 0, locals := 24 } : Room).slots) := by
  refine MetFree.of_bodySF (plainFor_of_name own_pn2) hisR ?_
  intro p e s m args below meth c s₁ Bd hml0 hP hK
  obtain ⟨rfl, hZ, hh⟩ := hP
  have hx := Bd.exec
  have hby := Bd.bytes
  have hml : c.maxLocals = 1 := hml0
  have hown : s.vm.findClass "java/util/AbstractList" = some m.cls := findClass_of_methodNamed Bd.named
  have hnm := (name_of_methodNamed Bd.named Bd.method).1
  have hlk := Bd.notSynchronized
  have X0 : Stand p l e ({ frames := 2, cells := 0, slots := 0, locals := 24 } : Room) s m #[(.ref a1)] below meth c s₁ [] 0 0 := Stand.of_body Bd
  have e0 : s₁.heap = h0 := by rw [← hh, Bd.state]; rfl
  have N0 := Fr.nil n0
  show own_Goes p e below (fun o U' => ∃ v L, o = .returned v ∧ Q2 Z a1  h0 n0 v U'.heap L ∧ FrameEnd s o U' L ({ frames := 2, cells := 0, slots := 0, locals := 24 } : Room).cells ({ frames := 2, cells := 0, slots := 0, locals := 24 } : Room).slots) s₁ (entryFrame m #[(.ref a1)] 1)
  refine own_st (T' := s₁) (g' := mkF m 0 #[.val (.ref a1)] []) (fun _ k => castTop (own_ef2 m a1) k) ?_
  refine own_st (T' := s₁) (g' := (mkF m 1 #[.val (.ref a1)] [(.ref a1)])) (fun _ k => Jvm.Free.XS.aloadN (g := (mkF m 0 #[.val (.ref a1)] [])) X0.here hx rfl (hb hby d2_0) rfl rfl k) ?_
  obtain ⟨v1, T1, L1, X1, hQ1, st1⟩ := own_packV (X0.specialBack hx (y := (⟨"java/util/AbstractCollection", "<init>", "()V"⟩ : MethodName)) rfl hown (mvT hZ (hw _ (List.mem_of_getElem? (i := 17) rfl))) (mvT hZ (hw _ (List.mem_of_getElem? (i := 18) rfl))) (mvT hZ (hw _ (List.mem_of_getElem? (i := 22) rfl))) (by decide) (backOf (W := 0) (rm3 l Z a0 hw [] a1 h0 n0 Z0 ) hZ (hw _ (List.mem_of_getElem? (i := 22) rfl)) (hw _ (List.mem_of_getElem? (i := 21) rfl)) (by decide) (by decide)) (g := (mkF m 1 #[.val (.ref a1)] [(.ref a1)])) rfl (by rw [hml]; rfl) (Steps.refl _) (a := a1) (argsL := []) (rest := []) (lenOf own_pd2_0 rfl) rfl (by show 2 * 0 + _ ≤ _; exact Nat.le_of_eq rfl) (hb hby d2_1) (fun _ _ => ⟨rfl, e0, (by decide : 0 + 0 ≤ _), (by decide : 0 + 0 ≤ _)⟩))
  obtain ⟨rfl, N1q, e1⟩ := hQ1
  obtain ⟨lc1, X1, N1⟩ := own_loc X1 (Fr.app N0 N1q)
  refine own_st (T' := T1) (g' := (mkF m 4 #[.val (.ref a1)] [])) (fun _ k => (st1) _ k) ?_
  refine own_st (T' := T1) (g' := (mkF m 5 #[.val (.ref a1)] [(.ref a1)])) (fun _ k => Jvm.Free.XS.aloadN (g := (mkF m 4 #[.val (.ref a1)] [])) X1.here hx rfl (hb hby d2_4) rfl rfl k) ?_
  refine own_st (T' := T1) (g' := (mkF m 6 #[.val (.ref a1)] [(.int (0 : Int32)), (.ref a1)])) (fun _ k => XS.iconst (g := (mkF m 5 #[.val (.ref a1)] [(.ref a1)])) X1.here hx rfl (hb hby d2_5) k) ?_
  obtain ⟨T2, h2, X2, e2, W2, st2⟩ := putF X1 hx hZ hown (host := "") (Or.inl (hw _ (List.mem_of_getElem? (i := 26) rfl))) Via.refl e1 F_m E_a1 (Or.inl (hw _ (List.mem_of_getElem? (i := 27) rfl))) (hw _ (List.mem_of_getElem? (i := 6) rfl)) (ty := .int) (by decide) rfl rfl (g := (mkF m 6 #[.val (.ref a1)] [(.int (0 : Int32)), (.ref a1)])) rfl rfl (hb hby d2_6)
  have Fw2 := F_m.same W2
  have Zs2 : n0 ≤ h2.size := Nat.le_trans Z0 (Keep.of_wr W2).1
  obtain ⟨lc2, X2, N2⟩ := own_loc X2 (Fr.snoc X2 N1 gn_a1)
  have Fa3 : Exa Z h2 a1 "java/util/ArrayList" := E_a1.wr W2
  have Fa4 : Fld Z h2 a1 "java/util/ArrayList" "elementData" "[Ljava/lang/Object;" .null := F_e.other W2 (Or.inr (slot_ne (Or.inl (hw _ (List.mem_of_getElem? (i := 30) rfl))) (Or.inl (hw _ (List.mem_of_getElem? (i := 27) rfl))) (by decide) (t := (.array (.object "java/lang/Object"))) (t' := .int) (by decide) (by decide)))
  have Ke2 : Keep h0 h2 [a1] := (Keep.refl h0 [a1]).wr W2 (Or.inl (List.mem_of_getElem? (i := 0) rfl))
  refine own_st (T' := T2) (g' := (mkF m 9 #[.val (.ref a1)] [])) (fun _ k => (st2) _ k) ?_
  exact own_end (Q := Q2 Z a1  h0 n0) (v := none) X2 (fun _ => rfl) (fun fs hr => X2.returnOut hx Bd.returns (hb hby d2_9) hr) (by rw [e2]; exact ⟨rfl, N2, Ke2, Fa3, Fa4⟩) (by decide) (by decide)
theorem d1_0 : decode jdk_38_method_2_code 0 = .ok (.aload_n 0, 1) := by decide +kernel
theorem d1_1 : decode jdk_38_method_2_code 1 = .ok (.invokespecial 1, 3) := by decide +kernel
theorem d1_4 : decode jdk_38_method_2_code 4 = .ok (.aload_n 0, 1) := by decide +kernel
theorem d1_5 : decode jdk_38_method_2_code 5 = .ok (.getstatic 39, 3) := by decide +kernel
theorem d1_8 : decode jdk_38_method_2_code 8 = .ok (.putfield 9, 3) := by decide +kernel
theorem d1_11 : decode jdk_38_method_2_code 11 = .ok (.return_, 1) := by decide +kernel
theorem own_pn1 : plainName "java/util/ArrayList" = true := by first | (simp [plainName, overriddenIn]; done) | decide +kernel
theorem own_pd1_0 : parseMethodDescriptor "()V" = some ⟨[], none⟩ := by decide +kernel
theorem own_ef1 (m : MethodId) (x0 : Addr) : entryFrame m #[(.ref x0)] 1 = mkF m 0 #[.val (.ref x0)] [] := by first | (simp [entryFrame, mkF, argsToLocals, Value.category]; done) | rfl
def Q1 (Z : State) (a1 : Addr) (ed : Addr) (h0 : Heap) (n0 : Nat) (v : Option Value) (h : Heap) (L : List Loc) : Prop := v = none ∧ Fr n0 L ∧ Keep h0 h [a1] ∧ Exa Z h a1 "java/util/ArrayList"
set_option maxRecDepth 65536 in
set_option maxHeartbeats 40000000 in
theorem rm1 (l : Launch) (Z : State) (a0 : Array Value) (hw : ∀ d ∈ tables_1, d.before a0 Z = true) (ws : List Jvm.Cond) (a1 : Addr) (ed : Addr) (h0 : Heap) (n0 : Nat) (Z0 : n0 ≤ h0.size) (E_a1 : Exa Z h0 a1 "java/util/ArrayList") (F_m : Fld Z h0 a1 "java/util/AbstractList" "modCount" "I" (.int (0 : Int32))) (F_e : Fld Z h0 a1 "java/util/ArrayList" "elementData" "[Ljava/lang/Object;" .null) (S_d : Sta Z h0 "java/util/ArrayList" "DEFAULTCAPACITY_EMPTY_ELEMENTDATA" "[Ljava/lang/Object;" (.ref ed)) (gn_a1 : n0 ≤ a1)  :
    MetFree l (⟨"java/util/ArrayList", "<init>", "()V"⟩ : MethodName) (head1 (Jvm.Cond.code (⟨"java/util/ArrayList", "<init>", "()V"⟩ : MethodName) jdk_38_method_2_code 1 none :: ws) ({ frames := 3, cells := 0, slots := 0, locals := 36 } : Room)) (fun a U => a = #[(.ref a1)] ∧ Z.Warmed39 U.vm ∧ U.heap = h0) (fun _ _ _ _ _ => True) (fun _ U o U' => ∃ v L, o = .returned v ∧ Q1 Z a1 ed h0 n0 v U'.heap L ∧ FrameEnd U o U' L ({ frames := 3, cells := 0, slots := 0, locals := 36 } : Room).cells ({ frames := 3, cells := 0, slots := 0, locals := 36 } : Room).slots) := by
  refine MetFree.of_bodySF (plainFor_of_name own_pn1) hisR ?_
  intro p e s m args below meth c s₁ Bd hml0 hP hK
  obtain ⟨rfl, hZ, hh⟩ := hP
  have hx := Bd.exec
  have hby := Bd.bytes
  have hml : c.maxLocals = 1 := hml0
  have hown : s.vm.findClass "java/util/ArrayList" = some m.cls := findClass_of_methodNamed Bd.named
  have hnm := (name_of_methodNamed Bd.named Bd.method).1
  have hlk := Bd.notSynchronized
  have X0 : Stand p l e ({ frames := 3, cells := 0, slots := 0, locals := 36 } : Room) s m #[(.ref a1)] below meth c s₁ [] 0 0 := Stand.of_body Bd
  have e0 : s₁.heap = h0 := by rw [← hh, Bd.state]; rfl
  have N0 := Fr.nil n0
  show own_Goes p e below (fun o U' => ∃ v L, o = .returned v ∧ Q1 Z a1 ed h0 n0 v U'.heap L ∧ FrameEnd s o U' L ({ frames := 3, cells := 0, slots := 0, locals := 36 } : Room).cells ({ frames := 3, cells := 0, slots := 0, locals := 36 } : Room).slots) s₁ (entryFrame m #[(.ref a1)] 1)
  refine own_st (T' := s₁) (g' := mkF m 0 #[.val (.ref a1)] []) (fun _ k => castTop (own_ef1 m a1) k) ?_
  refine own_st (T' := s₁) (g' := (mkF m 1 #[.val (.ref a1)] [(.ref a1)])) (fun _ k => Jvm.Free.XS.aloadN (g := (mkF m 0 #[.val (.ref a1)] [])) X0.here hx rfl (hb hby d1_0) rfl rfl k) ?_
  obtain ⟨v1, T1, L1, X1, hQ1, st1⟩ := own_packV (X0.specialBack hx (y := (⟨"java/util/AbstractList", "<init>", "()V"⟩ : MethodName)) rfl hown (mvT hZ (hw _ (List.mem_of_getElem? (i := 11) rfl))) (mvT hZ (hw _ (List.mem_of_getElem? (i := 12) rfl))) (mvT hZ (hw _ (List.mem_of_getElem? (i := 16) rfl))) (by decide) (backOf (W := 0) (rm2 l Z a0 hw [] a1 h0 n0 Z0 E_a1 F_m F_e gn_a1) hZ (hw _ (List.mem_of_getElem? (i := 16) rfl)) (hw _ (List.mem_of_getElem? (i := 15) rfl)) (by decide) (by decide)) (g := (mkF m 1 #[.val (.ref a1)] [(.ref a1)])) rfl (by rw [hml]; rfl) (Steps.refl _) (a := a1) (argsL := []) (rest := []) (lenOf own_pd1_0 rfl) rfl (by show 2 * 0 + _ ≤ _; exact Nat.le_of_eq rfl) (hb hby d1_1) (fun _ _ => ⟨rfl, e0, (by decide : 0 + 0 ≤ _), (by decide : 0 + 0 ≤ _)⟩))
  obtain ⟨rfl, N1q, Kq1, Fq1_0, Fq1_1⟩ := hQ1
  obtain ⟨lc1, X1, N1⟩ := own_loc X1 (Fr.app N0 N1q)
  have Zs1 : n0 ≤ T1.heap.size := Nat.le_trans Z0 Kq1.1
  have Fa2 : Sta Z T1.heap "java/util/ArrayList" "DEFAULTCAPACITY_EMPTY_ELEMENTDATA" "[Ljava/lang/Object;" (.ref ed) := own_sta_keep S_d Kq1 (nsS E_a1.nostat ns0)
  have Ke1 : Keep h0 T1.heap [a1] := (Keep.refl h0 [a1]).trans Kq1 (allS (Or.inl (List.mem_of_getElem? (i := 0) rfl)) all0)
  refine own_st (T' := T1) (g' := (mkF m 4 #[.val (.ref a1)] [])) (fun _ k => (st1) _ k) ?_
  refine own_st (T' := T1) (g' := (mkF m 5 #[.val (.ref a1)] [(.ref a1)])) (fun _ k => Jvm.Free.XS.aloadN (g := (mkF m 4 #[.val (.ref a1)] [])) X1.here hx rfl (hb hby d1_4) rfl rfl k) ?_
  obtain ⟨T3, X3, e3, st3⟩ := getS2 X1 hx hZ hown (host := "") (Or.inl (hw _ (List.mem_of_getElem? (i := 28) rfl))) Via.refl rfl Fa2 (g := (mkF m 5 #[.val (.ref a1)] [(.ref a1)])) rfl (hb hby d1_5)
  refine own_st (T' := T3) (g' := (mkF m 8 #[.val (.ref a1)] [(.ref ed), (.ref a1)])) (fun _ k => (st3) _ k) ?_
  obtain ⟨T4, h4, X4, e4, W4, st4⟩ := putF X3 hx hZ hown (host := "") (Or.inl (hw _ (List.mem_of_getElem? (i := 29) rfl))) Via.refl e3 Fq1_1 Fq1_0 (Or.inl (hw _ (List.mem_of_getElem? (i := 30) rfl))) (hw _ (List.mem_of_getElem? (i := 6) rfl)) (ty := (.array (.object "java/lang/Object"))) (by decide) rfl rfl (g := (mkF m 8 #[.val (.ref a1)] [(.ref ed), (.ref a1)])) rfl rfl (hb hby d1_8)
  have Fw4 := Fq1_1.same W4
  have Zs4 : n0 ≤ h4.size := Nat.le_trans Zs1 (Keep.of_wr W4).1
  obtain ⟨lc4, X4, N4⟩ := own_loc X4 (Fr.snoc X4 N1 gn_a1)
  have Fa5 : Sta Z h4 "java/util/ArrayList" "DEFAULTCAPACITY_EMPTY_ELEMENTDATA" "[Ljava/lang/Object;" (.ref ed) := Fa2.wr W4
  have Fa6 : Exa Z h4 a1 "java/util/ArrayList" := Fq1_0.wr W4
  have Ke4 : Keep h0 h4 [a1] := Ke1.wr W4 (Or.inl (List.mem_of_getElem? (i := 0) rfl))
  refine own_st (T' := T4) (g' := (mkF m 11 #[.val (.ref a1)] [])) (fun _ k => (st4) _ k) ?_
  exact own_end (Q := Q1 Z a1 ed h0 n0) (v := none) X4 (fun _ => rfl) (fun fs hr => X4.returnOut hx Bd.returns (hb hby d1_11) hr) (by rw [e4]; exact ⟨rfl, N4, Ke4, Fa6⟩) (by decide) (by decide)
theorem d5_0 : decode prog_144_method_1_code 0 = .ok (.aload_n 0, 1) := by decide +kernel
theorem d5_1 : decode prog_144_method_1_code 1 = .ok (.invokespecial 1, 3) := by decide +kernel
theorem d5_4 : decode prog_144_method_1_code 4 = .ok (.aload_n 0, 1) := by decide +kernel
theorem d5_5 : decode prog_144_method_1_code 5 = .ok (.getstatic 7, 3) := by decide +kernel
theorem d5_8 : decode prog_144_method_1_code 8 = .ok (.putfield 13, 3) := by decide +kernel
theorem d5_11 : decode prog_144_method_1_code 11 = .ok (.return_, 1) := by decide +kernel
theorem own_pn5 : plainName "com/example/hollow_tree/hollowtree/query/IdentityTable" = true := by first | (simp [plainName, overriddenIn]; done) | decide +kernel
theorem own_ef5 (m : MethodId) (x0 : Addr) : entryFrame m #[(.ref x0)] 1 = mkF m 0 #[.val (.ref x0)] [] := by first | (simp [entryFrame, mkF, argsToLocals, Value.category]; done) | rfl
def Q5 (Z : State) (a1 : Addr) (no : Addr) (h0 : Heap) (n0 : Nat) (v : Option Value) (h : Heap) (L : List Loc) : Prop := v = none ∧ Fr n0 L ∧ Keep h0 h [a1] ∧ Exa Z h a1 "com/example/hollow_tree/hollowtree/query/IdentityTable" ∧ Fld Z h a1 "com/example/hollow_tree/hollowtree/query/IdentityTable" "entries" "[Ljava/lang/Object;" (.ref no) ∧ Fld Z h a1 "com/example/hollow_tree/hollowtree/query/IdentityTable" "size" "I" (.int (0 : Int32))
set_option maxRecDepth 65536 in
set_option maxHeartbeats 40000000 in
theorem rm5 (l : Launch) (Z : State) (a0 : Array Value) (hw : ∀ d ∈ tables_1, d.before a0 Z = true) (ws : List Jvm.Cond) (a1 : Addr) (no : Addr) (h0 : Heap) (n0 : Nat) (Z0 : n0 ≤ h0.size) (E_a1 : Exa Z h0 a1 "com/example/hollow_tree/hollowtree/query/IdentityTable") (F_e : Fld Z h0 a1 "com/example/hollow_tree/hollowtree/query/IdentityTable" "entries" "[Ljava/lang/Object;" .null) (F_s : Fld Z h0 a1 "com/example/hollow_tree/hollowtree/query/IdentityTable" "size" "I" (.int (0 : Int32))) (S_n : Sta Z h0 "com/example/hollow_tree/hollowtree/query/IdentityTable" "NONE" "[Ljava/lang/Object;" (.ref no)) (gn_a1 : n0 ≤ a1)  :
    MetFree l (⟨"com/example/hollow_tree/hollowtree/query/IdentityTable", "<init>", "()V"⟩ : MethodName) (head1 (Jvm.Cond.code (⟨"com/example/hollow_tree/hollowtree/query/IdentityTable", "<init>", "()V"⟩ : MethodName) prog_144_method_1_code 1 none :: ws) ({ frames := 1, cells := 0, slots := 0, locals := 12 } : Room)) (fun a U => a = #[(.ref a1)] ∧ Z.Warmed39 U.vm ∧ U.heap = h0) (fun _ _ _ _ _ => True) (fun _ U o U' => ∃ v L, o = .returned v ∧ Q5 Z a1 no h0 n0 v U'.heap L ∧ FrameEnd U o U' L ({ frames := 1, cells := 0, slots := 0, locals := 12 } : Room).cells ({ frames := 1, cells := 0, slots := 0, locals := 12 } : Room).slots) := by
  refine MetFree.of_bodySF (plainFor_of_name own_pn5) hisR ?_
  intro p e s m args below meth c s₁ Bd hml0 hP hK
  obtain ⟨rfl, hZ, hh⟩ := hP
  have hx := Bd.exec
  have hby := Bd.bytes
  have hml : c.maxLocals = 1 := hml0
  have hown : s.vm.findClass "com/example/hollow_tree/hollowtree/query/IdentityTable" = some m.cls := findClass_of_methodNamed Bd.named
  have hnm := (name_of_methodNamed Bd.named Bd.method).1
  have hlk := Bd.notSynchronized
  have X0 : Stand p l e ({ frames := 1, cells := 0, slots := 0, locals := 12 } : Room) s m #[(.ref a1)] below meth c s₁ [] 0 0 := Stand.of_body Bd
  have e0 : s₁.heap = h0 := by rw [← hh, Bd.state]; rfl
  have N0 := Fr.nil n0
  show own_Goes p e below (fun o U' => ∃ v L, o = .returned v ∧ Q5 Z a1 no h0 n0 v U'.heap L ∧ FrameEnd s o U' L ({ frames := 1, cells := 0, slots := 0, locals := 12 } : Room).cells ({ frames := 1, cells := 0, slots := 0, locals := 12 } : Room).slots) s₁ (entryFrame m #[(.ref a1)] 1)
  refine own_st (T' := s₁) (g' := mkF m 0 #[.val (.ref a1)] []) (fun _ k => castTop (own_ef5 m a1) k) ?_
  refine own_st (T' := s₁) (g' := (mkF m 1 #[.val (.ref a1)] [(.ref a1)])) (fun _ k => Jvm.Free.XS.aloadN (g := (mkF m 0 #[.val (.ref a1)] [])) X0.here hx rfl (hb hby d5_0) rfl rfl k) ?_
  obtain ⟨T1, X1, e1, st1⟩ := initO X0 hx hZ hown (hw _ (List.mem_of_getElem? (i := 40) rfl)) (hw _ (List.mem_of_getElem? (i := 24) rfl)) (hw _ (List.mem_of_getElem? (i := 25) rfl)) e0 (g := (mkF m 1 #[.val (.ref a1)] [(.ref a1)])) rfl (by rw [hml]; rfl) rfl (hb hby d5_1) (by decide) (W := 0) (by show 2 * 0 + _ ≤ _; exact Nat.le_of_eq rfl) (by decide)
  refine own_st (T' := T1) (g' := (mkF m 4 #[.val (.ref a1)] [])) (fun _ k => (st1) _ k) ?_
  refine own_st (T' := T1) (g' := (mkF m 5 #[.val (.ref a1)] [(.ref a1)])) (fun _ k => Jvm.Free.XS.aloadN (g := (mkF m 4 #[.val (.ref a1)] [])) X1.here hx rfl (hb hby d5_4) rfl rfl k) ?_
  obtain ⟨T2, X2, e2, st2⟩ := getS2 X1 hx hZ hown (host := "") (Or.inl (hw _ (List.mem_of_getElem? (i := 41) rfl))) Via.refl e1 S_n (g := (mkF m 5 #[.val (.ref a1)] [(.ref a1)])) rfl (hb hby d5_5)
  refine own_st (T' := T2) (g' := (mkF m 8 #[.val (.ref a1)] [(.ref no), (.ref a1)])) (fun _ k => (st2) _ k) ?_
  obtain ⟨T3, h3, X3, e3, W3, st3⟩ := putF X2 hx hZ hown (host := "") (Or.inl (hw _ (List.mem_of_getElem? (i := 43) rfl))) Via.refl e2 F_e E_a1 (Or.inl (hw _ (List.mem_of_getElem? (i := 44) rfl))) (hw _ (List.mem_of_getElem? (i := 35) rfl)) (ty := (.array (.object "java/lang/Object"))) (by decide) rfl rfl (g := (mkF m 8 #[.val (.ref a1)] [(.ref no), (.ref a1)])) rfl rfl (hb hby d5_8)
  have Fw3 := F_e.same W3
  have Zs3 : n0 ≤ h3.size := Nat.le_trans Z0 (Keep.of_wr W3).1
  obtain ⟨lc3, X3, N3⟩ := own_loc X3 (Fr.snoc X3 N0 gn_a1)
  have Fa4 : Exa Z h3 a1 "com/example/hollow_tree/hollowtree/query/IdentityTable" := E_a1.wr W3
  have Fa5 : Fld Z h3 a1 "com/example/hollow_tree/hollowtree/query/IdentityTable" "size" "I" (.int (0 : Int32)) := F_s.other W3 (Or.inr (slot_ne (Or.inl (hw _ (List.mem_of_getElem? (i := 51) rfl))) (Or.inl (hw _ (List.mem_of_getElem? (i := 44) rfl))) (by decide) (t := .int) (t' := (.array (.object "java/lang/Object"))) (by decide) (by decide)))
  have Fa6 : Sta Z h3 "com/example/hollow_tree/hollowtree/query/IdentityTable" "NONE" "[Ljava/lang/Object;" (.ref no) := S_n.wr W3
  have Ke3 : Keep h0 h3 [a1] := (Keep.refl h0 [a1]).wr W3 (Or.inl (List.mem_of_getElem? (i := 0) rfl))
  refine own_st (T' := T3) (g' := (mkF m 11 #[.val (.ref a1)] [])) (fun _ k => (st3) _ k) ?_
  exact own_end (Q := Q5 Z a1 no h0 n0) (v := none) X3 (fun _ => rfl) (fun fs hr => X3.returnOut hx Bd.returns (hb hby d5_11) hr) (by rw [e3]; exact ⟨rfl, N3, Ke3, Fa4, Fw3, Fa5⟩) (by decide) (by decide)
theorem own_min (M p2 : Int32) (h : ¬ p2 < M) : own_f12_0 M p2 = M := (if_neg h).trans rfl
theorem d11_0 : decode jdk_65_method_120_code 0 = .ok (.aload_n 2, 1) := by decide +kernel
theorem d11_1 : decode jdk_65_method_120_code 1 = .ok (.ldc 110, 2) := by decide +kernel
theorem d11_3 : decode jdk_65_method_120_code 3 = .ok (.if_acmp .ne 10, 3) := by decide +kernel
theorem d11_6 : decode jdk_65_method_120_code 6 = .ok (.iload_n 1, 1) := by decide +kernel
theorem d11_7 : decode jdk_65_method_120_code 7 = .ok (.anewarray 2, 3) := by decide +kernel
theorem d11_10 : decode jdk_65_method_120_code 10 = .ok (.goto 14, 3) := by decide +kernel
theorem d11_24 : decode jdk_65_method_120_code 24 = .ok (.astore_n 3, 1) := by decide +kernel
theorem d11_25 : decode jdk_65_method_120_code 25 = .ok (.aload_n 0, 1) := by decide +kernel
theorem d11_26 : decode jdk_65_method_120_code 26 = .ok (.iconst 0, 1) := by decide +kernel
theorem d11_27 : decode jdk_65_method_120_code 27 = .ok (.aload_n 3, 1) := by decide +kernel
theorem d11_28 : decode jdk_65_method_120_code 28 = .ok (.iconst 0, 1) := by decide +kernel
theorem d11_29 : decode jdk_65_method_120_code 29 = .ok (.aload_n 0, 1) := by decide +kernel
theorem d11_30 : decode jdk_65_method_120_code 30 = .ok (.arraylength, 1) := by decide +kernel
theorem d11_31 : decode jdk_65_method_120_code 31 = .ok (.iload_n 1, 1) := by decide +kernel
theorem d11_32 : decode jdk_65_method_120_code 32 = .ok (.invokestatic 304, 3) := by decide +kernel
theorem d11_35 : decode jdk_65_method_120_code 35 = .ok (.invokestatic 150, 3) := by decide +kernel
theorem d11_38 : decode jdk_65_method_120_code 38 = .ok (.aload_n 3, 1) := by decide +kernel
theorem d11_39 : decode jdk_65_method_120_code 39 = .ok (.areturn, 1) := by decide +kernel
theorem own_pn11 : plainName "java/util/Arrays" = true := by first | (simp [plainName, overriddenIn]; done) | decide +kernel
theorem own_pd11_0 : parseMethodDescriptor "(II)I" = some ⟨[.int, .int], some .int⟩ := by decide +kernel
theorem own_ef11 (m : MethodId) (x0 : Addr) (x1 : Int32) (x2 : Addr) : entryFrame m #[(.ref x0), (.int x1), (.ref x2)] 4 = mkF m 0 #[.val (.ref x0), .val (.int x1), .val (.ref x2), .unset] [] := by first | (simp [entryFrame, mkF, argsToLocals, Value.category]; done) | rfl
def Q11 (Z : State) (a1 : Addr) (p2 : Int32) (mr : Addr) (M : Int32) (ka : ClassId) (Lx : List Value) (h0 : Heap) (n0 : Nat) (v : Option Value) (h : Heap) (L : List Loc) : Prop := ∃ (t : Addr) (kt : ClassId), v = some (.ref t) ∧ Fr n0 L ∧ Ext h0 h ∧ h0.size ≤ t ∧ Arv Z h t kt (.object "java/lang/Object") p2 (Lx ++ List.replicate (p2.toNatClampNeg - M.toNatClampNeg) .null) .null ∧ Exa Z h t "[Ljava/lang/Object;" ∧ Ovr Z kt "java/lang/Object"
set_option maxRecDepth 65536 in
set_option maxHeartbeats 40000000 in
theorem rm11 (l : Launch) (Z : State) (a0 : Array Value) (hw : ∀ d ∈ tables_1, d.before a0 Z = true) (ws : List Jvm.Cond) (a1 : Addr) (p2 : Int32) (mr : Addr) (M : Int32) (ka : ClassId) (Lx : List Value) (h0 : Heap) (n0 : Nat) (Z0 : n0 ≤ h0.size) (V_a1 : Arv Z h0 a1 ka (.object "java/lang/Object") M Lx .null)  (Mm : own_Mm Z "[Ljava/lang/Object;" mr) (hL : ∀ v ∈ Lx, own_O Z h0 v) (hlen : Lx.length = M.toNatClampNeg) (hM0 : ¬ M < 0) (hN0 : ¬ p2 < 0) (hN8 : p2.toNatClampNeg ≤ 8) (hMN : M.toNatClampNeg ≤ p2.toNatClampNeg) (hlt : ¬ p2 < M) :
    MetFree l (⟨"java/util/Arrays", "copyOf", "([Ljava/lang/Object;ILjava/lang/Class;)[Ljava/lang/Object;"⟩ : MethodName) (head1 (Jvm.Cond.code (⟨"java/util/Arrays", "copyOf", "([Ljava/lang/Object;ILjava/lang/Class;)[Ljava/lang/Object;"⟩ : MethodName) jdk_65_method_120_code 4 (some (.array (.object "java/lang/Object"))) :: ws) ({ frames := 1, cells := 1, slots := 8, locals := 40 } : Room)) (fun a U => a = #[(.ref a1), (.int p2), (.ref mr)] ∧ Z.Warmed39 U.vm ∧ U.heap = h0) (fun _ _ _ _ _ => True) (fun _ U o U' => ∃ v L, o = .returned v ∧ Q11 Z a1 p2 mr M ka Lx h0 n0 v U'.heap L ∧ FrameEnd U o U' L ({ frames := 1, cells := 1, slots := 8, locals := 40 } : Room).cells ({ frames := 1, cells := 1, slots := 8, locals := 40 } : Room).slots) := by
  refine MetFree.of_bodySF (plainFor_of_name own_pn11) hisR ?_
  intro p e s m args below meth c s₁ Bd hml0 hP hK
  obtain ⟨rfl, hZ, hh⟩ := hP
  have hx := Bd.exec
  have hby := Bd.bytes
  have hml : c.maxLocals = 4 := hml0
  have hown : s.vm.findClass "java/util/Arrays" = some m.cls := findClass_of_methodNamed Bd.named
  have hnm := (name_of_methodNamed Bd.named Bd.method).1
  have hlk := Bd.notSynchronized
  have X0 : Stand p l e ({ frames := 1, cells := 1, slots := 8, locals := 40 } : Room) s m #[(.ref a1), (.int p2), (.ref mr)] below meth c s₁ [] 0 0 := Stand.of_body Bd
  have e0 : s₁.heap = h0 := by rw [← hh, Bd.state]; rfl
  have N0 := Fr.nil n0
  show own_Goes p e below (fun o U' => ∃ v L, o = .returned v ∧ Q11 Z a1 p2 mr M ka Lx h0 n0 v U'.heap L ∧ FrameEnd s o U' L ({ frames := 1, cells := 1, slots := 8, locals := 40 } : Room).cells ({ frames := 1, cells := 1, slots := 8, locals := 40 } : Room).slots) s₁ (entryFrame m #[(.ref a1), (.int p2), (.ref mr)] 4)
  refine own_st (T' := s₁) (g' := mkF m 0 #[.val (.ref a1), .val (.int p2), .val (.ref mr), .unset] []) (fun _ k => castTop (own_ef11 m a1 p2 mr) k) ?_
  refine own_st (T' := s₁) (g' := (mkF m 1 #[.val (.ref a1), .val (.int p2), .val (.ref mr), .unset] [(.ref mr)])) (fun _ k => Jvm.Free.XS.aloadN (g := (mkF m 0 #[.val (.ref a1), .val (.int p2), .val (.ref mr), .unset] [])) X0.here hx rfl (hb hby d11_0) rfl rfl k) ?_
  obtain ⟨T1, X1, e1, st1⟩ := own_ldcM X0 hx hZ hown (hw _ (List.mem_of_getElem? (i := 78) rfl)) e0 Mm (g := (mkF m 1 #[.val (.ref a1), .val (.int p2), .val (.ref mr), .unset] [(.ref mr)])) rfl (hb hby d11_1)
  refine own_st (T' := T1) (g' := (mkF m 3 #[.val (.ref a1), .val (.int p2), .val (.ref mr), .unset] [(.ref mr), (.ref mr)])) (fun _ k => (st1) _ k) ?_
  have ac3 := fun t => Jvm.RoadKit.acmp (target := t) (e := e) (g := (mkF m 3 #[.val (.ref a1), .val (.int p2), .val (.ref mr), .unset] [(.ref mr), (.ref mr)])) X1 hx rfl rfl rfl (pc0 := 3) (pc' := 6) (same := true) rfl (hb hby d11_3) rfl (decide_eq_true (congrArg Value.ref rfl)) (by decide) (by decide)
  refine own_st (T' := T1) (g' := (mkF m 6 #[.val (.ref a1), .val (.int p2), .val (.ref mr), .unset] [])) (fun _ k => (ac3) _ k) ?_
  refine own_st (T' := T1) (g' := (mkF m 7 #[.val (.ref a1), .val (.int p2), .val (.ref mr), .unset] [(.int p2)])) (fun _ k => Jvm.Free.XS.iloadN (g := (mkF m 6 #[.val (.ref a1), .val (.int p2), .val (.ref mr), .unset] [])) X1.here hx rfl (hb hby d11_6) rfl k) ?_
  obtain ⟨T2, h2, k2, X2, e2, E2, A2, Ex2, O2, st2⟩ := newRE X1 hx hZ hown (hw _ (List.mem_of_getElem? (i := 79) rfl)) (hw _ (List.mem_of_getElem? (i := 32) rfl)) e1 (g := (mkF m 7 #[.val (.ref a1), .val (.int p2), .val (.ref mr), .unset] [(.int p2)])) rfl (hb hby d11_7) rfl hN0 (cap := 8) hN8 (by decide) (by decide) (by decide) (ad := "[Ljava/lang/Object;") (by decide)
  obtain ⟨b2, g2⟩ : ∃ z, z = h0.size := ⟨_, rfl⟩
  rw [← g2] at A2 st2 Ex2
  have ne_a1_b2 : a1 ≠ b2 := Nat.ne_of_lt (Nat.lt_of_lt_of_le V_a1.lt (Nat.le_of_eq g2.symm))
  have gn_b2 : n0 ≤ b2 := Nat.le_trans Z0 (Nat.le_of_eq g2.symm)
  have sz_b2 : h0.size ≤ b2 := Nat.le_trans (Keep.refl h0 []).1 (Nat.le_of_eq g2.symm)
  have Zs2 : n0 ≤ h2.size := Nat.le_trans Z0 E2.1
  have Fa3 : Arv Z h2 a1 ka (.object "java/lang/Object") M Lx .null := V_a1.ext E2
  have Ke2 : Keep h0 h2 [] := (Keep.refl h0 []).ext E2
  have Ep2 : Ext h0 h2 := own_ext_trans (own_ext_refl h0) E2
  have V2 : Arv Z h2 b2 k2 (.object "java/lang/Object") p2 [] .null := Arv.new A2 hN0
  refine own_st (T' := T2) (g' := (mkF m 10 #[.val (.ref a1), .val (.int p2), .val (.ref mr), .unset] [(.ref b2)])) (fun _ k => (st2) _ k) ?_
  refine own_st (T' := T2) (g' := (mkF m 24 #[.val (.ref a1), .val (.int p2), .val (.ref mr), .unset] [(.ref b2)])) (fun _ k => XS.goto (g := (mkF m 10 #[.val (.ref a1), .val (.int p2), .val (.ref mr), .unset] [(.ref b2)])) X2.here hx rfl (pc0 := 10) (pc' := 24) rfl (hb hby d11_10) (by decide) (by decide) k) ?_
  refine own_st (T' := T2) (g' := (mkF m 25 #[.val (.ref a1), .val (.int p2), .val (.ref mr), .val (.ref b2)] [])) (fun _ k => Jvm.Free.XS.astoreN (g := (mkF m 24 #[.val (.ref a1), .val (.int p2), .val (.ref mr), .unset] [(.ref b2)])) X2.here hx rfl (hb hby d11_24) rfl rfl (l' := #[.val (.ref a1), .val (.int p2), .val (.ref mr), .val (.ref b2)]) rfl k) ?_
  refine own_st (T' := T2) (g' := (mkF m 26 #[.val (.ref a1), .val (.int p2), .val (.ref mr), .val (.ref b2)] [(.ref a1)])) (fun _ k => Jvm.Free.XS.aloadN (g := (mkF m 25 #[.val (.ref a1), .val (.int p2), .val (.ref mr), .val (.ref b2)] [])) X2.here hx rfl (hb hby d11_25) rfl rfl k) ?_
  refine own_st (T' := T2) (g' := (mkF m 27 #[.val (.ref a1), .val (.int p2), .val (.ref mr), .val (.ref b2)] [(.int (0 : Int32)), (.ref a1)])) (fun _ k => XS.iconst (g := (mkF m 26 #[.val (.ref a1), .val (.int p2), .val (.ref mr), .val (.ref b2)] [(.ref a1)])) X2.here hx rfl (hb hby d11_26) k) ?_
  refine own_st (T' := T2) (g' := (mkF m 28 #[.val (.ref a1), .val (.int p2), .val (.ref mr), .val (.ref b2)] [(.ref b2), (.int (0 : Int32)), (.ref a1)])) (fun _ k => Jvm.Free.XS.aloadN (g := (mkF m 27 #[.val (.ref a1), .val (.int p2), .val (.ref mr), .val (.ref b2)] [(.int (0 : Int32)), (.ref a1)])) X2.here hx rfl (hb hby d11_27) rfl rfl k) ?_
  refine own_st (T' := T2) (g' := (mkF m 29 #[.val (.ref a1), .val (.int p2), .val (.ref mr), .val (.ref b2)] [(.int (0 : Int32)), (.ref b2), (.int (0 : Int32)), (.ref a1)])) (fun _ k => XS.iconst (g := (mkF m 28 #[.val (.ref a1), .val (.int p2), .val (.ref mr), .val (.ref b2)] [(.ref b2), (.int (0 : Int32)), (.ref a1)])) X2.here hx rfl (hb hby d11_28) k) ?_
  refine own_st (T' := T2) (g' := (mkF m 30 #[.val (.ref a1), .val (.int p2), .val (.ref mr), .val (.ref b2)] [(.ref a1), (.int (0 : Int32)), (.ref b2), (.int (0 : Int32)), (.ref a1)])) (fun _ k => Jvm.Free.XS.aloadN (g := (mkF m 29 #[.val (.ref a1), .val (.int p2), .val (.ref mr), .val (.ref b2)] [(.int (0 : Int32)), (.ref b2), (.int (0 : Int32)), (.ref a1)])) X2.here hx rfl (hb hby d11_29) rfl rfl k) ?_
  obtain ⟨cl4, Ar4, -, Sz4, Nn4, -, -⟩ := id Fa3
  have al4 := X2.arraylength hx (by rw [e2]; exact Ar4.1) (State.isArrayOf_alike hZ.alike Ar4.2.1) (g := (mkF m 30 #[.val (.ref a1), .val (.int p2), .val (.ref mr), .val (.ref b2)] [(.ref a1), (.int (0 : Int32)), (.ref b2), (.int (0 : Int32)), (.ref a1)])) rfl rfl (hb hby d11_30)
  rw [len_of Sz4 Nn4] at al4
  refine own_st (T' := T2) (g' := (mkF m 31 #[.val (.ref a1), .val (.int p2), .val (.ref mr), .val (.ref b2)] [(.int M), (.int (0 : Int32)), (.ref b2), (.int (0 : Int32)), (.ref a1)])) (fun _ k => (al4) _ k) ?_
  refine own_st (T' := T2) (g' := (mkF m 32 #[.val (.ref a1), .val (.int p2), .val (.ref mr), .val (.ref b2)] [(.int p2), (.int M), (.int (0 : Int32)), (.ref b2), (.int (0 : Int32)), (.ref a1)])) (fun _ k => Jvm.Free.XS.iloadN (g := (mkF m 31 #[.val (.ref a1), .val (.int p2), .val (.ref mr), .val (.ref b2)] [(.int M), (.int (0 : Int32)), (.ref b2), (.int (0 : Int32)), (.ref a1)])) X2.here hx rfl (hb hby d11_31) rfl k) ?_
  obtain ⟨v5, T5, L5, X5, hQ5, st5⟩ := own_packS (Jvm.LawKit.callS X2 hx (y := (⟨"java/lang/Math", "min", "(II)I"⟩ : MethodName)) hown (mvT hZ (hw _ (List.mem_of_getElem? (i := 80) rfl))) (mvT hZ (hw _ (List.mem_of_getElem? (i := 81) rfl))) (mvT hZ (hw _ (List.mem_of_getElem? (i := 63) rfl))) (mvT hZ (hw _ (List.mem_of_getElem? (i := 82) rfl))) (by decide) (backOf (W := 4) (rm12 l Z a0 hw [] M p2 h2 n0 Zs2 ) hZ (hw _ (List.mem_of_getElem? (i := 82) rfl)) (hw _ (List.mem_of_getElem? (i := 63) rfl)) (by decide) (by decide)) (g := (mkF m 32 #[.val (.ref a1), .val (.int p2), .val (.ref mr), .val (.ref b2)] [(.int p2), (.int M), (.int (0 : Int32)), (.ref b2), (.int (0 : Int32)), (.ref a1)])) rfl (by rw [hml]; rfl) (argsL := [(.int M), (.int p2)]) (rest := [(.int (0 : Int32)), (.ref b2), (.int (0 : Int32)), (.ref a1)]) (lenOf own_pd11_0 rfl) rfl (by show 2 * 0 + _ ≤ _; exact Nat.le_of_eq rfl) (hb hby d11_32) (fun _ _ => ⟨rfl, e2, (by decide : 1 + 0 ≤ _), (by decide : 8 + 0 ≤ _)⟩))
  obtain ⟨hv5, N5q, e5⟩ := hQ5
  rw [show own_f12_0 M p2 = M from own_min M p2 hlt] at hv5
  subst hv5
  obtain ⟨lc5, X5, N5⟩ := own_loc X5 (Fr.app N0 N5q)
  refine own_st (T' := T5) (g' := (mkF m 35 #[.val (.ref a1), .val (.int p2), .val (.ref mr), .val (.ref b2)] [(.int M), (.int (0 : Int32)), (.ref b2), (.int (0 : Int32)), (.ref a1)])) (fun _ k => (st5) _ k) ?_
  have VP6 : Arv Z h2 b2 k2 (.object "java/lang/Object") p2 (List.replicate p2.toNatClampNeg .null) .null := V2.pad (pad_rep [] .null _)
  have SL6 : StoL Z h2 b2 Lx := by
    obtain ⟨cq, Aq, qq, -⟩ := id VP6
    exact own_stoL _ fun v hv => (((hL v hv).ext Ep2)).sto Aq qq O2
  obtain ⟨T6, h6, L6, X6, e6, N6, Kq6, Vc6, st6⟩ := cpA X5 hx hZ hown (hw _ (List.mem_of_getElem? (i := 83) rfl)) (hw _ (List.mem_of_getElem? (i := 86) rfl)) (hw _ (List.mem_of_getElem? (i := 84) rfl)) (hw _ (List.mem_of_getElem? (i := 85) rfl)) e5 (sp := (0 : Int32)) (dp := (0 : Int32)) (nn := M) (us := Lx) Fa3 VP6 (Or.inr ⟨rfl, rfl, SL6⟩) (by decide) (by decide) hM0 (by simp) (by simpa using hMN) (own_range Lx _ hlen) (by simpa using hMN) N5 gn_b2 (g := (mkF m 35 #[.val (.ref a1), .val (.int p2), .val (.ref mr), .val (.ref b2)] [(.int M), (.int (0 : Int32)), (.ref b2), (.int (0 : Int32)), (.ref a1)])) rfl (by rw [hml]; rfl) (rest := []) rfl (hb hby d11_35) (by decide) (W := 0) (by show 2 * 0 + _ ≤ _; exact Nat.le_of_eq rfl) (by decide)
  have Ef6 : Ext h0 h6 := own_ext_keep Ep2 Kq6 sz_b2
  have Ee6 := Ex2.keep Kq6
  refine own_st (T' := T6) (g' := (mkF m 38 #[.val (.ref a1), .val (.int p2), .val (.ref mr), .val (.ref b2)] [])) (fun _ k => (st6) _ k) ?_
  refine own_st (T' := T6) (g' := (mkF m 39 #[.val (.ref a1), .val (.int p2), .val (.ref mr), .val (.ref b2)] [(.ref b2)])) (fun _ k => Jvm.Free.XS.aloadN (g := (mkF m 38 #[.val (.ref a1), .val (.int p2), .val (.ref mr), .val (.ref b2)] [])) X6.here hx rfl (hb hby d11_38) rfl rfl k) ?_
  exact own_end (Q := Q11 Z a1 p2 mr M ka Lx h0 n0) (v := some (.ref b2)) X6 (fun h => by rw [Bd.returns] at h; cases h) (fun fs hr => X6.areturnOut hx rfl Bd.returns rfl (hb hby d11_39) hr) (by rw [e6]; exact ⟨b2, k2, rfl, N6, Ef6, sz_b2, by simpa using Vc6, Ee6, O2⟩) (by decide) (by decide)
theorem d10_0 : decode jdk_65_method_119_code 0 = .ok (.aload_n 0, 1) := by decide +kernel
theorem d10_1 : decode jdk_65_method_119_code 1 = .ok (.iload_n 1, 1) := by decide +kernel
theorem d10_2 : decode jdk_65_method_119_code 2 = .ok (.aload_n 0, 1) := by decide +kernel
theorem d10_3 : decode jdk_65_method_119_code 3 = .ok (.invokevirtual 86, 3) := by decide +kernel
theorem d10_6 : decode jdk_65_method_119_code 6 = .ok (.invokestatic 300, 3) := by decide +kernel
theorem d10_9 : decode jdk_65_method_119_code 9 = .ok (.areturn, 1) := by decide +kernel
theorem own_pn10 : plainName "java/util/Arrays" = true := by first | (simp [plainName, overriddenIn]; done) | decide +kernel
theorem own_pd10_0 : parseMethodDescriptor "([Ljava/lang/Object;ILjava/lang/Class;)[Ljava/lang/Object;" = some ⟨[(.array (.object "java/lang/Object")), .int, (.object "java/lang/Class")], some (.array (.object "java/lang/Object"))⟩ := by decide +kernel
theorem own_ef10 (m : MethodId) (x0 : Addr) (x1 : Int32) : entryFrame m #[(.ref x0), (.int x1)] 2 = mkF m 0 #[.val (.ref x0), .val (.int x1)] [] := by first | (simp [entryFrame, mkF, argsToLocals, Value.category]; done) | rfl
def Q10 (Z : State) (a1 : Addr) (p2 : Int32) (mr : Addr) (M : Int32) (ka : ClassId) (Lx : List Value) (h0 : Heap) (n0 : Nat) (v : Option Value) (h : Heap) (L : List Loc) : Prop := ∃ (t : Addr) (kt : ClassId), v = some (.ref t) ∧ Fr n0 L ∧ Ext h0 h ∧ h0.size ≤ t ∧ Arv Z h t kt (.object "java/lang/Object") p2 (Lx ++ List.replicate (p2.toNatClampNeg - M.toNatClampNeg) .null) .null ∧ Exa Z h t "[Ljava/lang/Object;" ∧ Ovr Z kt "java/lang/Object"
set_option maxRecDepth 65536 in
set_option maxHeartbeats 40000000 in
theorem rm10 (l : Launch) (Z : State) (a0 : Array Value) (hw : ∀ d ∈ tables_1, d.before a0 Z = true) (ws : List Jvm.Cond) (a1 : Addr) (p2 : Int32) (mr : Addr) (M : Int32) (ka : ClassId) (Lx : List Value) (h0 : Heap) (n0 : Nat) (Z0 : n0 ≤ h0.size) (V_a1 : Arv Z h0 a1 ka (.object "java/lang/Object") M Lx .null) (E_a1 : Exa Z h0 a1 "[Ljava/lang/Object;")  (Mm : own_Mm Z "[Ljava/lang/Object;" mr) (hL : ∀ v ∈ Lx, own_O Z h0 v) (hlen : Lx.length = M.toNatClampNeg) (hM0 : ¬ M < 0) (hN0 : ¬ p2 < 0) (hN8 : p2.toNatClampNeg ≤ 8) (hMN : M.toNatClampNeg ≤ p2.toNatClampNeg) (hlt : ¬ p2 < M) :
    MetFree l (⟨"java/util/Arrays", "copyOf", "([Ljava/lang/Object;I)[Ljava/lang/Object;"⟩ : MethodName) (head1 (Jvm.Cond.code (⟨"java/util/Arrays", "copyOf", "([Ljava/lang/Object;I)[Ljava/lang/Object;"⟩ : MethodName) jdk_65_method_119_code 2 (some (.array (.object "java/lang/Object"))) :: ws) ({ frames := 2, cells := 1, slots := 8, locals := 55 } : Room)) (fun a U => a = #[(.ref a1), (.int p2)] ∧ Z.Warmed39 U.vm ∧ U.heap = h0) (fun _ _ _ _ _ => True) (fun _ U o U' => ∃ v L, o = .returned v ∧ Q10 Z a1 p2 mr M ka Lx h0 n0 v U'.heap L ∧ FrameEnd U o U' L ({ frames := 2, cells := 1, slots := 8, locals := 55 } : Room).cells ({ frames := 2, cells := 1, slots := 8, locals := 55 } : Room).slots) := by
  refine MetFree.of_bodySF (plainFor_of_name own_pn10) hisR ?_
  intro p e s m args below meth c s₁ Bd hml0 hP hK
  obtain ⟨rfl, hZ, hh⟩ := hP
  have hx := Bd.exec
  have hby := Bd.bytes
  have hml : c.maxLocals = 2 := hml0
  have hown : s.vm.findClass "java/util/Arrays" = some m.cls := findClass_of_methodNamed Bd.named
  have hnm := (name_of_methodNamed Bd.named Bd.method).1
  have hlk := Bd.notSynchronized
  have X0 : Stand p l e ({ frames := 2, cells := 1, slots := 8, locals := 55 } : Room) s m #[(.ref a1), (.int p2)] below meth c s₁ [] 0 0 := Stand.of_body Bd
  have e0 : s₁.heap = h0 := by rw [← hh, Bd.state]; rfl
  have N0 := Fr.nil n0
  show own_Goes p e below (fun o U' => ∃ v L, o = .returned v ∧ Q10 Z a1 p2 mr M ka Lx h0 n0 v U'.heap L ∧ FrameEnd s o U' L ({ frames := 2, cells := 1, slots := 8, locals := 55 } : Room).cells ({ frames := 2, cells := 1, slots := 8, locals := 55 } : Room).slots) s₁ (entryFrame m #[(.ref a1), (.int p2)] 2)
  refine own_st (T' := s₁) (g' := mkF m 0 #[.val (.ref a1), .val (.int p2)] []) (fun _ k => castTop (own_ef10 m a1 p2) k) ?_
  refine own_st (T' := s₁) (g' := (mkF m 1 #[.val (.ref a1), .val (.int p2)] [(.ref a1)])) (fun _ k => Jvm.Free.XS.aloadN (g := (mkF m 0 #[.val (.ref a1), .val (.int p2)] [])) X0.here hx rfl (hb hby d10_0) rfl rfl k) ?_
  refine own_st (T' := s₁) (g' := (mkF m 2 #[.val (.ref a1), .val (.int p2)] [(.int p2), (.ref a1)])) (fun _ k => Jvm.Free.XS.iloadN (g := (mkF m 1 #[.val (.ref a1), .val (.int p2)] [(.ref a1)])) X0.here hx rfl (hb hby d10_1) rfl k) ?_
  refine own_st (T' := s₁) (g' := (mkF m 3 #[.val (.ref a1), .val (.int p2)] [(.ref a1), (.int p2), (.ref a1)])) (fun _ k => Jvm.Free.XS.aloadN (g := (mkF m 2 #[.val (.ref a1), .val (.int p2)] [(.int p2), (.ref a1)])) X0.here hx rfl (hb hby d10_2) rfl rfl k) ?_
  obtain ⟨T1, X1, e1, st1⟩ := own_gcls X0 hx hZ hown (hw _ (List.mem_of_getElem? (i := 69) rfl)) (hw _ (List.mem_of_getElem? (i := 70) rfl)) (hw _ (List.mem_of_getElem? (i := 72) rfl)) (hw _ (List.mem_of_getElem? (i := 71) rfl)) (hw _ (List.mem_of_getElem? (i := 73) rfl)) e0 E_a1 Mm (g := (mkF m 3 #[.val (.ref a1), .val (.int p2)] [(.ref a1), (.int p2), (.ref a1)])) rfl (by rw [hml]; rfl) (rest := [(.int p2), (.ref a1)]) rfl (hb hby d10_3) (by decide) (by show 2 * 0 + 2 + _ ≤ _; decide)
  refine own_st (T' := T1) (g' := (mkF m 6 #[.val (.ref a1), .val (.int p2)] [(.ref mr), (.int p2), (.ref a1)])) (fun _ k => (st1) _ k) ?_
  obtain ⟨v2, T2, L2, X2, hQ2, st2⟩ := own_packS (Jvm.LawKit.callS X1 hx (y := (⟨"java/util/Arrays", "copyOf", "([Ljava/lang/Object;ILjava/lang/Class;)[Ljava/lang/Object;"⟩ : MethodName)) hown (mvT hZ (hw _ (List.mem_of_getElem? (i := 75) rfl))) (mvT hZ (hw _ (List.mem_of_getElem? (i := 76) rfl))) (mvT hZ (hw _ (List.mem_of_getElem? (i := 67) rfl))) (mvT hZ (hw _ (List.mem_of_getElem? (i := 77) rfl))) (by decide) (backOf (W := 0) (rm11 l Z a0 hw [] a1 p2 mr M ka Lx h0 n0 Z0 V_a1 Mm hL hlen hM0 hN0 hN8 hMN hlt) hZ (hw _ (List.mem_of_getElem? (i := 77) rfl)) (hw _ (List.mem_of_getElem? (i := 67) rfl)) (by decide) (by decide)) (g := (mkF m 6 #[.val (.ref a1), .val (.int p2)] [(.ref mr), (.int p2), (.ref a1)])) rfl (by rw [hml]; rfl) (argsL := [(.ref a1), (.int p2), (.ref mr)]) (rest := []) (lenOf own_pd10_0 rfl) rfl (by show 2 * 0 + _ ≤ _; exact Nat.le_of_eq rfl) (hb hby d10_6) (fun _ _ => ⟨rfl, e1, (by decide : 0 + 1 ≤ _), (by decide : 0 + 8 ≤ _)⟩))
  obtain ⟨t2, kt2, rfl, N2q, Eq2, hsz2, Vq2, Xq2, Oq2⟩ := hQ2
  obtain ⟨lc2, X2, N2⟩ := own_loc X2 (Fr.app N0 N2q)
  refine own_st (T' := T2) (g' := (mkF m 9 #[.val (.ref a1), .val (.int p2)] [(.ref t2)])) (fun _ k => (st2) _ k) ?_
  exact own_end (Q := Q10 Z a1 p2 mr M ka Lx h0 n0) (v := some (.ref t2)) X2 (fun h => by rw [Bd.returns] at h; cases h) (fun fs hr => X2.areturnOut hx rfl Bd.returns rfl (hb hby d10_9) hr) (⟨t2, kt2, rfl, N2, Eq2, hsz2, Vq2, Xq2, Oq2⟩) (by decide) (by decide)
theorem d8_0 : decode prog_144_method_3_code 0 = .ok (.aload_n 0, 1) := by decide +kernel
theorem d8_1 : decode prog_144_method_3_code 1 = .ok (.getfield 16, 3) := by decide +kernel
theorem d8_4 : decode prog_144_method_3_code 4 = .ok (.aload_n 0, 1) := by decide +kernel
theorem d8_5 : decode prog_144_method_3_code 5 = .ok (.getfield 13, 3) := by decide +kernel
theorem d8_8 : decode prog_144_method_3_code 8 = .ok (.arraylength, 1) := by decide +kernel
theorem d8_9 : decode prog_144_method_3_code 9 = .ok (.if_icmp .ne 24, 3) := by decide +kernel
theorem d8_12 : decode prog_144_method_3_code 12 = .ok (.aload_n 0, 1) := by decide +kernel
theorem d8_13 : decode prog_144_method_3_code 13 = .ok (.aload_n 0, 1) := by decide +kernel
theorem d8_14 : decode prog_144_method_3_code 14 = .ok (.getfield 13, 3) := by decide +kernel
theorem d8_17 : decode prog_144_method_3_code 17 = .ok (.iconst 2, 1) := by decide +kernel
theorem d8_18 : decode prog_144_method_3_code 18 = .ok (.aload_n 0, 1) := by decide +kernel
theorem d8_19 : decode prog_144_method_3_code 19 = .ok (.getfield 16, 3) := by decide +kernel
theorem d8_22 : decode prog_144_method_3_code 22 = .ok (.imul, 1) := by decide +kernel
theorem d8_23 : decode prog_144_method_3_code 23 = .ok (.iconst 2, 1) := by decide +kernel
theorem d8_24 : decode prog_144_method_3_code 24 = .ok (.invokestatic 20, 3) := by decide +kernel
theorem d8_27 : decode prog_144_method_3_code 27 = .ok (.invokestatic 26, 3) := by decide +kernel
theorem d8_30 : decode prog_144_method_3_code 30 = .ok (.putfield 13, 3) := by decide +kernel
theorem d8_33 : decode prog_144_method_3_code 33 = .ok (.aload_n 0, 1) := by decide +kernel
theorem d8_34 : decode prog_144_method_3_code 34 = .ok (.getfield 13, 3) := by decide +kernel
theorem d8_37 : decode prog_144_method_3_code 37 = .ok (.aload_n 0, 1) := by decide +kernel
theorem d8_38 : decode prog_144_method_3_code 38 = .ok (.dup, 1) := by decide +kernel
theorem d8_39 : decode prog_144_method_3_code 39 = .ok (.getfield 16, 3) := by decide +kernel
theorem d8_42 : decode prog_144_method_3_code 42 = .ok (.dup_x1, 1) := by decide +kernel
theorem d8_43 : decode prog_144_method_3_code 43 = .ok (.iconst 1, 1) := by decide +kernel
theorem d8_44 : decode prog_144_method_3_code 44 = .ok (.iadd, 1) := by decide +kernel
theorem d8_45 : decode prog_144_method_3_code 45 = .ok (.putfield 16, 3) := by decide +kernel
theorem d8_48 : decode prog_144_method_3_code 48 = .ok (.aload_n 1, 1) := by decide +kernel
theorem d8_49 : decode prog_144_method_3_code 49 = .ok (.aastore, 1) := by decide +kernel
theorem d8_50 : decode prog_144_method_3_code 50 = .ok (.aload_n 0, 1) := by decide +kernel
theorem d8_51 : decode prog_144_method_3_code 51 = .ok (.getfield 13, 3) := by decide +kernel
theorem d8_54 : decode prog_144_method_3_code 54 = .ok (.aload_n 0, 1) := by decide +kernel
theorem d8_55 : decode prog_144_method_3_code 55 = .ok (.dup, 1) := by decide +kernel
theorem d8_56 : decode prog_144_method_3_code 56 = .ok (.getfield 16, 3) := by decide +kernel
theorem d8_59 : decode prog_144_method_3_code 59 = .ok (.dup_x1, 1) := by decide +kernel
theorem d8_60 : decode prog_144_method_3_code 60 = .ok (.iconst 1, 1) := by decide +kernel
theorem d8_61 : decode prog_144_method_3_code 61 = .ok (.iadd, 1) := by decide +kernel
theorem d8_62 : decode prog_144_method_3_code 62 = .ok (.putfield 16, 3) := by decide +kernel
theorem d8_65 : decode prog_144_method_3_code 65 = .ok (.aload_n 2, 1) := by decide +kernel
theorem d8_66 : decode prog_144_method_3_code 66 = .ok (.aastore, 1) := by decide +kernel
theorem d8_67 : decode prog_144_method_3_code 67 = .ok (.return_, 1) := by decide +kernel
theorem own_pn8 : plainName "com/example/hollow_tree/hollowtree/query/IdentityTable" = true := by first | (simp [plainName, overriddenIn]; done) | decide +kernel
theorem own_pd8_0 : parseMethodDescriptor "(II)I" = some ⟨[.int, .int], some .int⟩ := by decide +kernel
theorem own_pd8_1 : parseMethodDescriptor "([Ljava/lang/Object;I)[Ljava/lang/Object;" = some ⟨[(.array (.object "java/lang/Object")), .int], some (.array (.object "java/lang/Object"))⟩ := by decide +kernel
theorem own_ef8 (m : MethodId) (x0 : Addr) (x1 : Addr) (x2 : Value) (hx2 : own_Rf x2) : entryFrame m #[(.ref x0), (.ref x1), x2] 3 = mkF m 0 #[.val (.ref x0), .val (.ref x1), .val x2] [] := by (rcases hx2 with rfl | ⟨_, rfl⟩) <;> first | (simp [entryFrame, mkF, argsToLocals, Value.category]; done) | rfl
def Q8_0 (Z : State) (a1 : Addr) (p2 : Addr) (r3 : Value) (hr3 : own_Rf r3) (en : Addr) (ke : ClassId) (mr : Addr) (h0 : Heap) (n0 : Nat) (v : Option Value) (h : Heap) (L : List Loc) : Prop := v = none ∧ Fr n0 L ∧ Keep h0 h [a1] ∧ Exa Z h a1 "com/example/hollow_tree/hollowtree/query/IdentityTable" ∧ ∃ (t : Addr) (kt : ClassId), h0.size ≤ t ∧ Fld Z h a1 "com/example/hollow_tree/hollowtree/query/IdentityTable" "entries" "[Ljava/lang/Object;" (.ref t) ∧ Fld Z h a1 "com/example/hollow_tree/hollowtree/query/IdentityTable" "size" "I" (.int (2 : Int32)) ∧ Arv Z h t kt (.object "java/lang/Object") (2 : Int32) [(.ref p2), r3] .null ∧ Exa Z h t "[Ljava/lang/Object;" ∧ Ovr Z kt "java/lang/Object"
set_option maxRecDepth 65536 in
set_option maxHeartbeats 40000000 in
theorem rm8_0 (l : Launch) (Z : State) (a0 : Array Value) (hw : ∀ d ∈ tables_1, d.before a0 Z = true) (ws : List Jvm.Cond) (a1 : Addr) (p2 : Addr) (r3 : Value) (hr3 : own_Rf r3) (en : Addr) (ke : ClassId) (mr : Addr) (h0 : Heap) (n0 : Nat) (Z0 : n0 ≤ h0.size) (E_a1 : Exa Z h0 a1 "com/example/hollow_tree/hollowtree/query/IdentityTable") (F_e : Fld Z h0 a1 "com/example/hollow_tree/hollowtree/query/IdentityTable" "entries" "[Ljava/lang/Object;" (.ref en)) (F_s : Fld Z h0 a1 "com/example/hollow_tree/hollowtree/query/IdentityTable" "size" "I" (.int (0 : Int32))) (V_en : Arv Z h0 en ke (.object "java/lang/Object") (0 : Int32) [] .null) (E_en : Exa Z h0 en "[Ljava/lang/Object;") (O_p2 : own_O Z h0 (.ref p2)) (O_r3 : own_O Z h0 r3) (gn_a1 : n0 ≤ a1) (Mm : own_Mm Z "[Ljava/lang/Object;" mr) (hne : a1 ≠ en) :
    MetFree l (⟨"com/example/hollow_tree/hollowtree/query/IdentityTable", "put", "(Ljava/lang/Object;Ljava/lang/Object;)V"⟩ : MethodName) (head1 (Jvm.Cond.code (⟨"com/example/hollow_tree/hollowtree/query/IdentityTable", "put", "(Ljava/lang/Object;Ljava/lang/Object;)V"⟩ : MethodName) prog_144_method_3_code 3 none :: ws) ({ frames := 3, cells := 1, slots := 8, locals := 70 } : Room)) (fun a U => a = #[(.ref a1), (.ref p2), r3] ∧ Z.Warmed39 U.vm ∧ U.heap = h0) (fun _ _ _ _ _ => True) (fun _ U o U' => ∃ v L, o = .returned v ∧ Q8_0 Z a1 p2 r3 hr3 en ke mr  h0 n0 v U'.heap L ∧ FrameEnd U o U' L ({ frames := 3, cells := 1, slots := 8, locals := 70 } : Room).cells ({ frames := 3, cells := 1, slots := 8, locals := 70 } : Room).slots) := by
  refine MetFree.of_bodySF (plainFor_of_name own_pn8) hisR ?_
  intro p e s m args below meth c s₁ Bd hml0 hP hK
  obtain ⟨rfl, hZ, hh⟩ := hP
  have hx := Bd.exec
  have hby := Bd.bytes
  have hml : c.maxLocals = 3 := hml0
  have hown : s.vm.findClass "com/example/hollow_tree/hollowtree/query/IdentityTable" = some m.cls := findClass_of_methodNamed Bd.named
  have hnm := (name_of_methodNamed Bd.named Bd.method).1
  have hlk := Bd.notSynchronized
  have X0 : Stand p l e ({ frames := 3, cells := 1, slots := 8, locals := 70 } : Room) s m #[(.ref a1), (.ref p2), r3] below meth c s₁ [] 0 0 := Stand.of_body Bd
  have e0 : s₁.heap = h0 := by rw [← hh, Bd.state]; rfl
  have N0 := Fr.nil n0
  show own_Goes p e below (fun o U' => ∃ v L, o = .returned v ∧ Q8_0 Z a1 p2 r3 hr3 en ke mr  h0 n0 v U'.heap L ∧ FrameEnd s o U' L ({ frames := 3, cells := 1, slots := 8, locals := 70 } : Room).cells ({ frames := 3, cells := 1, slots := 8, locals := 70 } : Room).slots) s₁ (entryFrame m #[(.ref a1), (.ref p2), r3] 3)
  refine own_st (T' := s₁) (g' := mkF m 0 #[.val (.ref a1), .val (.ref p2), .val r3] []) (fun _ k => castTop (own_ef8 m a1 p2 r3 hr3) k) ?_
  have ne_a1_en := hne
  refine own_st (T' := s₁) (g' := (mkF m 1 #[.val (.ref a1), .val (.ref p2), .val r3] [(.ref a1)])) (fun _ k => Jvm.Free.XS.aloadN (g := (mkF m 0 #[.val (.ref a1), .val (.ref p2), .val r3] [])) X0.here hx rfl (hb hby d8_0) rfl rfl k) ?_
  obtain ⟨T1, X1, e1, st1⟩ := getF X0 hx hZ hown (host := "") (Or.inl (hw _ (List.mem_of_getElem? (i := 50) rfl))) Via.refl e0 F_s (g := (mkF m 1 #[.val (.ref a1), .val (.ref p2), .val r3] [(.ref a1)])) rfl rfl (hb hby d8_1)
  refine own_st (T' := T1) (g' := (mkF m 4 #[.val (.ref a1), .val (.ref p2), .val r3] [(.int (0 : Int32))])) (fun _ k => (st1) _ k) ?_
  refine own_st (T' := T1) (g' := (mkF m 5 #[.val (.ref a1), .val (.ref p2), .val r3] [(.ref a1), (.int (0 : Int32))])) (fun _ k => Jvm.Free.XS.aloadN (g := (mkF m 4 #[.val (.ref a1), .val (.ref p2), .val r3] [(.int (0 : Int32))])) X1.here hx rfl (hb hby d8_4) rfl rfl k) ?_
  obtain ⟨T2, X2, e2, st2⟩ := getF X1 hx hZ hown (host := "") (Or.inl (hw _ (List.mem_of_getElem? (i := 43) rfl))) Via.refl e1 F_e (g := (mkF m 5 #[.val (.ref a1), .val (.ref p2), .val r3] [(.ref a1), (.int (0 : Int32))])) rfl rfl (hb hby d8_5)
  refine own_st (T' := T2) (g' := (mkF m 8 #[.val (.ref a1), .val (.ref p2), .val r3] [(.ref en), (.int (0 : Int32))])) (fun _ k => (st2) _ k) ?_
  obtain ⟨cl3, Ar3, -, Sz3, Nn3, -, -⟩ := id V_en
  have al3 := X2.arraylength hx (by rw [e2]; exact Ar3.1) (State.isArrayOf_alike hZ.alike Ar3.2.1) (g := (mkF m 8 #[.val (.ref a1), .val (.ref p2), .val r3] [(.ref en), (.int (0 : Int32))])) rfl rfl (hb hby d8_8)
  rw [len_of Sz3 Nn3] at al3
  refine own_st (T' := T2) (g' := (mkF m 9 #[.val (.ref a1), .val (.ref p2), .val r3] [(.int (0 : Int32)), (.int (0 : Int32))])) (fun _ k => (al3) _ k) ?_
  refine own_st (T' := T2) (g' := (mkF m 12 #[.val (.ref a1), .val (.ref p2), .val r3] [])) (fun _ k => XS.icmpNo (g := (mkF m 9 #[.val (.ref a1), .val (.ref p2), .val r3] [(.int (0 : Int32)), (.int (0 : Int32))])) X2.here hx rfl (hb hby d8_9) rfl (teq (by decide : (0 : Int32) = (0 : Int32))).2 k) ?_
  refine own_st (T' := T2) (g' := (mkF m 13 #[.val (.ref a1), .val (.ref p2), .val r3] [(.ref a1)])) (fun _ k => Jvm.Free.XS.aloadN (g := (mkF m 12 #[.val (.ref a1), .val (.ref p2), .val r3] [])) X2.here hx rfl (hb hby d8_12) rfl rfl k) ?_
  refine own_st (T' := T2) (g' := (mkF m 14 #[.val (.ref a1), .val (.ref p2), .val r3] [(.ref a1), (.ref a1)])) (fun _ k => Jvm.Free.XS.aloadN (g := (mkF m 13 #[.val (.ref a1), .val (.ref p2), .val r3] [(.ref a1)])) X2.here hx rfl (hb hby d8_13) rfl rfl k) ?_
  obtain ⟨T4, X4, e4, st4⟩ := getF X2 hx hZ hown (host := "") (Or.inl (hw _ (List.mem_of_getElem? (i := 43) rfl))) Via.refl e2 F_e (g := (mkF m 14 #[.val (.ref a1), .val (.ref p2), .val r3] [(.ref a1), (.ref a1)])) rfl rfl (hb hby d8_14)
  refine own_st (T' := T4) (g' := (mkF m 17 #[.val (.ref a1), .val (.ref p2), .val r3] [(.ref en), (.ref a1)])) (fun _ k => (st4) _ k) ?_
  refine own_st (T' := T4) (g' := (mkF m 18 #[.val (.ref a1), .val (.ref p2), .val r3] [(.int (2 : Int32)), (.ref en), (.ref a1)])) (fun _ k => XS.iconst (g := (mkF m 17 #[.val (.ref a1), .val (.ref p2), .val r3] [(.ref en), (.ref a1)])) X4.here hx rfl (hb hby d8_17) k) ?_
  refine own_st (T' := T4) (g' := (mkF m 19 #[.val (.ref a1), .val (.ref p2), .val r3] [(.ref a1), (.int (2 : Int32)), (.ref en), (.ref a1)])) (fun _ k => Jvm.Free.XS.aloadN (g := (mkF m 18 #[.val (.ref a1), .val (.ref p2), .val r3] [(.int (2 : Int32)), (.ref en), (.ref a1)])) X4.here hx rfl (hb hby d8_18) rfl rfl k) ?_
  obtain ⟨T5, X5, e5, st5⟩ := getF X4 hx hZ hown (host := "") (Or.inl (hw _ (List.mem_of_getElem? (i := 50) rfl))) Via.refl e4 F_s (g := (mkF m 19 #[.val (.ref a1), .val (.ref p2), .val r3] [(.ref a1), (.int (2 : Int32)), (.ref en), (.ref a1)])) rfl rfl (hb hby d8_19)
  refine own_st (T' := T5) (g' := (mkF m 22 #[.val (.ref a1), .val (.ref p2), .val r3] [(.int (0 : Int32)), (.int (2 : Int32)), (.ref en), (.ref a1)])) (fun _ k => (st5) _ k) ?_
  refine own_st (T' := T5) (g' := (mkF m 23 #[.val (.ref a1), .val (.ref p2), .val r3] [(.int (0 : Int32)), (.ref en), (.ref a1)])) (fun _ k => Jvm.Free.XS.imul (g := (mkF m 22 #[.val (.ref a1), .val (.ref p2), .val r3] [(.int (0 : Int32)), (.int (2 : Int32)), (.ref en), (.ref a1)])) X5.here hx rfl (hb hby d8_22) rfl k) ?_
  refine own_st (T' := T5) (g' := (mkF m 24 #[.val (.ref a1), .val (.ref p2), .val r3] [(.int (2 : Int32)), (.int (0 : Int32)), (.ref en), (.ref a1)])) (fun _ k => XS.iconst (g := (mkF m 23 #[.val (.ref a1), .val (.ref p2), .val r3] [(.int (0 : Int32)), (.ref en), (.ref a1)])) X5.here hx rfl (hb hby d8_23) k) ?_
  obtain ⟨v6, T6, L6, X6, hQ6, st6⟩ := own_packS (Jvm.LawKit.callS X5 hx (y := (⟨"java/lang/Math", "max", "(II)I"⟩ : MethodName)) hown (mvT hZ (hw _ (List.mem_of_getElem? (i := 61) rfl))) (mvT hZ (hw _ (List.mem_of_getElem? (i := 62) rfl))) (mvT hZ (hw _ (List.mem_of_getElem? (i := 63) rfl))) (mvT hZ (hw _ (List.mem_of_getElem? (i := 64) rfl))) (by decide) (backOf (W := 2) (rm9 l Z a0 hw [] (0 : Int32) (2 : Int32) h0 n0 Z0 ) hZ (hw _ (List.mem_of_getElem? (i := 64) rfl)) (hw _ (List.mem_of_getElem? (i := 63) rfl)) (by decide) (by decide)) (g := (mkF m 24 #[.val (.ref a1), .val (.ref p2), .val r3] [(.int (2 : Int32)), (.int (0 : Int32)), (.ref en), (.ref a1)])) rfl (by rw [hml]; rfl) (argsL := [(.int (0 : Int32)), (.int (2 : Int32))]) (rest := [(.ref en), (.ref a1)]) (lenOf own_pd8_0 rfl) rfl (by show 2 * 0 + _ ≤ _; exact Nat.le_of_eq rfl) (hb hby d8_24) (fun _ _ => ⟨rfl, e5, (by decide : 0 + 0 ≤ _), (by decide : 0 + 0 ≤ _)⟩))
  obtain ⟨hv6, N6q, e6⟩ := hQ6
  rw [show own_f9_0 (0 : Int32) (2 : Int32) = (2 : Int32) from by decide] at hv6
  subst hv6
  obtain ⟨lc6, X6, N6⟩ := own_loc X6 (Fr.app N0 N6q)
  refine own_st (T' := T6) (g' := (mkF m 27 #[.val (.ref a1), .val (.ref p2), .val r3] [(.int (2 : Int32)), (.ref en), (.ref a1)])) (fun _ k => (st6) _ k) ?_
  obtain ⟨v7, T7, L7, X7, hQ7, st7⟩ := own_packS (Jvm.LawKit.callS X6 hx (y := (⟨"java/util/Arrays", "copyOf", "([Ljava/lang/Object;I)[Ljava/lang/Object;"⟩ : MethodName)) hown (mvT hZ (hw _ (List.mem_of_getElem? (i := 65) rfl))) (mvT hZ (hw _ (List.mem_of_getElem? (i := 66) rfl))) (mvT hZ (hw _ (List.mem_of_getElem? (i := 67) rfl))) (mvT hZ (hw _ (List.mem_of_getElem? (i := 68) rfl))) (by decide) (backOf (W := 1) (rm10 l Z a0 hw [] en (2 : Int32) mr (0 : Int32) ke [] h0 n0 Z0 V_en E_en Mm (fun v hv => by cases hv) rfl (by decide) (by decide) (by decide) (by decide) (by decide)) hZ (hw _ (List.mem_of_getElem? (i := 68) rfl)) (hw _ (List.mem_of_getElem? (i := 67) rfl)) (by decide) (by decide)) (g := (mkF m 27 #[.val (.ref a1), .val (.ref p2), .val r3] [(.int (2 : Int32)), (.ref en), (.ref a1)])) rfl (by rw [hml]; rfl) (argsL := [(.ref en), (.int (2 : Int32))]) (rest := [(.ref a1)]) (lenOf own_pd8_1 rfl) rfl (by show 2 * 0 + _ ≤ _; exact Nat.le_of_eq rfl) (hb hby d8_27) (fun _ _ => ⟨rfl, e6, (by decide : 0 + 1 ≤ _), (by decide : 0 + 8 ≤ _)⟩))
  obtain ⟨t7, kt7, rfl, N7q, Eq7, hsz7, Vq7, Xq7, Oq7⟩ := hQ7
  obtain ⟨lc7, X7, N7⟩ := own_loc X7 (Fr.app N6 N7q)
  have ne_a1_t7 : a1 ≠ t7 := Nat.ne_of_lt (Nat.lt_of_lt_of_le E_a1.lt hsz7)
  have ne_en_t7 : en ≠ t7 := Nat.ne_of_lt (Nat.lt_of_lt_of_le V_en.lt hsz7)
  have gn_t7 : n0 ≤ t7 := Nat.le_trans Z0 hsz7
  have sz_t7 : h0.size ≤ t7 := Nat.le_trans (Keep.refl h0 [a1]).1 hsz7
  have Zs7 : n0 ≤ T7.heap.size := Nat.le_trans Z0 Eq7.1
  have Fa8 : Exa Z T7.heap a1 "com/example/hollow_tree/hollowtree/query/IdentityTable" := E_a1.ext Eq7
  have Fa9 : Fld Z T7.heap a1 "com/example/hollow_tree/hollowtree/query/IdentityTable" "entries" "[Ljava/lang/Object;" (.ref en) := F_e.ext Eq7
  have Fa10 : Fld Z T7.heap a1 "com/example/hollow_tree/hollowtree/query/IdentityTable" "size" "I" (.int (0 : Int32)) := F_s.ext Eq7
  have Fa11 : Arv Z T7.heap en ke (.object "java/lang/Object") (0 : Int32) [] .null := V_en.ext Eq7
  have Fa12 : Exa Z T7.heap en "[Ljava/lang/Object;" := E_en.ext Eq7
  have Fa13 : own_O Z T7.heap (.ref p2) := O_p2.ext Eq7
  have Fa14 : own_O Z T7.heap r3 := O_r3.ext Eq7
  have Ke7 : Keep h0 T7.heap [a1] := (Keep.refl h0 [a1]).ext Eq7
  have Vx7 : Arv Z T7.heap t7 kt7 (.object "java/lang/Object") (2 : Int32) [.null, .null] .null := Vq7
  refine own_st (T' := T7) (g' := (mkF m 30 #[.val (.ref a1), .val (.ref p2), .val r3] [(.ref t7), (.ref a1)])) (fun _ k => (st7) _ k) ?_
  obtain ⟨T15, h15, X15, e15, W15, st15⟩ := putF X7 hx hZ hown (host := "") (Or.inl (hw _ (List.mem_of_getElem? (i := 43) rfl))) Via.refl rfl Fa9 Fa8 (Or.inl (hw _ (List.mem_of_getElem? (i := 44) rfl))) (hw _ (List.mem_of_getElem? (i := 35) rfl)) (ty := (.array (.object "java/lang/Object"))) (by decide) rfl rfl (g := (mkF m 30 #[.val (.ref a1), .val (.ref p2), .val r3] [(.ref t7), (.ref a1)])) rfl rfl (hb hby d8_30)
  have Fw15 := Fa9.same W15
  have Zs15 : n0 ≤ h15.size := Nat.le_trans Zs7 (Keep.of_wr W15).1
  obtain ⟨lc15, X15, N15⟩ := own_loc X15 (Fr.snoc X15 N7 gn_a1)
  have Fa16 : Exa Z h15 a1 "com/example/hollow_tree/hollowtree/query/IdentityTable" := Fa8.wr W15
  have Fa17 : Fld Z h15 a1 "com/example/hollow_tree/hollowtree/query/IdentityTable" "size" "I" (.int (0 : Int32)) := Fa10.other W15 (Or.inr (slot_ne (Or.inl (hw _ (List.mem_of_getElem? (i := 51) rfl))) (Or.inl (hw _ (List.mem_of_getElem? (i := 44) rfl))) (by decide) (t := .int) (t' := (.array (.object "java/lang/Object"))) (by decide) (by decide)))
  have Fa18 : Arv Z h15 en ke (.object "java/lang/Object") (0 : Int32) [] .null := Fa11.other W15 (Ne.symm ne_a1_en)
  have Fa19 : Exa Z h15 en "[Ljava/lang/Object;" := Fa12.wr W15
  have Fa20 : own_O Z h15 (.ref p2) := Fa13.wr W15
  have Fa21 : own_O Z h15 r3 := Fa14.wr W15
  have Fa22 : Arv Z h15 t7 kt7 (.object "java/lang/Object") (2 : Int32) [.null, .null] .null := Vx7.other W15 (Ne.symm ne_a1_t7)
  have Fa23 : Exa Z h15 t7 "[Ljava/lang/Object;" := Xq7.wr W15
  have Ke15 : Keep h0 h15 [a1] := Ke7.wr W15 (Or.inl (List.mem_of_getElem? (i := 0) rfl))
  refine own_st (T' := T15) (g' := (mkF m 33 #[.val (.ref a1), .val (.ref p2), .val r3] [])) (fun _ k => (st15) _ k) ?_
  refine own_st (T' := T15) (g' := (mkF m 34 #[.val (.ref a1), .val (.ref p2), .val r3] [(.ref a1)])) (fun _ k => Jvm.Free.XS.aloadN (g := (mkF m 33 #[.val (.ref a1), .val (.ref p2), .val r3] [])) X15.here hx rfl (hb hby d8_33) rfl rfl k) ?_
  obtain ⟨T24, X24, e24, st24⟩ := getF X15 hx hZ hown (host := "") (Or.inl (hw _ (List.mem_of_getElem? (i := 43) rfl))) Via.refl e15 Fw15 (g := (mkF m 34 #[.val (.ref a1), .val (.ref p2), .val r3] [(.ref a1)])) rfl rfl (hb hby d8_34)
  refine own_st (T' := T24) (g' := (mkF m 37 #[.val (.ref a1), .val (.ref p2), .val r3] [(.ref t7)])) (fun _ k => (st24) _ k) ?_
  refine own_st (T' := T24) (g' := (mkF m 38 #[.val (.ref a1), .val (.ref p2), .val r3] [(.ref a1), (.ref t7)])) (fun _ k => Jvm.Free.XS.aloadN (g := (mkF m 37 #[.val (.ref a1), .val (.ref p2), .val r3] [(.ref t7)])) X24.here hx rfl (hb hby d8_37) rfl rfl k) ?_
  refine own_st (T' := T24) (g' := (mkF m 39 #[.val (.ref a1), .val (.ref p2), .val r3] [(.ref a1), (.ref a1), (.ref t7)])) (fun _ k => XS.dup (g := (mkF m 38 #[.val (.ref a1), .val (.ref p2), .val r3] [(.ref a1), (.ref t7)])) X24.here hx rfl (hb hby d8_38) rfl rfl k) ?_
  obtain ⟨T25, X25, e25, st25⟩ := getF X24 hx hZ hown (host := "") (Or.inl (hw _ (List.mem_of_getElem? (i := 50) rfl))) Via.refl e24 Fa17 (g := (mkF m 39 #[.val (.ref a1), .val (.ref p2), .val r3] [(.ref a1), (.ref a1), (.ref t7)])) rfl rfl (hb hby d8_39)
  refine own_st (T' := T25) (g' := (mkF m 42 #[.val (.ref a1), .val (.ref p2), .val r3] [(.int (0 : Int32)), (.ref a1), (.ref t7)])) (fun _ k => (st25) _ k) ?_
  refine own_st (T' := T25) (g' := (mkF m 43 #[.val (.ref a1), .val (.ref p2), .val r3] [(.int (0 : Int32)), (.ref a1), (.int (0 : Int32)), (.ref t7)])) (fun _ k => Jvm.Free.XS.dupX1 (g := (mkF m 42 #[.val (.ref a1), .val (.ref p2), .val r3] [(.int (0 : Int32)), (.ref a1), (.ref t7)])) X25.here hx rfl (hb hby d8_42) rfl rfl rfl k) ?_
  refine own_st (T' := T25) (g' := (mkF m 44 #[.val (.ref a1), .val (.ref p2), .val r3] [(.int (1 : Int32)), (.int (0 : Int32)), (.ref a1), (.int (0 : Int32)), (.ref t7)])) (fun _ k => XS.iconst (g := (mkF m 43 #[.val (.ref a1), .val (.ref p2), .val r3] [(.int (0 : Int32)), (.ref a1), (.int (0 : Int32)), (.ref t7)])) X25.here hx rfl (hb hby d8_43) k) ?_
  refine own_st (T' := T25) (g' := (mkF m 45 #[.val (.ref a1), .val (.ref p2), .val r3] [(.int (1 : Int32)), (.ref a1), (.int (0 : Int32)), (.ref t7)])) (fun _ k => Jvm.Free.XS.iadd (g := (mkF m 44 #[.val (.ref a1), .val (.ref p2), .val r3] [(.int (1 : Int32)), (.int (0 : Int32)), (.ref a1), (.int (0 : Int32)), (.ref t7)])) X25.here hx rfl (hb hby d8_44) rfl k) ?_
  obtain ⟨T26, h26, X26, e26, W26, st26⟩ := putF X25 hx hZ hown (host := "") (Or.inl (hw _ (List.mem_of_getElem? (i := 50) rfl))) Via.refl e25 Fa17 Fa16 (Or.inl (hw _ (List.mem_of_getElem? (i := 51) rfl))) (hw _ (List.mem_of_getElem? (i := 35) rfl)) (ty := .int) (by decide) rfl rfl (g := (mkF m 45 #[.val (.ref a1), .val (.ref p2), .val r3] [(.int (1 : Int32)), (.ref a1), (.int (0 : Int32)), (.ref t7)])) rfl rfl (hb hby d8_45)
  have Fw26 := Fa17.same W26
  have Zs26 : n0 ≤ h26.size := Nat.le_trans Zs15 (Keep.of_wr W26).1
  obtain ⟨lc26, X26, N26⟩ := own_loc X26 (Fr.snoc X26 N15 gn_a1)
  have Fa27 : Exa Z h26 a1 "com/example/hollow_tree/hollowtree/query/IdentityTable" := Fa16.wr W26
  have Fa28 : Arv Z h26 en ke (.object "java/lang/Object") (0 : Int32) [] .null := Fa18.other W26 (Ne.symm ne_a1_en)
  have Fa29 : Exa Z h26 en "[Ljava/lang/Object;" := Fa19.wr W26
  have Fa30 : own_O Z h26 (.ref p2) := Fa20.wr W26
  have Fa31 : own_O Z h26 r3 := Fa21.wr W26
  have Fa32 : Arv Z h26 t7 kt7 (.object "java/lang/Object") (2 : Int32) [.null, .null] .null := Fa22.other W26 (Ne.symm ne_a1_t7)
  have Fa33 : Exa Z h26 t7 "[Ljava/lang/Object;" := Fa23.wr W26
  have Fa34 : Fld Z h26 a1 "com/example/hollow_tree/hollowtree/query/IdentityTable" "entries" "[Ljava/lang/Object;" (.ref t7) := Fw15.other W26 (Or.inr (slot_ne (Or.inl (hw _ (List.mem_of_getElem? (i := 44) rfl))) (Or.inl (hw _ (List.mem_of_getElem? (i := 51) rfl))) (by decide) (t := (.array (.object "java/lang/Object"))) (t' := .int) (by decide) (by decide)))
  have Ke26 : Keep h0 h26 [a1] := Ke15.wr W26 (Or.inl (List.mem_of_getElem? (i := 0) rfl))
  refine own_st (T' := T26) (g' := (mkF m 48 #[.val (.ref a1), .val (.ref p2), .val r3] [(.int (0 : Int32)), (.ref t7)])) (fun _ k => (st26) _ k) ?_
  refine own_st (T' := T26) (g' := (mkF m 49 #[.val (.ref a1), .val (.ref p2), .val r3] [(.ref p2), (.int (0 : Int32)), (.ref t7)])) (fun _ k => Jvm.Free.XS.aloadN (g := (mkF m 48 #[.val (.ref a1), .val (.ref p2), .val r3] [(.int (0 : Int32)), (.ref t7)])) X26.here hx rfl (hb hby d8_48) rfl rfl k) ?_
  obtain ⟨cl35, Ar35, qk35, Sz35, Nn35, Hs35, Gs35⟩ := Fa32
  have hin35 : ¬ ((0 : Int32) < 0 ∨ cl35.slots.size ≤ ((0 : Int32)).toNatClampNeg) := inb_of Sz35 ⟨by decide, by decide⟩
  obtain ⟨T35, h35, X35, e35, W35, st35⟩ := stR X26 hx hZ e26 Ar35 (j := (0 : Int32)) hin35 rfl (Fa30.sto Ar35 qk35 Oq7) (g := (mkF m 49 #[.val (.ref a1), .val (.ref p2), .val r3] [(.ref p2), (.int (0 : Int32)), (.ref t7)])) rfl rfl (hb hby d8_49)
  have V35 : Arv Z h35 t7 kt7 (.object "java/lang/Object") (2 : Int32) [(.ref p2), .null] .null := Arv.set Ar35 qk35 Sz35 Nn35 Hs35 Gs35 rfl W35 0 rfl (Nat.le_of_ble_eq_true rfl)
  have Zs35 : n0 ≤ h35.size := Nat.le_trans Zs26 (Keep.of_wr W35).1
  obtain ⟨lc35, X35, N35⟩ := own_loc X35 (Fr.snoc X35 N26 gn_t7)
  have Fa36 : Exa Z h35 a1 "com/example/hollow_tree/hollowtree/query/IdentityTable" := Fa27.wr W35
  have Fa37 : Arv Z h35 en ke (.object "java/lang/Object") (0 : Int32) [] .null := Fa28.other W35 ne_en_t7
  have Fa38 : Exa Z h35 en "[Ljava/lang/Object;" := Fa29.wr W35
  have Fa39 : own_O Z h35 (.ref p2) := Fa30.wr W35
  have Fa40 : own_O Z h35 r3 := Fa31.wr W35
  have Fa41 : Exa Z h35 t7 "[Ljava/lang/Object;" := Fa33.wr W35
  have Fa42 : Fld Z h35 a1 "com/example/hollow_tree/hollowtree/query/IdentityTable" "entries" "[Ljava/lang/Object;" (.ref t7) := Fa34.other W35 (Or.inl ne_a1_t7)
  have Fa43 : Fld Z h35 a1 "com/example/hollow_tree/hollowtree/query/IdentityTable" "size" "I" (.int (1 : Int32)) := Fw26.other W35 (Or.inl ne_a1_t7)
  have Ke35 : Keep h0 h35 [a1] := Ke26.wr W35 (Or.inr sz_t7)
  refine own_st (T' := T35) (g' := (mkF m 50 #[.val (.ref a1), .val (.ref p2), .val r3] [])) (fun _ k => (st35) _ k) ?_
  refine own_st (T' := T35) (g' := (mkF m 51 #[.val (.ref a1), .val (.ref p2), .val r3] [(.ref a1)])) (fun _ k => Jvm.Free.XS.aloadN (g := (mkF m 50 #[.val (.ref a1), .val (.ref p2), .val r3] [])) X35.here hx rfl (hb hby d8_50) rfl rfl k) ?_
  obtain ⟨T44, X44, e44, st44⟩ := getF X35 hx hZ hown (host := "") (Or.inl (hw _ (List.mem_of_getElem? (i := 43) rfl))) Via.refl e35 Fa42 (g := (mkF m 51 #[.val (.ref a1), .val (.ref p2), .val r3] [(.ref a1)])) rfl rfl (hb hby d8_51)
  refine own_st (T' := T44) (g' := (mkF m 54 #[.val (.ref a1), .val (.ref p2), .val r3] [(.ref t7)])) (fun _ k => (st44) _ k) ?_
  refine own_st (T' := T44) (g' := (mkF m 55 #[.val (.ref a1), .val (.ref p2), .val r3] [(.ref a1), (.ref t7)])) (fun _ k => Jvm.Free.XS.aloadN (g := (mkF m 54 #[.val (.ref a1), .val (.ref p2), .val r3] [(.ref t7)])) X44.here hx rfl (hb hby d8_54) rfl rfl k) ?_
  refine own_st (T' := T44) (g' := (mkF m 56 #[.val (.ref a1), .val (.ref p2), .val r3] [(.ref a1), (.ref a1), (.ref t7)])) (fun _ k => XS.dup (g := (mkF m 55 #[.val (.ref a1), .val (.ref p2), .val r3] [(.ref a1), (.ref t7)])) X44.here hx rfl (hb hby d8_55) rfl rfl k) ?_
  obtain ⟨T45, X45, e45, st45⟩ := getF X44 hx hZ hown (host := "") (Or.inl (hw _ (List.mem_of_getElem? (i := 50) rfl))) Via.refl e44 Fa43 (g := (mkF m 56 #[.val (.ref a1), .val (.ref p2), .val r3] [(.ref a1), (.ref a1), (.ref t7)])) rfl rfl (hb hby d8_56)
  refine own_st (T' := T45) (g' := (mkF m 59 #[.val (.ref a1), .val (.ref p2), .val r3] [(.int (1 : Int32)), (.ref a1), (.ref t7)])) (fun _ k => (st45) _ k) ?_
  refine own_st (T' := T45) (g' := (mkF m 60 #[.val (.ref a1), .val (.ref p2), .val r3] [(.int (1 : Int32)), (.ref a1), (.int (1 : Int32)), (.ref t7)])) (fun _ k => Jvm.Free.XS.dupX1 (g := (mkF m 59 #[.val (.ref a1), .val (.ref p2), .val r3] [(.int (1 : Int32)), (.ref a1), (.ref t7)])) X45.here hx rfl (hb hby d8_59) rfl rfl rfl k) ?_
  refine own_st (T' := T45) (g' := (mkF m 61 #[.val (.ref a1), .val (.ref p2), .val r3] [(.int (1 : Int32)), (.int (1 : Int32)), (.ref a1), (.int (1 : Int32)), (.ref t7)])) (fun _ k => XS.iconst (g := (mkF m 60 #[.val (.ref a1), .val (.ref p2), .val r3] [(.int (1 : Int32)), (.ref a1), (.int (1 : Int32)), (.ref t7)])) X45.here hx rfl (hb hby d8_60) k) ?_
  refine own_st (T' := T45) (g' := (mkF m 62 #[.val (.ref a1), .val (.ref p2), .val r3] [(.int (2 : Int32)), (.ref a1), (.int (1 : Int32)), (.ref t7)])) (fun _ k => Jvm.Free.XS.iadd (g := (mkF m 61 #[.val (.ref a1), .val (.ref p2), .val r3] [(.int (1 : Int32)), (.int (1 : Int32)), (.ref a1), (.int (1 : Int32)), (.ref t7)])) X45.here hx rfl (hb hby d8_61) rfl k) ?_
  obtain ⟨T46, h46, X46, e46, W46, st46⟩ := putF X45 hx hZ hown (host := "") (Or.inl (hw _ (List.mem_of_getElem? (i := 50) rfl))) Via.refl e45 Fa43 Fa36 (Or.inl (hw _ (List.mem_of_getElem? (i := 51) rfl))) (hw _ (List.mem_of_getElem? (i := 35) rfl)) (ty := .int) (by decide) rfl rfl (g := (mkF m 62 #[.val (.ref a1), .val (.ref p2), .val r3] [(.int (2 : Int32)), (.ref a1), (.int (1 : Int32)), (.ref t7)])) rfl rfl (hb hby d8_62)
  have Fw46 := Fa43.same W46
  have Zs46 : n0 ≤ h46.size := Nat.le_trans Zs35 (Keep.of_wr W46).1
  obtain ⟨lc46, X46, N46⟩ := own_loc X46 (Fr.snoc X46 N35 gn_a1)
  have Fa47 : Exa Z h46 a1 "com/example/hollow_tree/hollowtree/query/IdentityTable" := Fa36.wr W46
  have Fa48 : Arv Z h46 en ke (.object "java/lang/Object") (0 : Int32) [] .null := Fa37.other W46 (Ne.symm ne_a1_en)
  have Fa49 : Exa Z h46 en "[Ljava/lang/Object;" := Fa38.wr W46
  have Fa50 : own_O Z h46 (.ref p2) := Fa39.wr W46
  have Fa51 : own_O Z h46 r3 := Fa40.wr W46
  have Fa52 : Exa Z h46 t7 "[Ljava/lang/Object;" := Fa41.wr W46
  have Fa53 : Fld Z h46 a1 "com/example/hollow_tree/hollowtree/query/IdentityTable" "entries" "[Ljava/lang/Object;" (.ref t7) := Fa42.other W46 (Or.inr (slot_ne (Or.inl (hw _ (List.mem_of_getElem? (i := 44) rfl))) (Or.inl (hw _ (List.mem_of_getElem? (i := 51) rfl))) (by decide) (t := (.array (.object "java/lang/Object"))) (t' := .int) (by decide) (by decide)))
  have Fa54 : Arv Z h46 t7 kt7 (.object "java/lang/Object") (2 : Int32) [(.ref p2), .null] .null := V35.other W46 (Ne.symm ne_a1_t7)
  have Ke46 : Keep h0 h46 [a1] := Ke35.wr W46 (Or.inl (List.mem_of_getElem? (i := 0) rfl))
  refine own_st (T' := T46) (g' := (mkF m 65 #[.val (.ref a1), .val (.ref p2), .val r3] [(.int (1 : Int32)), (.ref t7)])) (fun _ k => (st46) _ k) ?_
  refine own_st (T' := T46) (g' := (mkF m 66 #[.val (.ref a1), .val (.ref p2), .val r3] [r3, (.int (1 : Int32)), (.ref t7)])) (fun _ k => Jvm.Free.XS.aloadN (g := (mkF m 65 #[.val (.ref a1), .val (.ref p2), .val r3] [(.int (1 : Int32)), (.ref t7)])) X46.here hx rfl (hb hby d8_65) rfl (hr3).isRef k) ?_
  obtain ⟨cl55, Ar55, qk55, Sz55, Nn55, Hs55, Gs55⟩ := Fa54
  have hin55 : ¬ ((1 : Int32) < 0 ∨ cl55.slots.size ≤ ((1 : Int32)).toNatClampNeg) := inb_of Sz55 ⟨by decide, by decide⟩
  obtain ⟨T55, h55, X55, e55, W55, st55⟩ := stR X46 hx hZ e46 Ar55 (j := (1 : Int32)) hin55 rfl (Fa51.sto Ar55 qk55 Oq7) (g := (mkF m 66 #[.val (.ref a1), .val (.ref p2), .val r3] [r3, (.int (1 : Int32)), (.ref t7)])) rfl rfl (hb hby d8_66)
  have V55 : Arv Z h55 t7 kt7 (.object "java/lang/Object") (2 : Int32) [(.ref p2), r3] .null := Arv.set Ar55 qk55 Sz55 Nn55 Hs55 Gs55 (own_fitsR hr3) W55 1 rfl (Nat.le_of_ble_eq_true rfl)
  have Zs55 : n0 ≤ h55.size := Nat.le_trans Zs46 (Keep.of_wr W55).1
  obtain ⟨lc55, X55, N55⟩ := own_loc X55 (Fr.snoc X55 N46 gn_t7)
  have Fa56 : Exa Z h55 a1 "com/example/hollow_tree/hollowtree/query/IdentityTable" := Fa47.wr W55
  have Fa57 : Arv Z h55 en ke (.object "java/lang/Object") (0 : Int32) [] .null := Fa48.other W55 ne_en_t7
  have Fa58 : Exa Z h55 en "[Ljava/lang/Object;" := Fa49.wr W55
  have Fa59 : own_O Z h55 (.ref p2) := Fa50.wr W55
  have Fa60 : own_O Z h55 r3 := Fa51.wr W55
  have Fa61 : Exa Z h55 t7 "[Ljava/lang/Object;" := Fa52.wr W55
  have Fa62 : Fld Z h55 a1 "com/example/hollow_tree/hollowtree/query/IdentityTable" "entries" "[Ljava/lang/Object;" (.ref t7) := Fa53.other W55 (Or.inl ne_a1_t7)
  have Fa63 : Fld Z h55 a1 "com/example/hollow_tree/hollowtree/query/IdentityTable" "size" "I" (.int (2 : Int32)) := Fw46.other W55 (Or.inl ne_a1_t7)
  have Ke55 : Keep h0 h55 [a1] := Ke46.wr W55 (Or.inr sz_t7)
  refine own_st (T' := T55) (g' := (mkF m 67 #[.val (.ref a1), .val (.ref p2), .val r3] [])) (fun _ k => (st55) _ k) ?_
  exact own_end (Q := Q8_0 Z a1 p2 r3 hr3 en ke mr  h0 n0) (v := none) X55 (fun _ => rfl) (fun fs hr => X55.returnOut hx Bd.returns (hb hby d8_67) hr) (by rw [e55]; exact ⟨rfl, N55, Ke55, Fa56, ⟨t7, kt7, sz_t7, Fa62, Fa63, V55, Fa61, Oq7⟩⟩) (by decide) (by decide)
def Q8_1 (Z : State) (a1 : Addr) (p2 : Addr) (r3 : Value) (hr3 : own_Rf r3) (en : Addr) (ke : ClassId) (mr : Addr) (x0 x1 : Value) (h0 : Heap) (n0 : Nat) (v : Option Value) (h : Heap) (L : List Loc) : Prop := v = none ∧ Fr n0 L ∧ Keep h0 h [a1] ∧ Exa Z h a1 "com/example/hollow_tree/hollowtree/query/IdentityTable" ∧ ∃ (t : Addr) (kt : ClassId), h0.size ≤ t ∧ Fld Z h a1 "com/example/hollow_tree/hollowtree/query/IdentityTable" "entries" "[Ljava/lang/Object;" (.ref t) ∧ Fld Z h a1 "com/example/hollow_tree/hollowtree/query/IdentityTable" "size" "I" (.int (4 : Int32)) ∧ Arv Z h t kt (.object "java/lang/Object") (4 : Int32) [x0, x1, (.ref p2), r3] .null ∧ Exa Z h t "[Ljava/lang/Object;" ∧ Ovr Z kt "java/lang/Object"
set_option maxRecDepth 65536 in
set_option maxHeartbeats 40000000 in
theorem rm8_1 (l : Launch) (Z : State) (a0 : Array Value) (hw : ∀ d ∈ tables_1, d.before a0 Z = true) (ws : List Jvm.Cond) (a1 : Addr) (p2 : Addr) (r3 : Value) (hr3 : own_Rf r3) (en : Addr) (ke : ClassId) (mr : Addr) (x0 x1 : Value) (h0 : Heap) (n0 : Nat) (Z0 : n0 ≤ h0.size) (E_a1 : Exa Z h0 a1 "com/example/hollow_tree/hollowtree/query/IdentityTable") (F_e : Fld Z h0 a1 "com/example/hollow_tree/hollowtree/query/IdentityTable" "entries" "[Ljava/lang/Object;" (.ref en)) (F_s : Fld Z h0 a1 "com/example/hollow_tree/hollowtree/query/IdentityTable" "size" "I" (.int (2 : Int32))) (V_en : Arv Z h0 en ke (.object "java/lang/Object") (2 : Int32) [x0, x1] .null) (E_en : Exa Z h0 en "[Ljava/lang/Object;") (O_x0 : own_O Z h0 x0) (O_x1 : own_O Z h0 x1) (O_p2 : own_O Z h0 (.ref p2)) (O_r3 : own_O Z h0 r3) (gn_a1 : n0 ≤ a1) (Mm : own_Mm Z "[Ljava/lang/Object;" mr) (hne : a1 ≠ en) :
    MetFree l (⟨"com/example/hollow_tree/hollowtree/query/IdentityTable", "put", "(Ljava/lang/Object;Ljava/lang/Object;)V"⟩ : MethodName) (head1 (Jvm.Cond.code (⟨"com/example/hollow_tree/hollowtree/query/IdentityTable", "put", "(Ljava/lang/Object;Ljava/lang/Object;)V"⟩ : MethodName) prog_144_method_3_code 3 none :: ws) ({ frames := 3, cells := 1, slots := 8, locals := 70 } : Room)) (fun a U => a = #[(.ref a1), (.ref p2), r3] ∧ Z.Warmed39 U.vm ∧ U.heap = h0) (fun _ _ _ _ _ => True) (fun _ U o U' => ∃ v L, o = .returned v ∧ Q8_1 Z a1 p2 r3 hr3 en ke mr x0 x1 h0 n0 v U'.heap L ∧ FrameEnd U o U' L ({ frames := 3, cells := 1, slots := 8, locals := 70 } : Room).cells ({ frames := 3, cells := 1, slots := 8, locals := 70 } : Room).slots) := by
  refine MetFree.of_bodySF (plainFor_of_name own_pn8) hisR ?_
  intro p e s m args below meth c s₁ Bd hml0 hP hK
  obtain ⟨rfl, hZ, hh⟩ := hP
  have hx := Bd.exec
  have hby := Bd.bytes
  have hml : c.maxLocals = 3 := hml0
  have hown : s.vm.findClass "com/example/hollow_tree/hollowtree/query/IdentityTable" = some m.cls := findClass_of_methodNamed Bd.named
  have hnm := (name_of_methodNamed Bd.named Bd.method).1
  have hlk := Bd.notSynchronized
  have X0 : Stand p l e ({ frames := 3, cells := 1, slots := 8, locals := 70 } : Room) s m #[(.ref a1), (.ref p2), r3] below meth c s₁ [] 0 0 := Stand.of_body Bd
  have e0 : s₁.heap = h0 := by rw [← hh, Bd.state]; rfl
  have N0 := Fr.nil n0
  show own_Goes p e below (fun o U' => ∃ v L, o = .returned v ∧ Q8_1 Z a1 p2 r3 hr3 en ke mr x0 x1 h0 n0 v U'.heap L ∧ FrameEnd s o U' L ({ frames := 3, cells := 1, slots := 8, locals := 70 } : Room).cells ({ frames := 3, cells := 1, slots := 8, locals := 70 } : Room).slots) s₁ (entryFrame m #[(.ref a1), (.ref p2), r3] 3)
  refine own_st (T' := s₁) (g' := mkF m 0 #[.val (.ref a1), .val (.ref p2), .val r3] []) (fun _ k => castTop (own_ef8 m a1 p2 r3 hr3) k) ?_
  have ne_a1_en := hne
  refine own_st (T' := s₁) (g' := (mkF m 1 #[.val (.ref a1), .val (.ref p2), .val r3] [(.ref a1)])) (fun _ k => Jvm.Free.XS.aloadN (g := (mkF m 0 #[.val (.ref a1), .val (.ref p2), .val r3] [])) X0.here hx rfl (hb hby d8_0) rfl rfl k) ?_
  obtain ⟨T1, X1, e1, st1⟩ := getF X0 hx hZ hown (host := "") (Or.inl (hw _ (List.mem_of_getElem? (i := 50) rfl))) Via.refl e0 F_s (g := (mkF m 1 #[.val (.ref a1), .val (.ref p2), .val r3] [(.ref a1)])) rfl rfl (hb hby d8_1)
  refine own_st (T' := T1) (g' := (mkF m 4 #[.val (.ref a1), .val (.ref p2), .val r3] [(.int (2 : Int32))])) (fun _ k => (st1) _ k) ?_
  refine own_st (T' := T1) (g' := (mkF m 5 #[.val (.ref a1), .val (.ref p2), .val r3] [(.ref a1), (.int (2 : Int32))])) (fun _ k => Jvm.Free.XS.aloadN (g := (mkF m 4 #[.val (.ref a1), .val (.ref p2), .val r3] [(.int (2 : Int32))])) X1.here hx rfl (hb hby d8_4) rfl rfl k) ?_
  obtain ⟨T2, X2, e2, st2⟩ := getF X1 hx hZ hown (host := "") (Or.inl (hw _ (List.mem_of_getElem? (i := 43) rfl))) Via.refl e1 F_e (g := (mkF m 5 #[.val (.ref a1), .val (.ref p2), .val r3] [(.ref a1), (.int (2 : Int32))])) rfl rfl (hb hby d8_5)
  refine own_st (T' := T2) (g' := (mkF m 8 #[.val (.ref a1), .val (.ref p2), .val r3] [(.ref en), (.int (2 : Int32))])) (fun _ k => (st2) _ k) ?_
  obtain ⟨cl3, Ar3, -, Sz3, Nn3, -, -⟩ := id V_en
  have al3 := X2.arraylength hx (by rw [e2]; exact Ar3.1) (State.isArrayOf_alike hZ.alike Ar3.2.1) (g := (mkF m 8 #[.val (.ref a1), .val (.ref p2), .val r3] [(.ref en), (.int (2 : Int32))])) rfl rfl (hb hby d8_8)
  rw [len_of Sz3 Nn3] at al3
  refine own_st (T' := T2) (g' := (mkF m 9 #[.val (.ref a1), .val (.ref p2), .val r3] [(.int (2 : Int32)), (.int (2 : Int32))])) (fun _ k => (al3) _ k) ?_
  refine own_st (T' := T2) (g' := (mkF m 12 #[.val (.ref a1), .val (.ref p2), .val r3] [])) (fun _ k => XS.icmpNo (g := (mkF m 9 #[.val (.ref a1), .val (.ref p2), .val r3] [(.int (2 : Int32)), (.int (2 : Int32))])) X2.here hx rfl (hb hby d8_9) rfl (teq (by decide : (2 : Int32) = (2 : Int32))).2 k) ?_
  refine own_st (T' := T2) (g' := (mkF m 13 #[.val (.ref a1), .val (.ref p2), .val r3] [(.ref a1)])) (fun _ k => Jvm.Free.XS.aloadN (g := (mkF m 12 #[.val (.ref a1), .val (.ref p2), .val r3] [])) X2.here hx rfl (hb hby d8_12) rfl rfl k) ?_
  refine own_st (T' := T2) (g' := (mkF m 14 #[.val (.ref a1), .val (.ref p2), .val r3] [(.ref a1), (.ref a1)])) (fun _ k => Jvm.Free.XS.aloadN (g := (mkF m 13 #[.val (.ref a1), .val (.ref p2), .val r3] [(.ref a1)])) X2.here hx rfl (hb hby d8_13) rfl rfl k) ?_
  obtain ⟨T4, X4, e4, st4⟩ := getF X2 hx hZ hown (host := "") (Or.inl (hw _ (List.mem_of_getElem? (i := 43) rfl))) Via.refl e2 F_e (g := (mkF m 14 #[.val (.ref a1), .val (.ref p2), .val r3] [(.ref a1), (.ref a1)])) rfl rfl (hb hby d8_14)
  refine own_st (T' := T4) (g' := (mkF m 17 #[.val (.ref a1), .val (.ref p2), .val r3] [(.ref en), (.ref a1)])) (fun _ k => (st4) _ k) ?_
  refine own_st (T' := T4) (g' := (mkF m 18 #[.val (.ref a1), .val (.ref p2), .val r3] [(.int (2 : Int32)), (.ref en), (.ref a1)])) (fun _ k => XS.iconst (g := (mkF m 17 #[.val (.ref a1), .val (.ref p2), .val r3] [(.ref en), (.ref a1)])) X4.here hx rfl (hb hby d8_17) k) ?_
  refine own_st (T' := T4) (g' := (mkF m 19 #[.val (.ref a1), .val (.ref p2), .val r3] [(.ref a1), (.int (2 : Int32)), (.ref en), (.ref a1)])) (fun _ k => Jvm.Free.XS.aloadN (g := (mkF m 18 #[.val (.ref a1), .val (.ref p2), .val r3] [(.int (2 : Int32)), (.ref en), (.ref a1)])) X4.here hx rfl (hb hby d8_18) rfl rfl k) ?_
  obtain ⟨T5, X5, e5, st5⟩ := getF X4 hx hZ hown (host := "") (Or.inl (hw _ (List.mem_of_getElem? (i := 50) rfl))) Via.refl e4 F_s (g := (mkF m 19 #[.val (.ref a1), .val (.ref p2), .val r3] [(.ref a1), (.int (2 : Int32)), (.ref en), (.ref a1)])) rfl rfl (hb hby d8_19)
  refine own_st (T' := T5) (g' := (mkF m 22 #[.val (.ref a1), .val (.ref p2), .val r3] [(.int (2 : Int32)), (.int (2 : Int32)), (.ref en), (.ref a1)])) (fun _ k => (st5) _ k) ?_
  refine own_st (T' := T5) (g' := (mkF m 23 #[.val (.ref a1), .val (.ref p2), .val r3] [(.int (4 : Int32)), (.ref en), (.ref a1)])) (fun _ k => Jvm.Free.XS.imul (g := (mkF m 22 #[.val (.ref a1), .val (.ref p2), .val r3] [(.int (2 : Int32)), (.int (2 : Int32)), (.ref en), (.ref a1)])) X5.here hx rfl (hb hby d8_22) rfl k) ?_
  refine own_st (T' := T5) (g' := (mkF m 24 #[.val (.ref a1), .val (.ref p2), .val r3] [(.int (2 : Int32)), (.int (4 : Int32)), (.ref en), (.ref a1)])) (fun _ k => XS.iconst (g := (mkF m 23 #[.val (.ref a1), .val (.ref p2), .val r3] [(.int (4 : Int32)), (.ref en), (.ref a1)])) X5.here hx rfl (hb hby d8_23) k) ?_
  obtain ⟨v6, T6, L6, X6, hQ6, st6⟩ := own_packS (Jvm.LawKit.callS X5 hx (y := (⟨"java/lang/Math", "max", "(II)I"⟩ : MethodName)) hown (mvT hZ (hw _ (List.mem_of_getElem? (i := 61) rfl))) (mvT hZ (hw _ (List.mem_of_getElem? (i := 62) rfl))) (mvT hZ (hw _ (List.mem_of_getElem? (i := 63) rfl))) (mvT hZ (hw _ (List.mem_of_getElem? (i := 64) rfl))) (by decide) (backOf (W := 2) (rm9 l Z a0 hw [] (4 : Int32) (2 : Int32) h0 n0 Z0 ) hZ (hw _ (List.mem_of_getElem? (i := 64) rfl)) (hw _ (List.mem_of_getElem? (i := 63) rfl)) (by decide) (by decide)) (g := (mkF m 24 #[.val (.ref a1), .val (.ref p2), .val r3] [(.int (2 : Int32)), (.int (4 : Int32)), (.ref en), (.ref a1)])) rfl (by rw [hml]; rfl) (argsL := [(.int (4 : Int32)), (.int (2 : Int32))]) (rest := [(.ref en), (.ref a1)]) (lenOf own_pd8_0 rfl) rfl (by show 2 * 0 + _ ≤ _; exact Nat.le_of_eq rfl) (hb hby d8_24) (fun _ _ => ⟨rfl, e5, (by decide : 0 + 0 ≤ _), (by decide : 0 + 0 ≤ _)⟩))
  obtain ⟨hv6, N6q, e6⟩ := hQ6
  rw [show own_f9_0 (4 : Int32) (2 : Int32) = (4 : Int32) from by decide] at hv6
  subst hv6
  obtain ⟨lc6, X6, N6⟩ := own_loc X6 (Fr.app N0 N6q)
  refine own_st (T' := T6) (g' := (mkF m 27 #[.val (.ref a1), .val (.ref p2), .val r3] [(.int (4 : Int32)), (.ref en), (.ref a1)])) (fun _ k => (st6) _ k) ?_
  obtain ⟨v7, T7, L7, X7, hQ7, st7⟩ := own_packS (Jvm.LawKit.callS X6 hx (y := (⟨"java/util/Arrays", "copyOf", "([Ljava/lang/Object;I)[Ljava/lang/Object;"⟩ : MethodName)) hown (mvT hZ (hw _ (List.mem_of_getElem? (i := 65) rfl))) (mvT hZ (hw _ (List.mem_of_getElem? (i := 66) rfl))) (mvT hZ (hw _ (List.mem_of_getElem? (i := 67) rfl))) (mvT hZ (hw _ (List.mem_of_getElem? (i := 68) rfl))) (by decide) (backOf (W := 1) (rm10 l Z a0 hw [] en (4 : Int32) mr (2 : Int32) ke [x0, x1] h0 n0 Z0 V_en E_en Mm (fun v hv => by
      simp only [List.mem_cons, List.not_mem_nil, or_false] at hv
      rcases hv with rfl | rfl
      · exact O_x0
      · exact O_x1) rfl (by decide) (by decide) (by decide) (by decide) (by decide)) hZ (hw _ (List.mem_of_getElem? (i := 68) rfl)) (hw _ (List.mem_of_getElem? (i := 67) rfl)) (by decide) (by decide)) (g := (mkF m 27 #[.val (.ref a1), .val (.ref p2), .val r3] [(.int (4 : Int32)), (.ref en), (.ref a1)])) rfl (by rw [hml]; rfl) (argsL := [(.ref en), (.int (4 : Int32))]) (rest := [(.ref a1)]) (lenOf own_pd8_1 rfl) rfl (by show 2 * 0 + _ ≤ _; exact Nat.le_of_eq rfl) (hb hby d8_27) (fun _ _ => ⟨rfl, e6, (by decide : 0 + 1 ≤ _), (by decide : 0 + 8 ≤ _)⟩))
  obtain ⟨t7, kt7, rfl, N7q, Eq7, hsz7, Vq7, Xq7, Oq7⟩ := hQ7
  obtain ⟨lc7, X7, N7⟩ := own_loc X7 (Fr.app N6 N7q)
  have ne_a1_t7 : a1 ≠ t7 := Nat.ne_of_lt (Nat.lt_of_lt_of_le E_a1.lt hsz7)
  have ne_en_t7 : en ≠ t7 := Nat.ne_of_lt (Nat.lt_of_lt_of_le V_en.lt hsz7)
  have gn_t7 : n0 ≤ t7 := Nat.le_trans Z0 hsz7
  have sz_t7 : h0.size ≤ t7 := Nat.le_trans (Keep.refl h0 [a1]).1 hsz7
  have Zs7 : n0 ≤ T7.heap.size := Nat.le_trans Z0 Eq7.1
  have Fa8 : Exa Z T7.heap a1 "com/example/hollow_tree/hollowtree/query/IdentityTable" := E_a1.ext Eq7
  have Fa9 : Fld Z T7.heap a1 "com/example/hollow_tree/hollowtree/query/IdentityTable" "entries" "[Ljava/lang/Object;" (.ref en) := F_e.ext Eq7
  have Fa10 : Fld Z T7.heap a1 "com/example/hollow_tree/hollowtree/query/IdentityTable" "size" "I" (.int (2 : Int32)) := F_s.ext Eq7
  have Fa11 : Arv Z T7.heap en ke (.object "java/lang/Object") (2 : Int32) [x0, x1] .null := V_en.ext Eq7
  have Fa12 : Exa Z T7.heap en "[Ljava/lang/Object;" := E_en.ext Eq7
  have Fa13 : own_O Z T7.heap x0 := O_x0.ext Eq7
  have Fa14 : own_O Z T7.heap x1 := O_x1.ext Eq7
  have Fa15 : own_O Z T7.heap (.ref p2) := O_p2.ext Eq7
  have Fa16 : own_O Z T7.heap r3 := O_r3.ext Eq7
  have Ke7 : Keep h0 T7.heap [a1] := (Keep.refl h0 [a1]).ext Eq7
  have Vx7 : Arv Z T7.heap t7 kt7 (.object "java/lang/Object") (4 : Int32) [x0, x1, .null, .null] .null := Vq7
  refine own_st (T' := T7) (g' := (mkF m 30 #[.val (.ref a1), .val (.ref p2), .val r3] [(.ref t7), (.ref a1)])) (fun _ k => (st7) _ k) ?_
  obtain ⟨T17, h17, X17, e17, W17, st17⟩ := putF X7 hx hZ hown (host := "") (Or.inl (hw _ (List.mem_of_getElem? (i := 43) rfl))) Via.refl rfl Fa9 Fa8 (Or.inl (hw _ (List.mem_of_getElem? (i := 44) rfl))) (hw _ (List.mem_of_getElem? (i := 35) rfl)) (ty := (.array (.object "java/lang/Object"))) (by decide) rfl rfl (g := (mkF m 30 #[.val (.ref a1), .val (.ref p2), .val r3] [(.ref t7), (.ref a1)])) rfl rfl (hb hby d8_30)
  have Fw17 := Fa9.same W17
  have Zs17 : n0 ≤ h17.size := Nat.le_trans Zs7 (Keep.of_wr W17).1
  obtain ⟨lc17, X17, N17⟩ := own_loc X17 (Fr.snoc X17 N7 gn_a1)
  have Fa18 : Exa Z h17 a1 "com/example/hollow_tree/hollowtree/query/IdentityTable" := Fa8.wr W17
  have Fa19 : Fld Z h17 a1 "com/example/hollow_tree/hollowtree/query/IdentityTable" "size" "I" (.int (2 : Int32)) := Fa10.other W17 (Or.inr (slot_ne (Or.inl (hw _ (List.mem_of_getElem? (i := 51) rfl))) (Or.inl (hw _ (List.mem_of_getElem? (i := 44) rfl))) (by decide) (t := .int) (t' := (.array (.object "java/lang/Object"))) (by decide) (by decide)))
  have Fa20 : Arv Z h17 en ke (.object "java/lang/Object") (2 : Int32) [x0, x1] .null := Fa11.other W17 (Ne.symm ne_a1_en)
  have Fa21 : Exa Z h17 en "[Ljava/lang/Object;" := Fa12.wr W17
  have Fa22 : own_O Z h17 x0 := Fa13.wr W17
  have Fa23 : own_O Z h17 x1 := Fa14.wr W17
  have Fa24 : own_O Z h17 (.ref p2) := Fa15.wr W17
  have Fa25 : own_O Z h17 r3 := Fa16.wr W17
  have Fa26 : Arv Z h17 t7 kt7 (.object "java/lang/Object") (4 : Int32) [x0, x1, .null, .null] .null := Vx7.other W17 (Ne.symm ne_a1_t7)
  have Fa27 : Exa Z h17 t7 "[Ljava/lang/Object;" := Xq7.wr W17
  have Ke17 : Keep h0 h17 [a1] := Ke7.wr W17 (Or.inl (List.mem_of_getElem? (i := 0) rfl))
  refine own_st (T' := T17) (g' := (mkF m 33 #[.val (.ref a1), .val (.ref p2), .val r3] [])) (fun _ k => (st17) _ k) ?_
  refine own_st (T' := T17) (g' := (mkF m 34 #[.val (.ref a1), .val (.ref p2), .val r3] [(.ref a1)])) (fun _ k => Jvm.Free.XS.aloadN (g := (mkF m 33 #[.val (.ref a1), .val (.ref p2), .val r3] [])) X17.here hx rfl (hb hby d8_33) rfl rfl k) ?_
  obtain ⟨T28, X28, e28, st28⟩ := getF X17 hx hZ hown (host := "") (Or.inl (hw _ (List.mem_of_getElem? (i := 43) rfl))) Via.refl e17 Fw17 (g := (mkF m 34 #[.val (.ref a1), .val (.ref p2), .val r3] [(.ref a1)])) rfl rfl (hb hby d8_34)
  refine own_st (T' := T28) (g' := (mkF m 37 #[.val (.ref a1), .val (.ref p2), .val r3] [(.ref t7)])) (fun _ k => (st28) _ k) ?_
  refine own_st (T' := T28) (g' := (mkF m 38 #[.val (.ref a1), .val (.ref p2), .val r3] [(.ref a1), (.ref t7)])) (fun _ k => Jvm.Free.XS.aloadN (g := (mkF m 37 #[.val (.ref a1), .val (.ref p2), .val r3] [(.ref t7)])) X28.here hx rfl (hb hby d8_37) rfl rfl k) ?_
  refine own_st (T' := T28) (g' := (mkF m 39 #[.val (.ref a1), .val (.ref p2), .val r3] [(.ref a1), (.ref a1), (.ref t7)])) (fun _ k => XS.dup (g := (mkF m 38 #[.val (.ref a1), .val (.ref p2), .val r3] [(.ref a1), (.ref t7)])) X28.here hx rfl (hb hby d8_38) rfl rfl k) ?_
  obtain ⟨T29, X29, e29, st29⟩ := getF X28 hx hZ hown (host := "") (Or.inl (hw _ (List.mem_of_getElem? (i := 50) rfl))) Via.refl e28 Fa19 (g := (mkF m 39 #[.val (.ref a1), .val (.ref p2), .val r3] [(.ref a1), (.ref a1), (.ref t7)])) rfl rfl (hb hby d8_39)
  refine own_st (T' := T29) (g' := (mkF m 42 #[.val (.ref a1), .val (.ref p2), .val r3] [(.int (2 : Int32)), (.ref a1), (.ref t7)])) (fun _ k => (st29) _ k) ?_
  refine own_st (T' := T29) (g' := (mkF m 43 #[.val (.ref a1), .val (.ref p2), .val r3] [(.int (2 : Int32)), (.ref a1), (.int (2 : Int32)), (.ref t7)])) (fun _ k => Jvm.Free.XS.dupX1 (g := (mkF m 42 #[.val (.ref a1), .val (.ref p2), .val r3] [(.int (2 : Int32)), (.ref a1), (.ref t7)])) X29.here hx rfl (hb hby d8_42) rfl rfl rfl k) ?_
  refine own_st (T' := T29) (g' := (mkF m 44 #[.val (.ref a1), .val (.ref p2), .val r3] [(.int (1 : Int32)), (.int (2 : Int32)), (.ref a1), (.int (2 : Int32)), (.ref t7)])) (fun _ k => XS.iconst (g := (mkF m 43 #[.val (.ref a1), .val (.ref p2), .val r3] [(.int (2 : Int32)), (.ref a1), (.int (2 : Int32)), (.ref t7)])) X29.here hx rfl (hb hby d8_43) k) ?_
  refine own_st (T' := T29) (g' := (mkF m 45 #[.val (.ref a1), .val (.ref p2), .val r3] [(.int (3 : Int32)), (.ref a1), (.int (2 : Int32)), (.ref t7)])) (fun _ k => Jvm.Free.XS.iadd (g := (mkF m 44 #[.val (.ref a1), .val (.ref p2), .val r3] [(.int (1 : Int32)), (.int (2 : Int32)), (.ref a1), (.int (2 : Int32)), (.ref t7)])) X29.here hx rfl (hb hby d8_44) rfl k) ?_
  obtain ⟨T30, h30, X30, e30, W30, st30⟩ := putF X29 hx hZ hown (host := "") (Or.inl (hw _ (List.mem_of_getElem? (i := 50) rfl))) Via.refl e29 Fa19 Fa18 (Or.inl (hw _ (List.mem_of_getElem? (i := 51) rfl))) (hw _ (List.mem_of_getElem? (i := 35) rfl)) (ty := .int) (by decide) rfl rfl (g := (mkF m 45 #[.val (.ref a1), .val (.ref p2), .val r3] [(.int (3 : Int32)), (.ref a1), (.int (2 : Int32)), (.ref t7)])) rfl rfl (hb hby d8_45)
  have Fw30 := Fa19.same W30
  have Zs30 : n0 ≤ h30.size := Nat.le_trans Zs17 (Keep.of_wr W30).1
  obtain ⟨lc30, X30, N30⟩ := own_loc X30 (Fr.snoc X30 N17 gn_a1)
  have Fa31 : Exa Z h30 a1 "com/example/hollow_tree/hollowtree/query/IdentityTable" := Fa18.wr W30
  have Fa32 : Arv Z h30 en ke (.object "java/lang/Object") (2 : Int32) [x0, x1] .null := Fa20.other W30 (Ne.symm ne_a1_en)
  have Fa33 : Exa Z h30 en "[Ljava/lang/Object;" := Fa21.wr W30
  have Fa34 : own_O Z h30 x0 := Fa22.wr W30
  have Fa35 : own_O Z h30 x1 := Fa23.wr W30
  have Fa36 : own_O Z h30 (.ref p2) := Fa24.wr W30
  have Fa37 : own_O Z h30 r3 := Fa25.wr W30
  have Fa38 : Arv Z h30 t7 kt7 (.object "java/lang/Object") (4 : Int32) [x0, x1, .null, .null] .null := Fa26.other W30 (Ne.symm ne_a1_t7)
  have Fa39 : Exa Z h30 t7 "[Ljava/lang/Object;" := Fa27.wr W30
  have Fa40 : Fld Z h30 a1 "com/example/hollow_tree/hollowtree/query/IdentityTable" "entries" "[Ljava/lang/Object;" (.ref t7) := Fw17.other W30 (Or.inr (slot_ne (Or.inl (hw _ (List.mem_of_getElem? (i := 44) rfl))) (Or.inl (hw _ (List.mem_of_getElem? (i := 51) rfl))) (by decide) (t := (.array (.object "java/lang/Object"))) (t' := .int) (by decide) (by decide)))
  have Ke30 : Keep h0 h30 [a1] := Ke17.wr W30 (Or.inl (List.mem_of_getElem? (i := 0) rfl))
  refine own_st (T' := T30) (g' := (mkF m 48 #[.val (.ref a1), .val (.ref p2), .val r3] [(.int (2 : Int32)), (.ref t7)])) (fun _ k => (st30) _ k) ?_
  refine own_st (T' := T30) (g' := (mkF m 49 #[.val (.ref a1), .val (.ref p2), .val r3] [(.ref p2), (.int (2 : Int32)), (.ref t7)])) (fun _ k => Jvm.Free.XS.aloadN (g := (mkF m 48 #[.val (.ref a1), .val (.ref p2), .val r3] [(.int (2 : Int32)), (.ref t7)])) X30.here hx rfl (hb hby d8_48) rfl rfl k) ?_
  obtain ⟨cl41, Ar41, qk41, Sz41, Nn41, Hs41, Gs41⟩ := Fa38
  have hin41 : ¬ ((2 : Int32) < 0 ∨ cl41.slots.size ≤ ((2 : Int32)).toNatClampNeg) := inb_of Sz41 ⟨by decide, by decide⟩
  obtain ⟨T41, h41, X41, e41, W41, st41⟩ := stR X30 hx hZ e30 Ar41 (j := (2 : Int32)) hin41 rfl (Fa36.sto Ar41 qk41 Oq7) (g := (mkF m 49 #[.val (.ref a1), .val (.ref p2), .val r3] [(.ref p2), (.int (2 : Int32)), (.ref t7)])) rfl rfl (hb hby d8_49)
  have V41 : Arv Z h41 t7 kt7 (.object "java/lang/Object") (4 : Int32) [x0, x1, (.ref p2), .null] .null := Arv.set Ar41 qk41 Sz41 Nn41 Hs41 Gs41 rfl W41 2 rfl (Nat.le_of_ble_eq_true rfl)
  have Zs41 : n0 ≤ h41.size := Nat.le_trans Zs30 (Keep.of_wr W41).1
  obtain ⟨lc41, X41, N41⟩ := own_loc X41 (Fr.snoc X41 N30 gn_t7)
  have Fa42 : Exa Z h41 a1 "com/example/hollow_tree/hollowtree/query/IdentityTable" := Fa31.wr W41
  have Fa43 : Arv Z h41 en ke (.object "java/lang/Object") (2 : Int32) [x0, x1] .null := Fa32.other W41 ne_en_t7
  have Fa44 : Exa Z h41 en "[Ljava/lang/Object;" := Fa33.wr W41
  have Fa45 : own_O Z h41 x0 := Fa34.wr W41
  have Fa46 : own_O Z h41 x1 := Fa35.wr W41
  have Fa47 : own_O Z h41 (.ref p2) := Fa36.wr W41
  have Fa48 : own_O Z h41 r3 := Fa37.wr W41
  have Fa49 : Exa Z h41 t7 "[Ljava/lang/Object;" := Fa39.wr W41
  have Fa50 : Fld Z h41 a1 "com/example/hollow_tree/hollowtree/query/IdentityTable" "entries" "[Ljava/lang/Object;" (.ref t7) := Fa40.other W41 (Or.inl ne_a1_t7)
  have Fa51 : Fld Z h41 a1 "com/example/hollow_tree/hollowtree/query/IdentityTable" "size" "I" (.int (3 : Int32)) := Fw30.other W41 (Or.inl ne_a1_t7)
  have Ke41 : Keep h0 h41 [a1] := Ke30.wr W41 (Or.inr sz_t7)
  refine own_st (T' := T41) (g' := (mkF m 50 #[.val (.ref a1), .val (.ref p2), .val r3] [])) (fun _ k => (st41) _ k) ?_
  refine own_st (T' := T41) (g' := (mkF m 51 #[.val (.ref a1), .val (.ref p2), .val r3] [(.ref a1)])) (fun _ k => Jvm.Free.XS.aloadN (g := (mkF m 50 #[.val (.ref a1), .val (.ref p2), .val r3] [])) X41.here hx rfl (hb hby d8_50) rfl rfl k) ?_
  obtain ⟨T52, X52, e52, st52⟩ := getF X41 hx hZ hown (host := "") (Or.inl (hw _ (List.mem_of_getElem? (i := 43) rfl))) Via.refl e41 Fa50 (g := (mkF m 51 #[.val (.ref a1), .val (.ref p2), .val r3] [(.ref a1)])) rfl rfl (hb hby d8_51)
  refine own_st (T' := T52) (g' := (mkF m 54 #[.val (.ref a1), .val (.ref p2), .val r3] [(.ref t7)])) (fun _ k => (st52) _ k) ?_
  refine own_st (T' := T52) (g' := (mkF m 55 #[.val (.ref a1), .val (.ref p2), .val r3] [(.ref a1), (.ref t7)])) (fun _ k => Jvm.Free.XS.aloadN (g := (mkF m 54 #[.val (.ref a1), .val (.ref p2), .val r3] [(.ref t7)])) X52.here hx rfl (hb hby d8_54) rfl rfl k) ?_
  refine own_st (T' := T52) (g' := (mkF m 56 #[.val (.ref a1), .val (.ref p2), .val r3] [(.ref a1), (.ref a1), (.ref t7)])) (fun _ k => XS.dup (g := (mkF m 55 #[.val (.ref a1), .val (.ref p2), .val r3] [(.ref a1), (.ref t7)])) X52.here hx rfl (hb hby d8_55) rfl rfl k) ?_
  obtain ⟨T53, X53, e53, st53⟩ := getF X52 hx hZ hown (host := "") (Or.inl (hw _ (List.mem_of_getElem? (i := 50) rfl))) Via.refl e52 Fa51 (g := (mkF m 56 #[.val (.ref a1), .val (.ref p2), .val r3] [(.ref a1), (.ref a1), (.ref t7)])) rfl rfl (hb hby d8_56)
  refine own_st (T' := T53) (g' := (mkF m 59 #[.val (.ref a1), .val (.ref p2), .val r3] [(.int (3 : Int32)), (.ref a1), (.ref t7)])) (fun _ k => (st53) _ k) ?_
  refine own_st (T' := T53) (g' := (mkF m 60 #[.val (.ref a1), .val (.ref p2), .val r3] [(.int (3 : Int32)), (.ref a1), (.int (3 : Int32)), (.ref t7)])) (fun _ k => Jvm.Free.XS.dupX1 (g := (mkF m 59 #[.val (.ref a1), .val (.ref p2), .val r3] [(.int (3 : Int32)), (.ref a1), (.ref t7)])) X53.here hx rfl (hb hby d8_59) rfl rfl rfl k) ?_
  refine own_st (T' := T53) (g' := (mkF m 61 #[.val (.ref a1), .val (.ref p2), .val r3] [(.int (1 : Int32)), (.int (3 : Int32)), (.ref a1), (.int (3 : Int32)), (.ref t7)])) (fun _ k => XS.iconst (g := (mkF m 60 #[.val (.ref a1), .val (.ref p2), .val r3] [(.int (3 : Int32)), (.ref a1), (.int (3 : Int32)), (.ref t7)])) X53.here hx rfl (hb hby d8_60) k) ?_
  refine own_st (T' := T53) (g' := (mkF m 62 #[.val (.ref a1), .val (.ref p2), .val r3] [(.int (4 : Int32)), (.ref a1), (.int (3 : Int32)), (.ref t7)])) (fun _ k => Jvm.Free.XS.iadd (g := (mkF m 61 #[.val (.ref a1), .val (.ref p2), .val r3] [(.int (1 : Int32)), (.int (3 : Int32)), (.ref a1), (.int (3 : Int32)), (.ref t7)])) X53.here hx rfl (hb hby d8_61) rfl k) ?_
  obtain ⟨T54, h54, X54, e54, W54, st54⟩ := putF X53 hx hZ hown (host := "") (Or.inl (hw _ (List.mem_of_getElem? (i := 50) rfl))) Via.refl e53 Fa51 Fa42 (Or.inl (hw _ (List.mem_of_getElem? (i := 51) rfl))) (hw _ (List.mem_of_getElem? (i := 35) rfl)) (ty := .int) (by decide) rfl rfl (g := (mkF m 62 #[.val (.ref a1), .val (.ref p2), .val r3] [(.int (4 : Int32)), (.ref a1), (.int (3 : Int32)), (.ref t7)])) rfl rfl (hb hby d8_62)
  have Fw54 := Fa51.same W54
  have Zs54 : n0 ≤ h54.size := Nat.le_trans Zs41 (Keep.of_wr W54).1
  obtain ⟨lc54, X54, N54⟩ := own_loc X54 (Fr.snoc X54 N41 gn_a1)
  have Fa55 : Exa Z h54 a1 "com/example/hollow_tree/hollowtree/query/IdentityTable" := Fa42.wr W54
  have Fa56 : Arv Z h54 en ke (.object "java/lang/Object") (2 : Int32) [x0, x1] .null := Fa43.other W54 (Ne.symm ne_a1_en)
  have Fa57 : Exa Z h54 en "[Ljava/lang/Object;" := Fa44.wr W54
  have Fa58 : own_O Z h54 x0 := Fa45.wr W54
  have Fa59 : own_O Z h54 x1 := Fa46.wr W54
  have Fa60 : own_O Z h54 (.ref p2) := Fa47.wr W54
  have Fa61 : own_O Z h54 r3 := Fa48.wr W54
  have Fa62 : Exa Z h54 t7 "[Ljava/lang/Object;" := Fa49.wr W54
  have Fa63 : Fld Z h54 a1 "com/example/hollow_tree/hollowtree/query/IdentityTable" "entries" "[Ljava/lang/Object;" (.ref t7) := Fa50.other W54 (Or.inr (slot_ne (Or.inl (hw _ (List.mem_of_getElem? (i := 44) rfl))) (Or.inl (hw _ (List.mem_of_getElem? (i := 51) rfl))) (by decide) (t := (.array (.object "java/lang/Object"))) (t' := .int) (by decide) (by decide)))
  have Fa64 : Arv Z h54 t7 kt7 (.object "java/lang/Object") (4 : Int32) [x0, x1, (.ref p2), .null] .null := V41.other W54 (Ne.symm ne_a1_t7)
  have Ke54 : Keep h0 h54 [a1] := Ke41.wr W54 (Or.inl (List.mem_of_getElem? (i := 0) rfl))
  refine own_st (T' := T54) (g' := (mkF m 65 #[.val (.ref a1), .val (.ref p2), .val r3] [(.int (3 : Int32)), (.ref t7)])) (fun _ k => (st54) _ k) ?_
  refine own_st (T' := T54) (g' := (mkF m 66 #[.val (.ref a1), .val (.ref p2), .val r3] [r3, (.int (3 : Int32)), (.ref t7)])) (fun _ k => Jvm.Free.XS.aloadN (g := (mkF m 65 #[.val (.ref a1), .val (.ref p2), .val r3] [(.int (3 : Int32)), (.ref t7)])) X54.here hx rfl (hb hby d8_65) rfl (hr3).isRef k) ?_
  obtain ⟨cl65, Ar65, qk65, Sz65, Nn65, Hs65, Gs65⟩ := Fa64
  have hin65 : ¬ ((3 : Int32) < 0 ∨ cl65.slots.size ≤ ((3 : Int32)).toNatClampNeg) := inb_of Sz65 ⟨by decide, by decide⟩
  obtain ⟨T65, h65, X65, e65, W65, st65⟩ := stR X54 hx hZ e54 Ar65 (j := (3 : Int32)) hin65 rfl (Fa61.sto Ar65 qk65 Oq7) (g := (mkF m 66 #[.val (.ref a1), .val (.ref p2), .val r3] [r3, (.int (3 : Int32)), (.ref t7)])) rfl rfl (hb hby d8_66)
  have V65 : Arv Z h65 t7 kt7 (.object "java/lang/Object") (4 : Int32) [x0, x1, (.ref p2), r3] .null := Arv.set Ar65 qk65 Sz65 Nn65 Hs65 Gs65 (own_fitsR hr3) W65 3 rfl (Nat.le_of_ble_eq_true rfl)
  have Zs65 : n0 ≤ h65.size := Nat.le_trans Zs54 (Keep.of_wr W65).1
  obtain ⟨lc65, X65, N65⟩ := own_loc X65 (Fr.snoc X65 N54 gn_t7)
  have Fa66 : Exa Z h65 a1 "com/example/hollow_tree/hollowtree/query/IdentityTable" := Fa55.wr W65
  have Fa67 : Arv Z h65 en ke (.object "java/lang/Object") (2 : Int32) [x0, x1] .null := Fa56.other W65 ne_en_t7
  have Fa68 : Exa Z h65 en "[Ljava/lang/Object;" := Fa57.wr W65
  have Fa69 : own_O Z h65 x0 := Fa58.wr W65
  have Fa70 : own_O Z h65 x1 := Fa59.wr W65
  have Fa71 : own_O Z h65 (.ref p2) := Fa60.wr W65
  have Fa72 : own_O Z h65 r3 := Fa61.wr W65
  have Fa73 : Exa Z h65 t7 "[Ljava/lang/Object;" := Fa62.wr W65
  have Fa74 : Fld Z h65 a1 "com/example/hollow_tree/hollowtree/query/IdentityTable" "entries" "[Ljava/lang/Object;" (.ref t7) := Fa63.other W65 (Or.inl ne_a1_t7)
  have Fa75 : Fld Z h65 a1 "com/example/hollow_tree/hollowtree/query/IdentityTable" "size" "I" (.int (4 : Int32)) := Fw54.other W65 (Or.inl ne_a1_t7)
  have Ke65 : Keep h0 h65 [a1] := Ke54.wr W65 (Or.inr sz_t7)
  refine own_st (T' := T65) (g' := (mkF m 67 #[.val (.ref a1), .val (.ref p2), .val r3] [])) (fun _ k => (st65) _ k) ?_
  exact own_end (Q := Q8_1 Z a1 p2 r3 hr3 en ke mr x0 x1 h0 n0) (v := none) X65 (fun _ => rfl) (fun fs hr => X65.returnOut hx Bd.returns (hb hby d8_67) hr) (by rw [e65]; exact ⟨rfl, N65, Ke65, Fa66, ⟨t7, kt7, sz_t7, Fa74, Fa75, V65, Fa73, Oq7⟩⟩) (by decide) (by decide)
def Q8_2 (Z : State) (a1 : Addr) (p2 : Addr) (r3 : Value) (hr3 : own_Rf r3) (en : Addr) (ke : ClassId) (mr : Addr) (x0 x1 x2 x3 : Value) (h0 : Heap) (n0 : Nat) (v : Option Value) (h : Heap) (L : List Loc) : Prop := v = none ∧ Fr n0 L ∧ Keep h0 h [a1] ∧ Exa Z h a1 "com/example/hollow_tree/hollowtree/query/IdentityTable" ∧ ∃ (t : Addr) (kt : ClassId), h0.size ≤ t ∧ Fld Z h a1 "com/example/hollow_tree/hollowtree/query/IdentityTable" "entries" "[Ljava/lang/Object;" (.ref t) ∧ Fld Z h a1 "com/example/hollow_tree/hollowtree/query/IdentityTable" "size" "I" (.int (6 : Int32)) ∧ Arv Z h t kt (.object "java/lang/Object") (8 : Int32) [x0, x1, x2, x3, (.ref p2), r3, .null, .null] .null ∧ Exa Z h t "[Ljava/lang/Object;" ∧ Ovr Z kt "java/lang/Object"
set_option maxRecDepth 65536 in
set_option maxHeartbeats 40000000 in
theorem rm8_2 (l : Launch) (Z : State) (a0 : Array Value) (hw : ∀ d ∈ tables_1, d.before a0 Z = true) (ws : List Jvm.Cond) (a1 : Addr) (p2 : Addr) (r3 : Value) (hr3 : own_Rf r3) (en : Addr) (ke : ClassId) (mr : Addr) (x0 x1 x2 x3 : Value) (h0 : Heap) (n0 : Nat) (Z0 : n0 ≤ h0.size) (E_a1 : Exa Z h0 a1 "com/example/hollow_tree/hollowtree/query/IdentityTable") (F_e : Fld Z h0 a1 "com/example/hollow_tree/hollowtree/query/IdentityTable" "entries" "[Ljava/lang/Object;" (.ref en)) (F_s : Fld Z h0 a1 "com/example/hollow_tree/hollowtree/query/IdentityTable" "size" "I" (.int (4 : Int32))) (V_en : Arv Z h0 en ke (.object "java/lang/Object") (4 : Int32) [x0, x1, x2, x3] .null) (E_en : Exa Z h0 en "[Ljava/lang/Object;") (O_x0 : own_O Z h0 x0) (O_x1 : own_O Z h0 x1) (O_x2 : own_O Z h0 x2) (O_x3 : own_O Z h0 x3) (O_p2 : own_O Z h0 (.ref p2)) (O_r3 : own_O Z h0 r3) (gn_a1 : n0 ≤ a1) (Mm : own_Mm Z "[Ljava/lang/Object;" mr) (hne : a1 ≠ en) :
    MetFree l (⟨"com/example/hollow_tree/hollowtree/query/IdentityTable", "put", "(Ljava/lang/Object;Ljava/lang/Object;)V"⟩ : MethodName) (head1 (Jvm.Cond.code (⟨"com/example/hollow_tree/hollowtree/query/IdentityTable", "put", "(Ljava/lang/Object;Ljava/lang/Object;)V"⟩ : MethodName) prog_144_method_3_code 3 none :: ws) ({ frames := 3, cells := 1, slots := 8, locals := 70 } : Room)) (fun a U => a = #[(.ref a1), (.ref p2), r3] ∧ Z.Warmed39 U.vm ∧ U.heap = h0) (fun _ _ _ _ _ => True) (fun _ U o U' => ∃ v L, o = .returned v ∧ Q8_2 Z a1 p2 r3 hr3 en ke mr x0 x1 x2 x3 h0 n0 v U'.heap L ∧ FrameEnd U o U' L ({ frames := 3, cells := 1, slots := 8, locals := 70 } : Room).cells ({ frames := 3, cells := 1, slots := 8, locals := 70 } : Room).slots) := by
  refine MetFree.of_bodySF (plainFor_of_name own_pn8) hisR ?_
  intro p e s m args below meth c s₁ Bd hml0 hP hK
  obtain ⟨rfl, hZ, hh⟩ := hP
  have hx := Bd.exec
  have hby := Bd.bytes
  have hml : c.maxLocals = 3 := hml0
  have hown : s.vm.findClass "com/example/hollow_tree/hollowtree/query/IdentityTable" = some m.cls := findClass_of_methodNamed Bd.named
  have hnm := (name_of_methodNamed Bd.named Bd.method).1
  have hlk := Bd.notSynchronized
  have X0 : Stand p l e ({ frames := 3, cells := 1, slots := 8, locals := 70 } : Room) s m #[(.ref a1), (.ref p2), r3] below meth c s₁ [] 0 0 := Stand.of_body Bd
  have e0 : s₁.heap = h0 := by rw [← hh, Bd.state]; rfl
  have N0 := Fr.nil n0
  show own_Goes p e below (fun o U' => ∃ v L, o = .returned v ∧ Q8_2 Z a1 p2 r3 hr3 en ke mr x0 x1 x2 x3 h0 n0 v U'.heap L ∧ FrameEnd s o U' L ({ frames := 3, cells := 1, slots := 8, locals := 70 } : Room).cells ({ frames := 3, cells := 1, slots := 8, locals := 70 } : Room).slots) s₁ (entryFrame m #[(.ref a1), (.ref p2), r3] 3)
  refine own_st (T' := s₁) (g' := mkF m 0 #[.val (.ref a1), .val (.ref p2), .val r3] []) (fun _ k => castTop (own_ef8 m a1 p2 r3 hr3) k) ?_
  have ne_a1_en := hne
  refine own_st (T' := s₁) (g' := (mkF m 1 #[.val (.ref a1), .val (.ref p2), .val r3] [(.ref a1)])) (fun _ k => Jvm.Free.XS.aloadN (g := (mkF m 0 #[.val (.ref a1), .val (.ref p2), .val r3] [])) X0.here hx rfl (hb hby d8_0) rfl rfl k) ?_
  obtain ⟨T1, X1, e1, st1⟩ := getF X0 hx hZ hown (host := "") (Or.inl (hw _ (List.mem_of_getElem? (i := 50) rfl))) Via.refl e0 F_s (g := (mkF m 1 #[.val (.ref a1), .val (.ref p2), .val r3] [(.ref a1)])) rfl rfl (hb hby d8_1)
  refine own_st (T' := T1) (g' := (mkF m 4 #[.val (.ref a1), .val (.ref p2), .val r3] [(.int (4 : Int32))])) (fun _ k => (st1) _ k) ?_
  refine own_st (T' := T1) (g' := (mkF m 5 #[.val (.ref a1), .val (.ref p2), .val r3] [(.ref a1), (.int (4 : Int32))])) (fun _ k => Jvm.Free.XS.aloadN (g := (mkF m 4 #[.val (.ref a1), .val (.ref p2), .val r3] [(.int (4 : Int32))])) X1.here hx rfl (hb hby d8_4) rfl rfl k) ?_
  obtain ⟨T2, X2, e2, st2⟩ := getF X1 hx hZ hown (host := "") (Or.inl (hw _ (List.mem_of_getElem? (i := 43) rfl))) Via.refl e1 F_e (g := (mkF m 5 #[.val (.ref a1), .val (.ref p2), .val r3] [(.ref a1), (.int (4 : Int32))])) rfl rfl (hb hby d8_5)
  refine own_st (T' := T2) (g' := (mkF m 8 #[.val (.ref a1), .val (.ref p2), .val r3] [(.ref en), (.int (4 : Int32))])) (fun _ k => (st2) _ k) ?_
  obtain ⟨cl3, Ar3, -, Sz3, Nn3, -, -⟩ := id V_en
  have al3 := X2.arraylength hx (by rw [e2]; exact Ar3.1) (State.isArrayOf_alike hZ.alike Ar3.2.1) (g := (mkF m 8 #[.val (.ref a1), .val (.ref p2), .val r3] [(.ref en), (.int (4 : Int32))])) rfl rfl (hb hby d8_8)
  rw [len_of Sz3 Nn3] at al3
  refine own_st (T' := T2) (g' := (mkF m 9 #[.val (.ref a1), .val (.ref p2), .val r3] [(.int (4 : Int32)), (.int (4 : Int32))])) (fun _ k => (al3) _ k) ?_
  refine own_st (T' := T2) (g' := (mkF m 12 #[.val (.ref a1), .val (.ref p2), .val r3] [])) (fun _ k => XS.icmpNo (g := (mkF m 9 #[.val (.ref a1), .val (.ref p2), .val r3] [(.int (4 : Int32)), (.int (4 : Int32))])) X2.here hx rfl (hb hby d8_9) rfl (teq (by decide : (4 : Int32) = (4 : Int32))).2 k) ?_
  refine own_st (T' := T2) (g' := (mkF m 13 #[.val (.ref a1), .val (.ref p2), .val r3] [(.ref a1)])) (fun _ k => Jvm.Free.XS.aloadN (g := (mkF m 12 #[.val (.ref a1), .val (.ref p2), .val r3] [])) X2.here hx rfl (hb hby d8_12) rfl rfl k) ?_
  refine own_st (T' := T2) (g' := (mkF m 14 #[.val (.ref a1), .val (.ref p2), .val r3] [(.ref a1), (.ref a1)])) (fun _ k => Jvm.Free.XS.aloadN (g := (mkF m 13 #[.val (.ref a1), .val (.ref p2), .val r3] [(.ref a1)])) X2.here hx rfl (hb hby d8_13) rfl rfl k) ?_
  obtain ⟨T4, X4, e4, st4⟩ := getF X2 hx hZ hown (host := "") (Or.inl (hw _ (List.mem_of_getElem? (i := 43) rfl))) Via.refl e2 F_e (g := (mkF m 14 #[.val (.ref a1), .val (.ref p2), .val r3] [(.ref a1), (.ref a1)])) rfl rfl (hb hby d8_14)
  refine own_st (T' := T4) (g' := (mkF m 17 #[.val (.ref a1), .val (.ref p2), .val r3] [(.ref en), (.ref a1)])) (fun _ k => (st4) _ k) ?_
  refine own_st (T' := T4) (g' := (mkF m 18 #[.val (.ref a1), .val (.ref p2), .val r3] [(.int (2 : Int32)), (.ref en), (.ref a1)])) (fun _ k => XS.iconst (g := (mkF m 17 #[.val (.ref a1), .val (.ref p2), .val r3] [(.ref en), (.ref a1)])) X4.here hx rfl (hb hby d8_17) k) ?_
  refine own_st (T' := T4) (g' := (mkF m 19 #[.val (.ref a1), .val (.ref p2), .val r3] [(.ref a1), (.int (2 : Int32)), (.ref en), (.ref a1)])) (fun _ k => Jvm.Free.XS.aloadN (g := (mkF m 18 #[.val (.ref a1), .val (.ref p2), .val r3] [(.int (2 : Int32)), (.ref en), (.ref a1)])) X4.here hx rfl (hb hby d8_18) rfl rfl k) ?_
  obtain ⟨T5, X5, e5, st5⟩ := getF X4 hx hZ hown (host := "") (Or.inl (hw _ (List.mem_of_getElem? (i := 50) rfl))) Via.refl e4 F_s (g := (mkF m 19 #[.val (.ref a1), .val (.ref p2), .val r3] [(.ref a1), (.int (2 : Int32)), (.ref en), (.ref a1)])) rfl rfl (hb hby d8_19)
  refine own_st (T' := T5) (g' := (mkF m 22 #[.val (.ref a1), .val (.ref p2), .val r3] [(.int (4 : Int32)), (.int (2 : Int32)), (.ref en), (.ref a1)])) (fun _ k => (st5) _ k) ?_
  refine own_st (T' := T5) (g' := (mkF m 23 #[.val (.ref a1), .val (.ref p2), .val r3] [(.int (8 : Int32)), (.ref en), (.ref a1)])) (fun _ k => Jvm.Free.XS.imul (g := (mkF m 22 #[.val (.ref a1), .val (.ref p2), .val r3] [(.int (4 : Int32)), (.int (2 : Int32)), (.ref en), (.ref a1)])) X5.here hx rfl (hb hby d8_22) rfl k) ?_
  refine own_st (T' := T5) (g' := (mkF m 24 #[.val (.ref a1), .val (.ref p2), .val r3] [(.int (2 : Int32)), (.int (8 : Int32)), (.ref en), (.ref a1)])) (fun _ k => XS.iconst (g := (mkF m 23 #[.val (.ref a1), .val (.ref p2), .val r3] [(.int (8 : Int32)), (.ref en), (.ref a1)])) X5.here hx rfl (hb hby d8_23) k) ?_
  obtain ⟨v6, T6, L6, X6, hQ6, st6⟩ := own_packS (Jvm.LawKit.callS X5 hx (y := (⟨"java/lang/Math", "max", "(II)I"⟩ : MethodName)) hown (mvT hZ (hw _ (List.mem_of_getElem? (i := 61) rfl))) (mvT hZ (hw _ (List.mem_of_getElem? (i := 62) rfl))) (mvT hZ (hw _ (List.mem_of_getElem? (i := 63) rfl))) (mvT hZ (hw _ (List.mem_of_getElem? (i := 64) rfl))) (by decide) (backOf (W := 2) (rm9 l Z a0 hw [] (8 : Int32) (2 : Int32) h0 n0 Z0 ) hZ (hw _ (List.mem_of_getElem? (i := 64) rfl)) (hw _ (List.mem_of_getElem? (i := 63) rfl)) (by decide) (by decide)) (g := (mkF m 24 #[.val (.ref a1), .val (.ref p2), .val r3] [(.int (2 : Int32)), (.int (8 : Int32)), (.ref en), (.ref a1)])) rfl (by rw [hml]; rfl) (argsL := [(.int (8 : Int32)), (.int (2 : Int32))]) (rest := [(.ref en), (.ref a1)]) (lenOf own_pd8_0 rfl) rfl (by show 2 * 0 + _ ≤ _; exact Nat.le_of_eq rfl) (hb hby d8_24) (fun _ _ => ⟨rfl, e5, (by decide : 0 + 0 ≤ _), (by decide : 0 + 0 ≤ _)⟩))
  obtain ⟨hv6, N6q, e6⟩ := hQ6
  rw [show own_f9_0 (8 : Int32) (2 : Int32) = (8 : Int32) from by decide] at hv6
  subst hv6
  obtain ⟨lc6, X6, N6⟩ := own_loc X6 (Fr.app N0 N6q)
  refine own_st (T' := T6) (g' := (mkF m 27 #[.val (.ref a1), .val (.ref p2), .val r3] [(.int (8 : Int32)), (.ref en), (.ref a1)])) (fun _ k => (st6) _ k) ?_
  obtain ⟨v7, T7, L7, X7, hQ7, st7⟩ := own_packS (Jvm.LawKit.callS X6 hx (y := (⟨"java/util/Arrays", "copyOf", "([Ljava/lang/Object;I)[Ljava/lang/Object;"⟩ : MethodName)) hown (mvT hZ (hw _ (List.mem_of_getElem? (i := 65) rfl))) (mvT hZ (hw _ (List.mem_of_getElem? (i := 66) rfl))) (mvT hZ (hw _ (List.mem_of_getElem? (i := 67) rfl))) (mvT hZ (hw _ (List.mem_of_getElem? (i := 68) rfl))) (by decide) (backOf (W := 1) (rm10 l Z a0 hw [] en (8 : Int32) mr (4 : Int32) ke [x0, x1, x2, x3] h0 n0 Z0 V_en E_en Mm (fun v hv => by
      simp only [List.mem_cons, List.not_mem_nil, or_false] at hv
      rcases hv with rfl | rfl | rfl | rfl
      · exact O_x0
      · exact O_x1
      · exact O_x2
      · exact O_x3) rfl (by decide) (by decide) (by decide) (by decide) (by decide)) hZ (hw _ (List.mem_of_getElem? (i := 68) rfl)) (hw _ (List.mem_of_getElem? (i := 67) rfl)) (by decide) (by decide)) (g := (mkF m 27 #[.val (.ref a1), .val (.ref p2), .val r3] [(.int (8 : Int32)), (.ref en), (.ref a1)])) rfl (by rw [hml]; rfl) (argsL := [(.ref en), (.int (8 : Int32))]) (rest := [(.ref a1)]) (lenOf own_pd8_1 rfl) rfl (by show 2 * 0 + _ ≤ _; exact Nat.le_of_eq rfl) (hb hby d8_27) (fun _ _ => ⟨rfl, e6, (by decide : 0 + 1 ≤ _), (by decide : 0 + 8 ≤ _)⟩))
  obtain ⟨t7, kt7, rfl, N7q, Eq7, hsz7, Vq7, Xq7, Oq7⟩ := hQ7
  obtain ⟨lc7, X7, N7⟩ := own_loc X7 (Fr.app N6 N7q)
  have ne_a1_t7 : a1 ≠ t7 := Nat.ne_of_lt (Nat.lt_of_lt_of_le E_a1.lt hsz7)
  have ne_en_t7 : en ≠ t7 := Nat.ne_of_lt (Nat.lt_of_lt_of_le V_en.lt hsz7)
  have gn_t7 : n0 ≤ t7 := Nat.le_trans Z0 hsz7
  have sz_t7 : h0.size ≤ t7 := Nat.le_trans (Keep.refl h0 [a1]).1 hsz7
  have Zs7 : n0 ≤ T7.heap.size := Nat.le_trans Z0 Eq7.1
  have Fa8 : Exa Z T7.heap a1 "com/example/hollow_tree/hollowtree/query/IdentityTable" := E_a1.ext Eq7
  have Fa9 : Fld Z T7.heap a1 "com/example/hollow_tree/hollowtree/query/IdentityTable" "entries" "[Ljava/lang/Object;" (.ref en) := F_e.ext Eq7
  have Fa10 : Fld Z T7.heap a1 "com/example/hollow_tree/hollowtree/query/IdentityTable" "size" "I" (.int (4 : Int32)) := F_s.ext Eq7
  have Fa11 : Arv Z T7.heap en ke (.object "java/lang/Object") (4 : Int32) [x0, x1, x2, x3] .null := V_en.ext Eq7
  have Fa12 : Exa Z T7.heap en "[Ljava/lang/Object;" := E_en.ext Eq7
  have Fa13 : own_O Z T7.heap x0 := O_x0.ext Eq7
  have Fa14 : own_O Z T7.heap x1 := O_x1.ext Eq7
  have Fa15 : own_O Z T7.heap x2 := O_x2.ext Eq7
  have Fa16 : own_O Z T7.heap x3 := O_x3.ext Eq7
  have Fa17 : own_O Z T7.heap (.ref p2) := O_p2.ext Eq7
  have Fa18 : own_O Z T7.heap r3 := O_r3.ext Eq7
  have Ke7 : Keep h0 T7.heap [a1] := (Keep.refl h0 [a1]).ext Eq7
  have Vx7 : Arv Z T7.heap t7 kt7 (.object "java/lang/Object") (8 : Int32) [x0, x1, x2, x3, .null, .null, .null, .null] .null := Vq7
  refine own_st (T' := T7) (g' := (mkF m 30 #[.val (.ref a1), .val (.ref p2), .val r3] [(.ref t7), (.ref a1)])) (fun _ k => (st7) _ k) ?_
  obtain ⟨T19, h19, X19, e19, W19, st19⟩ := putF X7 hx hZ hown (host := "") (Or.inl (hw _ (List.mem_of_getElem? (i := 43) rfl))) Via.refl rfl Fa9 Fa8 (Or.inl (hw _ (List.mem_of_getElem? (i := 44) rfl))) (hw _ (List.mem_of_getElem? (i := 35) rfl)) (ty := (.array (.object "java/lang/Object"))) (by decide) rfl rfl (g := (mkF m 30 #[.val (.ref a1), .val (.ref p2), .val r3] [(.ref t7), (.ref a1)])) rfl rfl (hb hby d8_30)
  have Fw19 := Fa9.same W19
  have Zs19 : n0 ≤ h19.size := Nat.le_trans Zs7 (Keep.of_wr W19).1
  obtain ⟨lc19, X19, N19⟩ := own_loc X19 (Fr.snoc X19 N7 gn_a1)
  have Fa20 : Exa Z h19 a1 "com/example/hollow_tree/hollowtree/query/IdentityTable" := Fa8.wr W19
  have Fa21 : Fld Z h19 a1 "com/example/hollow_tree/hollowtree/query/IdentityTable" "size" "I" (.int (4 : Int32)) := Fa10.other W19 (Or.inr (slot_ne (Or.inl (hw _ (List.mem_of_getElem? (i := 51) rfl))) (Or.inl (hw _ (List.mem_of_getElem? (i := 44) rfl))) (by decide) (t := .int) (t' := (.array (.object "java/lang/Object"))) (by decide) (by decide)))
  have Fa22 : Arv Z h19 en ke (.object "java/lang/Object") (4 : Int32) [x0, x1, x2, x3] .null := Fa11.other W19 (Ne.symm ne_a1_en)
  have Fa23 : Exa Z h19 en "[Ljava/lang/Object;" := Fa12.wr W19
  have Fa24 : own_O Z h19 x0 := Fa13.wr W19
  have Fa25 : own_O Z h19 x1 := Fa14.wr W19
  have Fa26 : own_O Z h19 x2 := Fa15.wr W19
  have Fa27 : own_O Z h19 x3 := Fa16.wr W19
  have Fa28 : own_O Z h19 (.ref p2) := Fa17.wr W19
  have Fa29 : own_O Z h19 r3 := Fa18.wr W19
  have Fa30 : Arv Z h19 t7 kt7 (.object "java/lang/Object") (8 : Int32) [x0, x1, x2, x3, .null, .null, .null, .null] .null := Vx7.other W19 (Ne.symm ne_a1_t7)
  have Fa31 : Exa Z h19 t7 "[Ljava/lang/Object;" := Xq7.wr W19
  have Ke19 : Keep h0 h19 [a1] := Ke7.wr W19 (Or.inl (List.mem_of_getElem? (i := 0) rfl))
  refine own_st (T' := T19) (g' := (mkF m 33 #[.val (.ref a1), .val (.ref p2), .val r3] [])) (fun _ k => (st19) _ k) ?_
  refine own_st (T' := T19) (g' := (mkF m 34 #[.val (.ref a1), .val (.ref p2), .val r3] [(.ref a1)])) (fun _ k => Jvm.Free.XS.aloadN (g := (mkF m 33 #[.val (.ref a1), .val (.ref p2), .val r3] [])) X19.here hx rfl (hb hby d8_33) rfl rfl k) ?_
  obtain ⟨T32, X32, e32, st32⟩ := getF X19 hx hZ hown (host := "") (Or.inl (hw _ (List.mem_of_getElem? (i := 43) rfl))) Via.refl e19 Fw19 (g := (mkF m 34 #[.val (.ref a1), .val (.ref p2), .val r3] [(.ref a1)])) rfl rfl (hb hby d8_34)
  refine own_st (T' := T32) (g' := (mkF m 37 #[.val (.ref a1), .val (.ref p2), .val r3] [(.ref t7)])) (fun _ k => (st32) _ k) ?_
  refine own_st (T' := T32) (g' := (mkF m 38 #[.val (.ref a1), .val (.ref p2), .val r3] [(.ref a1), (.ref t7)])) (fun _ k => Jvm.Free.XS.aloadN (g := (mkF m 37 #[.val (.ref a1), .val (.ref p2), .val r3] [(.ref t7)])) X32.here hx rfl (hb hby d8_37) rfl rfl k) ?_
  refine own_st (T' := T32) (g' := (mkF m 39 #[.val (.ref a1), .val (.ref p2), .val r3] [(.ref a1), (.ref a1), (.ref t7)])) (fun _ k => XS.dup (g := (mkF m 38 #[.val (.ref a1), .val (.ref p2), .val r3] [(.ref a1), (.ref t7)])) X32.here hx rfl (hb hby d8_38) rfl rfl k) ?_
  obtain ⟨T33, X33, e33, st33⟩ := getF X32 hx hZ hown (host := "") (Or.inl (hw _ (List.mem_of_getElem? (i := 50) rfl))) Via.refl e32 Fa21 (g := (mkF m 39 #[.val (.ref a1), .val (.ref p2), .val r3] [(.ref a1), (.ref a1), (.ref t7)])) rfl rfl (hb hby d8_39)
  refine own_st (T' := T33) (g' := (mkF m 42 #[.val (.ref a1), .val (.ref p2), .val r3] [(.int (4 : Int32)), (.ref a1), (.ref t7)])) (fun _ k => (st33) _ k) ?_
  refine own_st (T' := T33) (g' := (mkF m 43 #[.val (.ref a1), .val (.ref p2), .val r3] [(.int (4 : Int32)), (.ref a1), (.int (4 : Int32)), (.ref t7)])) (fun _ k => Jvm.Free.XS.dupX1 (g := (mkF m 42 #[.val (.ref a1), .val (.ref p2), .val r3] [(.int (4 : Int32)), (.ref a1), (.ref t7)])) X33.here hx rfl (hb hby d8_42) rfl rfl rfl k) ?_
  refine own_st (T' := T33) (g' := (mkF m 44 #[.val (.ref a1), .val (.ref p2), .val r3] [(.int (1 : Int32)), (.int (4 : Int32)), (.ref a1), (.int (4 : Int32)), (.ref t7)])) (fun _ k => XS.iconst (g := (mkF m 43 #[.val (.ref a1), .val (.ref p2), .val r3] [(.int (4 : Int32)), (.ref a1), (.int (4 : Int32)), (.ref t7)])) X33.here hx rfl (hb hby d8_43) k) ?_
  refine own_st (T' := T33) (g' := (mkF m 45 #[.val (.ref a1), .val (.ref p2), .val r3] [(.int (5 : Int32)), (.ref a1), (.int (4 : Int32)), (.ref t7)])) (fun _ k => Jvm.Free.XS.iadd (g := (mkF m 44 #[.val (.ref a1), .val (.ref p2), .val r3] [(.int (1 : Int32)), (.int (4 : Int32)), (.ref a1), (.int (4 : Int32)), (.ref t7)])) X33.here hx rfl (hb hby d8_44) rfl k) ?_
  obtain ⟨T34, h34, X34, e34, W34, st34⟩ := putF X33 hx hZ hown (host := "") (Or.inl (hw _ (List.mem_of_getElem? (i := 50) rfl))) Via.refl e33 Fa21 Fa20 (Or.inl (hw _ (List.mem_of_getElem? (i := 51) rfl))) (hw _ (List.mem_of_getElem? (i := 35) rfl)) (ty := .int) (by decide) rfl rfl (g := (mkF m 45 #[.val (.ref a1), .val (.ref p2), .val r3] [(.int (5 : Int32)), (.ref a1), (.int (4 : Int32)), (.ref t7)])) rfl rfl (hb hby d8_45)
  have Fw34 := Fa21.same W34
  have Zs34 : n0 ≤ h34.size := Nat.le_trans Zs19 (Keep.of_wr W34).1
  obtain ⟨lc34, X34, N34⟩ := own_loc X34 (Fr.snoc X34 N19 gn_a1)
  have Fa35 : Exa Z h34 a1 "com/example/hollow_tree/hollowtree/query/IdentityTable" := Fa20.wr W34
  have Fa36 : Arv Z h34 en ke (.object "java/lang/Object") (4 : Int32) [x0, x1, x2, x3] .null := Fa22.other W34 (Ne.symm ne_a1_en)
  have Fa37 : Exa Z h34 en "[Ljava/lang/Object;" := Fa23.wr W34
  have Fa38 : own_O Z h34 x0 := Fa24.wr W34
  have Fa39 : own_O Z h34 x1 := Fa25.wr W34
  have Fa40 : own_O Z h34 x2 := Fa26.wr W34
  have Fa41 : own_O Z h34 x3 := Fa27.wr W34
  have Fa42 : own_O Z h34 (.ref p2) := Fa28.wr W34
  have Fa43 : own_O Z h34 r3 := Fa29.wr W34
  have Fa44 : Arv Z h34 t7 kt7 (.object "java/lang/Object") (8 : Int32) [x0, x1, x2, x3, .null, .null, .null, .null] .null := Fa30.other W34 (Ne.symm ne_a1_t7)
  have Fa45 : Exa Z h34 t7 "[Ljava/lang/Object;" := Fa31.wr W34
  have Fa46 : Fld Z h34 a1 "com/example/hollow_tree/hollowtree/query/IdentityTable" "entries" "[Ljava/lang/Object;" (.ref t7) := Fw19.other W34 (Or.inr (slot_ne (Or.inl (hw _ (List.mem_of_getElem? (i := 44) rfl))) (Or.inl (hw _ (List.mem_of_getElem? (i := 51) rfl))) (by decide) (t := (.array (.object "java/lang/Object"))) (t' := .int) (by decide) (by decide)))
  have Ke34 : Keep h0 h34 [a1] := Ke19.wr W34 (Or.inl (List.mem_of_getElem? (i := 0) rfl))
  refine own_st (T' := T34) (g' := (mkF m 48 #[.val (.ref a1), .val (.ref p2), .val r3] [(.int (4 : Int32)), (.ref t7)])) (fun _ k => (st34) _ k) ?_
  refine own_st (T' := T34) (g' := (mkF m 49 #[.val (.ref a1), .val (.ref p2), .val r3] [(.ref p2), (.int (4 : Int32)), (.ref t7)])) (fun _ k => Jvm.Free.XS.aloadN (g := (mkF m 48 #[.val (.ref a1), .val (.ref p2), .val r3] [(.int (4 : Int32)), (.ref t7)])) X34.here hx rfl (hb hby d8_48) rfl rfl k) ?_
  obtain ⟨cl47, Ar47, qk47, Sz47, Nn47, Hs47, Gs47⟩ := Fa44
  have hin47 : ¬ ((4 : Int32) < 0 ∨ cl47.slots.size ≤ ((4 : Int32)).toNatClampNeg) := inb_of Sz47 ⟨by decide, by decide⟩
  obtain ⟨T47, h47, X47, e47, W47, st47⟩ := stR X34 hx hZ e34 Ar47 (j := (4 : Int32)) hin47 rfl (Fa42.sto Ar47 qk47 Oq7) (g := (mkF m 49 #[.val (.ref a1), .val (.ref p2), .val r3] [(.ref p2), (.int (4 : Int32)), (.ref t7)])) rfl rfl (hb hby d8_49)
  have V47 : Arv Z h47 t7 kt7 (.object "java/lang/Object") (8 : Int32) [x0, x1, x2, x3, (.ref p2), .null, .null, .null] .null := Arv.set Ar47 qk47 Sz47 Nn47 Hs47 Gs47 rfl W47 4 rfl (Nat.le_of_ble_eq_true rfl)
  have Zs47 : n0 ≤ h47.size := Nat.le_trans Zs34 (Keep.of_wr W47).1
  obtain ⟨lc47, X47, N47⟩ := own_loc X47 (Fr.snoc X47 N34 gn_t7)
  have Fa48 : Exa Z h47 a1 "com/example/hollow_tree/hollowtree/query/IdentityTable" := Fa35.wr W47
  have Fa49 : Arv Z h47 en ke (.object "java/lang/Object") (4 : Int32) [x0, x1, x2, x3] .null := Fa36.other W47 ne_en_t7
  have Fa50 : Exa Z h47 en "[Ljava/lang/Object;" := Fa37.wr W47
  have Fa51 : own_O Z h47 x0 := Fa38.wr W47
  have Fa52 : own_O Z h47 x1 := Fa39.wr W47
  have Fa53 : own_O Z h47 x2 := Fa40.wr W47
  have Fa54 : own_O Z h47 x3 := Fa41.wr W47
  have Fa55 : own_O Z h47 (.ref p2) := Fa42.wr W47
  have Fa56 : own_O Z h47 r3 := Fa43.wr W47
  have Fa57 : Exa Z h47 t7 "[Ljava/lang/Object;" := Fa45.wr W47
  have Fa58 : Fld Z h47 a1 "com/example/hollow_tree/hollowtree/query/IdentityTable" "entries" "[Ljava/lang/Object;" (.ref t7) := Fa46.other W47 (Or.inl ne_a1_t7)
  have Fa59 : Fld Z h47 a1 "com/example/hollow_tree/hollowtree/query/IdentityTable" "size" "I" (.int (5 : Int32)) := Fw34.other W47 (Or.inl ne_a1_t7)
  have Ke47 : Keep h0 h47 [a1] := Ke34.wr W47 (Or.inr sz_t7)
  refine own_st (T' := T47) (g' := (mkF m 50 #[.val (.ref a1), .val (.ref p2), .val r3] [])) (fun _ k => (st47) _ k) ?_
  refine own_st (T' := T47) (g' := (mkF m 51 #[.val (.ref a1), .val (.ref p2), .val r3] [(.ref a1)])) (fun _ k => Jvm.Free.XS.aloadN (g := (mkF m 50 #[.val (.ref a1), .val (.ref p2), .val r3] [])) X47.here hx rfl (hb hby d8_50) rfl rfl k) ?_
  obtain ⟨T60, X60, e60, st60⟩ := getF X47 hx hZ hown (host := "") (Or.inl (hw _ (List.mem_of_getElem? (i := 43) rfl))) Via.refl e47 Fa58 (g := (mkF m 51 #[.val (.ref a1), .val (.ref p2), .val r3] [(.ref a1)])) rfl rfl (hb hby d8_51)
  refine own_st (T' := T60) (g' := (mkF m 54 #[.val (.ref a1), .val (.ref p2), .val r3] [(.ref t7)])) (fun _ k => (st60) _ k) ?_
  refine own_st (T' := T60) (g' := (mkF m 55 #[.val (.ref a1), .val (.ref p2), .val r3] [(.ref a1), (.ref t7)])) (fun _ k => Jvm.Free.XS.aloadN (g := (mkF m 54 #[.val (.ref a1), .val (.ref p2), .val r3] [(.ref t7)])) X60.here hx rfl (hb hby d8_54) rfl rfl k) ?_
  refine own_st (T' := T60) (g' := (mkF m 56 #[.val (.ref a1), .val (.ref p2), .val r3] [(.ref a1), (.ref a1), (.ref t7)])) (fun _ k => XS.dup (g := (mkF m 55 #[.val (.ref a1), .val (.ref p2), .val r3] [(.ref a1), (.ref t7)])) X60.here hx rfl (hb hby d8_55) rfl rfl k) ?_
  obtain ⟨T61, X61, e61, st61⟩ := getF X60 hx hZ hown (host := "") (Or.inl (hw _ (List.mem_of_getElem? (i := 50) rfl))) Via.refl e60 Fa59 (g := (mkF m 56 #[.val (.ref a1), .val (.ref p2), .val r3] [(.ref a1), (.ref a1), (.ref t7)])) rfl rfl (hb hby d8_56)
  refine own_st (T' := T61) (g' := (mkF m 59 #[.val (.ref a1), .val (.ref p2), .val r3] [(.int (5 : Int32)), (.ref a1), (.ref t7)])) (fun _ k => (st61) _ k) ?_
  refine own_st (T' := T61) (g' := (mkF m 60 #[.val (.ref a1), .val (.ref p2), .val r3] [(.int (5 : Int32)), (.ref a1), (.int (5 : Int32)), (.ref t7)])) (fun _ k => Jvm.Free.XS.dupX1 (g := (mkF m 59 #[.val (.ref a1), .val (.ref p2), .val r3] [(.int (5 : Int32)), (.ref a1), (.ref t7)])) X61.here hx rfl (hb hby d8_59) rfl rfl rfl k) ?_
  refine own_st (T' := T61) (g' := (mkF m 61 #[.val (.ref a1), .val (.ref p2), .val r3] [(.int (1 : Int32)), (.int (5 : Int32)), (.ref a1), (.int (5 : Int32)), (.ref t7)])) (fun _ k => XS.iconst (g := (mkF m 60 #[.val (.ref a1), .val (.ref p2), .val r3] [(.int (5 : Int32)), (.ref a1), (.int (5 : Int32)), (.ref t7)])) X61.here hx rfl (hb hby d8_60) k) ?_
  refine own_st (T' := T61) (g' := (mkF m 62 #[.val (.ref a1), .val (.ref p2), .val r3] [(.int (6 : Int32)), (.ref a1), (.int (5 : Int32)), (.ref t7)])) (fun _ k => Jvm.Free.XS.iadd (g := (mkF m 61 #[.val (.ref a1), .val (.ref p2), .val r3] [(.int (1 : Int32)), (.int (5 : Int32)), (.ref a1), (.int (5 : Int32)), (.ref t7)])) X61.here hx rfl (hb hby d8_61) rfl k) ?_
  obtain ⟨T62, h62, X62, e62, W62, st62⟩ := putF X61 hx hZ hown (host := "") (Or.inl (hw _ (List.mem_of_getElem? (i := 50) rfl))) Via.refl e61 Fa59 Fa48 (Or.inl (hw _ (List.mem_of_getElem? (i := 51) rfl))) (hw _ (List.mem_of_getElem? (i := 35) rfl)) (ty := .int) (by decide) rfl rfl (g := (mkF m 62 #[.val (.ref a1), .val (.ref p2), .val r3] [(.int (6 : Int32)), (.ref a1), (.int (5 : Int32)), (.ref t7)])) rfl rfl (hb hby d8_62)
  have Fw62 := Fa59.same W62
  have Zs62 : n0 ≤ h62.size := Nat.le_trans Zs47 (Keep.of_wr W62).1
  obtain ⟨lc62, X62, N62⟩ := own_loc X62 (Fr.snoc X62 N47 gn_a1)
  have Fa63 : Exa Z h62 a1 "com/example/hollow_tree/hollowtree/query/IdentityTable" := Fa48.wr W62
  have Fa64 : Arv Z h62 en ke (.object "java/lang/Object") (4 : Int32) [x0, x1, x2, x3] .null := Fa49.other W62 (Ne.symm ne_a1_en)
  have Fa65 : Exa Z h62 en "[Ljava/lang/Object;" := Fa50.wr W62
  have Fa66 : own_O Z h62 x0 := Fa51.wr W62
  have Fa67 : own_O Z h62 x1 := Fa52.wr W62
  have Fa68 : own_O Z h62 x2 := Fa53.wr W62
  have Fa69 : own_O Z h62 x3 := Fa54.wr W62
  have Fa70 : own_O Z h62 (.ref p2) := Fa55.wr W62
  have Fa71 : own_O Z h62 r3 := Fa56.wr W62
  have Fa72 : Exa Z h62 t7 "[Ljava/lang/Object;" := Fa57.wr W62
  have Fa73 : Fld Z h62 a1 "com/example/hollow_tree/hollowtree/query/IdentityTable" "entries" "[Ljava/lang/Object;" (.ref t7) := Fa58.other W62 (Or.inr (slot_ne (Or.inl (hw _ (List.mem_of_getElem? (i := 44) rfl))) (Or.inl (hw _ (List.mem_of_getElem? (i := 51) rfl))) (by decide) (t := (.array (.object "java/lang/Object"))) (t' := .int) (by decide) (by decide)))
  have Fa74 : Arv Z h62 t7 kt7 (.object "java/lang/Object") (8 : Int32) [x0, x1, x2, x3, (.ref p2), .null, .null, .null] .null := V47.other W62 (Ne.symm ne_a1_t7)
  have Ke62 : Keep h0 h62 [a1] := Ke47.wr W62 (Or.inl (List.mem_of_getElem? (i := 0) rfl))
  refine own_st (T' := T62) (g' := (mkF m 65 #[.val (.ref a1), .val (.ref p2), .val r3] [(.int (5 : Int32)), (.ref t7)])) (fun _ k => (st62) _ k) ?_
  refine own_st (T' := T62) (g' := (mkF m 66 #[.val (.ref a1), .val (.ref p2), .val r3] [r3, (.int (5 : Int32)), (.ref t7)])) (fun _ k => Jvm.Free.XS.aloadN (g := (mkF m 65 #[.val (.ref a1), .val (.ref p2), .val r3] [(.int (5 : Int32)), (.ref t7)])) X62.here hx rfl (hb hby d8_65) rfl (hr3).isRef k) ?_
  obtain ⟨cl75, Ar75, qk75, Sz75, Nn75, Hs75, Gs75⟩ := Fa74
  have hin75 : ¬ ((5 : Int32) < 0 ∨ cl75.slots.size ≤ ((5 : Int32)).toNatClampNeg) := inb_of Sz75 ⟨by decide, by decide⟩
  obtain ⟨T75, h75, X75, e75, W75, st75⟩ := stR X62 hx hZ e62 Ar75 (j := (5 : Int32)) hin75 rfl (Fa71.sto Ar75 qk75 Oq7) (g := (mkF m 66 #[.val (.ref a1), .val (.ref p2), .val r3] [r3, (.int (5 : Int32)), (.ref t7)])) rfl rfl (hb hby d8_66)
  have V75 : Arv Z h75 t7 kt7 (.object "java/lang/Object") (8 : Int32) [x0, x1, x2, x3, (.ref p2), r3, .null, .null] .null := Arv.set Ar75 qk75 Sz75 Nn75 Hs75 Gs75 (own_fitsR hr3) W75 5 rfl (Nat.le_of_ble_eq_true rfl)
  have Zs75 : n0 ≤ h75.size := Nat.le_trans Zs62 (Keep.of_wr W75).1
  obtain ⟨lc75, X75, N75⟩ := own_loc X75 (Fr.snoc X75 N62 gn_t7)
  have Fa76 : Exa Z h75 a1 "com/example/hollow_tree/hollowtree/query/IdentityTable" := Fa63.wr W75
  have Fa77 : Arv Z h75 en ke (.object "java/lang/Object") (4 : Int32) [x0, x1, x2, x3] .null := Fa64.other W75 ne_en_t7
  have Fa78 : Exa Z h75 en "[Ljava/lang/Object;" := Fa65.wr W75
  have Fa79 : own_O Z h75 x0 := Fa66.wr W75
  have Fa80 : own_O Z h75 x1 := Fa67.wr W75
  have Fa81 : own_O Z h75 x2 := Fa68.wr W75
  have Fa82 : own_O Z h75 x3 := Fa69.wr W75
  have Fa83 : own_O Z h75 (.ref p2) := Fa70.wr W75
  have Fa84 : own_O Z h75 r3 := Fa71.wr W75
  have Fa85 : Exa Z h75 t7 "[Ljava/lang/Object;" := Fa72.wr W75
  have Fa86 : Fld Z h75 a1 "com/example/hollow_tree/hollowtree/query/IdentityTable" "entries" "[Ljava/lang/Object;" (.ref t7) := Fa73.other W75 (Or.inl ne_a1_t7)
  have Fa87 : Fld Z h75 a1 "com/example/hollow_tree/hollowtree/query/IdentityTable" "size" "I" (.int (6 : Int32)) := Fw62.other W75 (Or.inl ne_a1_t7)
  have Ke75 : Keep h0 h75 [a1] := Ke62.wr W75 (Or.inr sz_t7)
  refine own_st (T' := T75) (g' := (mkF m 67 #[.val (.ref a1), .val (.ref p2), .val r3] [])) (fun _ k => (st75) _ k) ?_
  exact own_end (Q := Q8_2 Z a1 p2 r3 hr3 en ke mr x0 x1 x2 x3 h0 n0) (v := none) X75 (fun _ => rfl) (fun fs hr => X75.returnOut hx Bd.returns (hb hby d8_67) hr) (by rw [e75]; exact ⟨rfl, N75, Ke75, Fa76, ⟨t7, kt7, sz_t7, Fa86, Fa87, V75, Fa85, Oq7⟩⟩) (by decide) (by decide)
def Q8_3 (Z : State) (a1 : Addr) (p2 : Addr) (r3 : Value) (hr3 : own_Rf r3) (en : Addr) (ke : ClassId) (mr : Addr) (x0 x1 x2 x3 x4 x5 : Value) (h0 : Heap) (n0 : Nat) (v : Option Value) (h : Heap) (L : List Loc) : Prop := v = none ∧ Fr n0 L ∧ Keep h0 h [a1, en] ∧ Exa Z h a1 "com/example/hollow_tree/hollowtree/query/IdentityTable" ∧ Fld Z h a1 "com/example/hollow_tree/hollowtree/query/IdentityTable" "entries" "[Ljava/lang/Object;" (.ref en) ∧ Fld Z h a1 "com/example/hollow_tree/hollowtree/query/IdentityTable" "size" "I" (.int (8 : Int32)) ∧ Arv Z h en ke (.object "java/lang/Object") (8 : Int32) [x0, x1, x2, x3, x4, x5, (.ref p2), r3] .null ∧ Exa Z h en "[Ljava/lang/Object;"
set_option maxRecDepth 65536 in
set_option maxHeartbeats 40000000 in
theorem rm8_3 (l : Launch) (Z : State) (a0 : Array Value) (hw : ∀ d ∈ tables_1, d.before a0 Z = true) (ws : List Jvm.Cond) (a1 : Addr) (p2 : Addr) (r3 : Value) (hr3 : own_Rf r3) (en : Addr) (ke : ClassId) (mr : Addr) (x0 x1 x2 x3 x4 x5 : Value) (h0 : Heap) (n0 : Nat) (Z0 : n0 ≤ h0.size) (E_a1 : Exa Z h0 a1 "com/example/hollow_tree/hollowtree/query/IdentityTable") (F_e : Fld Z h0 a1 "com/example/hollow_tree/hollowtree/query/IdentityTable" "entries" "[Ljava/lang/Object;" (.ref en)) (F_s : Fld Z h0 a1 "com/example/hollow_tree/hollowtree/query/IdentityTable" "size" "I" (.int (6 : Int32))) (V_en : Arv Z h0 en ke (.object "java/lang/Object") (8 : Int32) [x0, x1, x2, x3, x4, x5, .null, .null] .null) (E_en : Exa Z h0 en "[Ljava/lang/Object;") (O_x0 : own_O Z h0 x0) (O_x1 : own_O Z h0 x1) (O_x2 : own_O Z h0 x2) (O_x3 : own_O Z h0 x3) (O_x4 : own_O Z h0 x4) (O_x5 : own_O Z h0 x5) (O_p2 : own_O Z h0 (.ref p2)) (O_r3 : own_O Z h0 r3) (gn_a1 : n0 ≤ a1) (gn_en : n0 ≤ en) (Ov : Ovr Z ke "java/lang/Object") (Mm : own_Mm Z "[Ljava/lang/Object;" mr) (hne : a1 ≠ en) :
    MetFree l (⟨"com/example/hollow_tree/hollowtree/query/IdentityTable", "put", "(Ljava/lang/Object;Ljava/lang/Object;)V"⟩ : MethodName) (head1 (Jvm.Cond.code (⟨"com/example/hollow_tree/hollowtree/query/IdentityTable", "put", "(Ljava/lang/Object;Ljava/lang/Object;)V"⟩ : MethodName) prog_144_method_3_code 3 none :: ws) ({ frames := 0, cells := 0, slots := 0, locals := 0 } : Room)) (fun a U => a = #[(.ref a1), (.ref p2), r3] ∧ Z.Warmed39 U.vm ∧ U.heap = h0) (fun _ _ _ _ _ => True) (fun _ U o U' => ∃ v L, o = .returned v ∧ Q8_3 Z a1 p2 r3 hr3 en ke mr x0 x1 x2 x3 x4 x5 h0 n0 v U'.heap L ∧ FrameEnd U o U' L ({ frames := 0, cells := 0, slots := 0, locals := 0 } : Room).cells ({ frames := 0, cells := 0, slots := 0, locals := 0 } : Room).slots) := by
  refine MetFree.of_bodySF (plainFor_of_name own_pn8) hisR ?_
  intro p e s m args below meth c s₁ Bd hml0 hP hK
  obtain ⟨rfl, hZ, hh⟩ := hP
  have hx := Bd.exec
  have hby := Bd.bytes
  have hml : c.maxLocals = 3 := hml0
  have hown : s.vm.findClass "com/example/hollow_tree/hollowtree/query/IdentityTable" = some m.cls := findClass_of_methodNamed Bd.named
  have hnm := (name_of_methodNamed Bd.named Bd.method).1
  have hlk := Bd.notSynchronized
  have X0 : Stand p l e ({ frames := 0, cells := 0, slots := 0, locals := 0 } : Room) s m #[(.ref a1), (.ref p2), r3] below meth c s₁ [] 0 0 := Stand.of_body Bd
  have e0 : s₁.heap = h0 := by rw [← hh, Bd.state]; rfl
  have N0 := Fr.nil n0
  show own_Goes p e below (fun o U' => ∃ v L, o = .returned v ∧ Q8_3 Z a1 p2 r3 hr3 en ke mr x0 x1 x2 x3 x4 x5 h0 n0 v U'.heap L ∧ FrameEnd s o U' L ({ frames := 0, cells := 0, slots := 0, locals := 0 } : Room).cells ({ frames := 0, cells := 0, slots := 0, locals := 0 } : Room).slots) s₁ (entryFrame m #[(.ref a1), (.ref p2), r3] 3)
  refine own_st (T' := s₁) (g' := mkF m 0 #[.val (.ref a1), .val (.ref p2), .val r3] []) (fun _ k => castTop (own_ef8 m a1 p2 r3 hr3) k) ?_
  have ne_a1_en := hne
  refine own_st (T' := s₁) (g' := (mkF m 1 #[.val (.ref a1), .val (.ref p2), .val r3] [(.ref a1)])) (fun _ k => Jvm.Free.XS.aloadN (g := (mkF m 0 #[.val (.ref a1), .val (.ref p2), .val r3] [])) X0.here hx rfl (hb hby d8_0) rfl rfl k) ?_
  obtain ⟨T1, X1, e1, st1⟩ := getF X0 hx hZ hown (host := "") (Or.inl (hw _ (List.mem_of_getElem? (i := 50) rfl))) Via.refl e0 F_s (g := (mkF m 1 #[.val (.ref a1), .val (.ref p2), .val r3] [(.ref a1)])) rfl rfl (hb hby d8_1)
  refine own_st (T' := T1) (g' := (mkF m 4 #[.val (.ref a1), .val (.ref p2), .val r3] [(.int (6 : Int32))])) (fun _ k => (st1) _ k) ?_
  refine own_st (T' := T1) (g' := (mkF m 5 #[.val (.ref a1), .val (.ref p2), .val r3] [(.ref a1), (.int (6 : Int32))])) (fun _ k => Jvm.Free.XS.aloadN (g := (mkF m 4 #[.val (.ref a1), .val (.ref p2), .val r3] [(.int (6 : Int32))])) X1.here hx rfl (hb hby d8_4) rfl rfl k) ?_
  obtain ⟨T2, X2, e2, st2⟩ := getF X1 hx hZ hown (host := "") (Or.inl (hw _ (List.mem_of_getElem? (i := 43) rfl))) Via.refl e1 F_e (g := (mkF m 5 #[.val (.ref a1), .val (.ref p2), .val r3] [(.ref a1), (.int (6 : Int32))])) rfl rfl (hb hby d8_5)
  refine own_st (T' := T2) (g' := (mkF m 8 #[.val (.ref a1), .val (.ref p2), .val r3] [(.ref en), (.int (6 : Int32))])) (fun _ k => (st2) _ k) ?_
  obtain ⟨cl3, Ar3, -, Sz3, Nn3, -, -⟩ := id V_en
  have al3 := X2.arraylength hx (by rw [e2]; exact Ar3.1) (State.isArrayOf_alike hZ.alike Ar3.2.1) (g := (mkF m 8 #[.val (.ref a1), .val (.ref p2), .val r3] [(.ref en), (.int (6 : Int32))])) rfl rfl (hb hby d8_8)
  rw [len_of Sz3 Nn3] at al3
  refine own_st (T' := T2) (g' := (mkF m 9 #[.val (.ref a1), .val (.ref p2), .val r3] [(.int (8 : Int32)), (.int (6 : Int32))])) (fun _ k => (al3) _ k) ?_
  refine own_st (T' := T2) (g' := (mkF m 33 #[.val (.ref a1), .val (.ref p2), .val r3] [])) (fun _ k => XS.icmpYes (g := (mkF m 9 #[.val (.ref a1), .val (.ref p2), .val r3] [(.int (8 : Int32)), (.int (6 : Int32))])) X2.here hx rfl (pc0 := 9) (pc' := 33) rfl (hb hby d8_9) rfl (feq (by decide : ¬ ((6 : Int32) = (8 : Int32)))).2 (by decide) (by decide) k) ?_
  refine own_st (T' := T2) (g' := (mkF m 34 #[.val (.ref a1), .val (.ref p2), .val r3] [(.ref a1)])) (fun _ k => Jvm.Free.XS.aloadN (g := (mkF m 33 #[.val (.ref a1), .val (.ref p2), .val r3] [])) X2.here hx rfl (hb hby d8_33) rfl rfl k) ?_
  obtain ⟨T4, X4, e4, st4⟩ := getF X2 hx hZ hown (host := "") (Or.inl (hw _ (List.mem_of_getElem? (i := 43) rfl))) Via.refl e2 F_e (g := (mkF m 34 #[.val (.ref a1), .val (.ref p2), .val r3] [(.ref a1)])) rfl rfl (hb hby d8_34)
  refine own_st (T' := T4) (g' := (mkF m 37 #[.val (.ref a1), .val (.ref p2), .val r3] [(.ref en)])) (fun _ k => (st4) _ k) ?_
  refine own_st (T' := T4) (g' := (mkF m 38 #[.val (.ref a1), .val (.ref p2), .val r3] [(.ref a1), (.ref en)])) (fun _ k => Jvm.Free.XS.aloadN (g := (mkF m 37 #[.val (.ref a1), .val (.ref p2), .val r3] [(.ref en)])) X4.here hx rfl (hb hby d8_37) rfl rfl k) ?_
  refine own_st (T' := T4) (g' := (mkF m 39 #[.val (.ref a1), .val (.ref p2), .val r3] [(.ref a1), (.ref a1), (.ref en)])) (fun _ k => XS.dup (g := (mkF m 38 #[.val (.ref a1), .val (.ref p2), .val r3] [(.ref a1), (.ref en)])) X4.here hx rfl (hb hby d8_38) rfl rfl k) ?_
  obtain ⟨T5, X5, e5, st5⟩ := getF X4 hx hZ hown (host := "") (Or.inl (hw _ (List.mem_of_getElem? (i := 50) rfl))) Via.refl e4 F_s (g := (mkF m 39 #[.val (.ref a1), .val (.ref p2), .val r3] [(.ref a1), (.ref a1), (.ref en)])) rfl rfl (hb hby d8_39)
  refine own_st (T' := T5) (g' := (mkF m 42 #[.val (.ref a1), .val (.ref p2), .val r3] [(.int (6 : Int32)), (.ref a1), (.ref en)])) (fun _ k => (st5) _ k) ?_
  refine own_st (T' := T5) (g' := (mkF m 43 #[.val (.ref a1), .val (.ref p2), .val r3] [(.int (6 : Int32)), (.ref a1), (.int (6 : Int32)), (.ref en)])) (fun _ k => Jvm.Free.XS.dupX1 (g := (mkF m 42 #[.val (.ref a1), .val (.ref p2), .val r3] [(.int (6 : Int32)), (.ref a1), (.ref en)])) X5.here hx rfl (hb hby d8_42) rfl rfl rfl k) ?_
  refine own_st (T' := T5) (g' := (mkF m 44 #[.val (.ref a1), .val (.ref p2), .val r3] [(.int (1 : Int32)), (.int (6 : Int32)), (.ref a1), (.int (6 : Int32)), (.ref en)])) (fun _ k => XS.iconst (g := (mkF m 43 #[.val (.ref a1), .val (.ref p2), .val r3] [(.int (6 : Int32)), (.ref a1), (.int (6 : Int32)), (.ref en)])) X5.here hx rfl (hb hby d8_43) k) ?_
  refine own_st (T' := T5) (g' := (mkF m 45 #[.val (.ref a1), .val (.ref p2), .val r3] [(.int (7 : Int32)), (.ref a1), (.int (6 : Int32)), (.ref en)])) (fun _ k => Jvm.Free.XS.iadd (g := (mkF m 44 #[.val (.ref a1), .val (.ref p2), .val r3] [(.int (1 : Int32)), (.int (6 : Int32)), (.ref a1), (.int (6 : Int32)), (.ref en)])) X5.here hx rfl (hb hby d8_44) rfl k) ?_
  obtain ⟨T6, h6, X6, e6, W6, st6⟩ := putF X5 hx hZ hown (host := "") (Or.inl (hw _ (List.mem_of_getElem? (i := 50) rfl))) Via.refl e5 F_s E_a1 (Or.inl (hw _ (List.mem_of_getElem? (i := 51) rfl))) (hw _ (List.mem_of_getElem? (i := 35) rfl)) (ty := .int) (by decide) rfl rfl (g := (mkF m 45 #[.val (.ref a1), .val (.ref p2), .val r3] [(.int (7 : Int32)), (.ref a1), (.int (6 : Int32)), (.ref en)])) rfl rfl (hb hby d8_45)
  have Fw6 := F_s.same W6
  have Zs6 : n0 ≤ h6.size := Nat.le_trans Z0 (Keep.of_wr W6).1
  obtain ⟨lc6, X6, N6⟩ := own_loc X6 (Fr.snoc X6 N0 gn_a1)
  have Fa7 : Exa Z h6 a1 "com/example/hollow_tree/hollowtree/query/IdentityTable" := E_a1.wr W6
  have Fa8 : Fld Z h6 a1 "com/example/hollow_tree/hollowtree/query/IdentityTable" "entries" "[Ljava/lang/Object;" (.ref en) := F_e.other W6 (Or.inr (slot_ne (Or.inl (hw _ (List.mem_of_getElem? (i := 44) rfl))) (Or.inl (hw _ (List.mem_of_getElem? (i := 51) rfl))) (by decide) (t := (.array (.object "java/lang/Object"))) (t' := .int) (by decide) (by decide)))
  have Fa9 : Arv Z h6 en ke (.object "java/lang/Object") (8 : Int32) [x0, x1, x2, x3, x4, x5, .null, .null] .null := V_en.other W6 (Ne.symm ne_a1_en)
  have Fa10 : Exa Z h6 en "[Ljava/lang/Object;" := E_en.wr W6
  have Fa11 : own_O Z h6 x0 := O_x0.wr W6
  have Fa12 : own_O Z h6 x1 := O_x1.wr W6
  have Fa13 : own_O Z h6 x2 := O_x2.wr W6
  have Fa14 : own_O Z h6 x3 := O_x3.wr W6
  have Fa15 : own_O Z h6 x4 := O_x4.wr W6
  have Fa16 : own_O Z h6 x5 := O_x5.wr W6
  have Fa17 : own_O Z h6 (.ref p2) := O_p2.wr W6
  have Fa18 : own_O Z h6 r3 := O_r3.wr W6
  have Ke6 : Keep h0 h6 [a1, en] := (Keep.refl h0 [a1, en]).wr W6 (Or.inl (List.mem_of_getElem? (i := 0) rfl))
  refine own_st (T' := T6) (g' := (mkF m 48 #[.val (.ref a1), .val (.ref p2), .val r3] [(.int (6 : Int32)), (.ref en)])) (fun _ k => (st6) _ k) ?_
  refine own_st (T' := T6) (g' := (mkF m 49 #[.val (.ref a1), .val (.ref p2), .val r3] [(.ref p2), (.int (6 : Int32)), (.ref en)])) (fun _ k => Jvm.Free.XS.aloadN (g := (mkF m 48 #[.val (.ref a1), .val (.ref p2), .val r3] [(.int (6 : Int32)), (.ref en)])) X6.here hx rfl (hb hby d8_48) rfl rfl k) ?_
  obtain ⟨cl19, Ar19, qk19, Sz19, Nn19, Hs19, Gs19⟩ := Fa9
  have hin19 : ¬ ((6 : Int32) < 0 ∨ cl19.slots.size ≤ ((6 : Int32)).toNatClampNeg) := inb_of Sz19 ⟨by decide, by decide⟩
  obtain ⟨T19, h19, X19, e19, W19, st19⟩ := stR X6 hx hZ e6 Ar19 (j := (6 : Int32)) hin19 rfl (Fa17.sto Ar19 qk19 Ov) (g := (mkF m 49 #[.val (.ref a1), .val (.ref p2), .val r3] [(.ref p2), (.int (6 : Int32)), (.ref en)])) rfl rfl (hb hby d8_49)
  have V19 : Arv Z h19 en ke (.object "java/lang/Object") (8 : Int32) [x0, x1, x2, x3, x4, x5, (.ref p2), .null] .null := Arv.set Ar19 qk19 Sz19 Nn19 Hs19 Gs19 rfl W19 6 rfl (Nat.le_of_ble_eq_true rfl)
  have Zs19 : n0 ≤ h19.size := Nat.le_trans Zs6 (Keep.of_wr W19).1
  obtain ⟨lc19, X19, N19⟩ := own_loc X19 (Fr.snoc X19 N6 gn_en)
  have Fa20 : Exa Z h19 a1 "com/example/hollow_tree/hollowtree/query/IdentityTable" := Fa7.wr W19
  have Fa21 : Fld Z h19 a1 "com/example/hollow_tree/hollowtree/query/IdentityTable" "entries" "[Ljava/lang/Object;" (.ref en) := Fa8.other W19 (Or.inl ne_a1_en)
  have Fa22 : Exa Z h19 en "[Ljava/lang/Object;" := Fa10.wr W19
  have Fa23 : own_O Z h19 x0 := Fa11.wr W19
  have Fa24 : own_O Z h19 x1 := Fa12.wr W19
  have Fa25 : own_O Z h19 x2 := Fa13.wr W19
  have Fa26 : own_O Z h19 x3 := Fa14.wr W19
  have Fa27 : own_O Z h19 x4 := Fa15.wr W19
  have Fa28 : own_O Z h19 x5 := Fa16.wr W19
  have Fa29 : own_O Z h19 (.ref p2) := Fa17.wr W19
  have Fa30 : own_O Z h19 r3 := Fa18.wr W19
  have Fa31 : Fld Z h19 a1 "com/example/hollow_tree/hollowtree/query/IdentityTable" "size" "I" (.int (7 : Int32)) := Fw6.other W19 (Or.inl ne_a1_en)
  have Ke19 : Keep h0 h19 [a1, en] := Ke6.wr W19 (Or.inl (List.mem_of_getElem? (i := 1) rfl))
  refine own_st (T' := T19) (g' := (mkF m 50 #[.val (.ref a1), .val (.ref p2), .val r3] [])) (fun _ k => (st19) _ k) ?_
  refine own_st (T' := T19) (g' := (mkF m 51 #[.val (.ref a1), .val (.ref p2), .val r3] [(.ref a1)])) (fun _ k => Jvm.Free.XS.aloadN (g := (mkF m 50 #[.val (.ref a1), .val (.ref p2), .val r3] [])) X19.here hx rfl (hb hby d8_50) rfl rfl k) ?_
  obtain ⟨T32, X32, e32, st32⟩ := getF X19 hx hZ hown (host := "") (Or.inl (hw _ (List.mem_of_getElem? (i := 43) rfl))) Via.refl e19 Fa21 (g := (mkF m 51 #[.val (.ref a1), .val (.ref p2), .val r3] [(.ref a1)])) rfl rfl (hb hby d8_51)
  refine own_st (T' := T32) (g' := (mkF m 54 #[.val (.ref a1), .val (.ref p2), .val r3] [(.ref en)])) (fun _ k => (st32) _ k) ?_
  refine own_st (T' := T32) (g' := (mkF m 55 #[.val (.ref a1), .val (.ref p2), .val r3] [(.ref a1), (.ref en)])) (fun _ k => Jvm.Free.XS.aloadN (g := (mkF m 54 #[.val (.ref a1), .val (.ref p2), .val r3] [(.ref en)])) X32.here hx rfl (hb hby d8_54) rfl rfl k) ?_
  refine own_st (T' := T32) (g' := (mkF m 56 #[.val (.ref a1), .val (.ref p2), .val r3] [(.ref a1), (.ref a1), (.ref en)])) (fun _ k => XS.dup (g := (mkF m 55 #[.val (.ref a1), .val (.ref p2), .val r3] [(.ref a1), (.ref en)])) X32.here hx rfl (hb hby d8_55) rfl rfl k) ?_
  obtain ⟨T33, X33, e33, st33⟩ := getF X32 hx hZ hown (host := "") (Or.inl (hw _ (List.mem_of_getElem? (i := 50) rfl))) Via.refl e32 Fa31 (g := (mkF m 56 #[.val (.ref a1), .val (.ref p2), .val r3] [(.ref a1), (.ref a1), (.ref en)])) rfl rfl (hb hby d8_56)
  refine own_st (T' := T33) (g' := (mkF m 59 #[.val (.ref a1), .val (.ref p2), .val r3] [(.int (7 : Int32)), (.ref a1), (.ref en)])) (fun _ k => (st33) _ k) ?_
  refine own_st (T' := T33) (g' := (mkF m 60 #[.val (.ref a1), .val (.ref p2), .val r3] [(.int (7 : Int32)), (.ref a1), (.int (7 : Int32)), (.ref en)])) (fun _ k => Jvm.Free.XS.dupX1 (g := (mkF m 59 #[.val (.ref a1), .val (.ref p2), .val r3] [(.int (7 : Int32)), (.ref a1), (.ref en)])) X33.here hx rfl (hb hby d8_59) rfl rfl rfl k) ?_
  refine own_st (T' := T33) (g' := (mkF m 61 #[.val (.ref a1), .val (.ref p2), .val r3] [(.int (1 : Int32)), (.int (7 : Int32)), (.ref a1), (.int (7 : Int32)), (.ref en)])) (fun _ k => XS.iconst (g := (mkF m 60 #[.val (.ref a1), .val (.ref p2), .val r3] [(.int (7 : Int32)), (.ref a1), (.int (7 : Int32)), (.ref en)])) X33.here hx rfl (hb hby d8_60) k) ?_
  refine own_st (T' := T33) (g' := (mkF m 62 #[.val (.ref a1), .val (.ref p2), .val r3] [(.int (8 : Int32)), (.ref a1), (.int (7 : Int32)), (.ref en)])) (fun _ k => Jvm.Free.XS.iadd (g := (mkF m 61 #[.val (.ref a1), .val (.ref p2), .val r3] [(.int (1 : Int32)), (.int (7 : Int32)), (.ref a1), (.int (7 : Int32)), (.ref en)])) X33.here hx rfl (hb hby d8_61) rfl k) ?_
  obtain ⟨T34, h34, X34, e34, W34, st34⟩ := putF X33 hx hZ hown (host := "") (Or.inl (hw _ (List.mem_of_getElem? (i := 50) rfl))) Via.refl e33 Fa31 Fa20 (Or.inl (hw _ (List.mem_of_getElem? (i := 51) rfl))) (hw _ (List.mem_of_getElem? (i := 35) rfl)) (ty := .int) (by decide) rfl rfl (g := (mkF m 62 #[.val (.ref a1), .val (.ref p2), .val r3] [(.int (8 : Int32)), (.ref a1), (.int (7 : Int32)), (.ref en)])) rfl rfl (hb hby d8_62)
  have Fw34 := Fa31.same W34
  have Zs34 : n0 ≤ h34.size := Nat.le_trans Zs19 (Keep.of_wr W34).1
  obtain ⟨lc34, X34, N34⟩ := own_loc X34 (Fr.snoc X34 N19 gn_a1)
  have Fa35 : Exa Z h34 a1 "com/example/hollow_tree/hollowtree/query/IdentityTable" := Fa20.wr W34
  have Fa36 : Fld Z h34 a1 "com/example/hollow_tree/hollowtree/query/IdentityTable" "entries" "[Ljava/lang/Object;" (.ref en) := Fa21.other W34 (Or.inr (slot_ne (Or.inl (hw _ (List.mem_of_getElem? (i := 44) rfl))) (Or.inl (hw _ (List.mem_of_getElem? (i := 51) rfl))) (by decide) (t := (.array (.object "java/lang/Object"))) (t' := .int) (by decide) (by decide)))
  have Fa37 : Exa Z h34 en "[Ljava/lang/Object;" := Fa22.wr W34
  have Fa38 : own_O Z h34 x0 := Fa23.wr W34
  have Fa39 : own_O Z h34 x1 := Fa24.wr W34
  have Fa40 : own_O Z h34 x2 := Fa25.wr W34
  have Fa41 : own_O Z h34 x3 := Fa26.wr W34
  have Fa42 : own_O Z h34 x4 := Fa27.wr W34
  have Fa43 : own_O Z h34 x5 := Fa28.wr W34
  have Fa44 : own_O Z h34 (.ref p2) := Fa29.wr W34
  have Fa45 : own_O Z h34 r3 := Fa30.wr W34
  have Fa46 : Arv Z h34 en ke (.object "java/lang/Object") (8 : Int32) [x0, x1, x2, x3, x4, x5, (.ref p2), .null] .null := V19.other W34 (Ne.symm ne_a1_en)
  have Ke34 : Keep h0 h34 [a1, en] := Ke19.wr W34 (Or.inl (List.mem_of_getElem? (i := 0) rfl))
  refine own_st (T' := T34) (g' := (mkF m 65 #[.val (.ref a1), .val (.ref p2), .val r3] [(.int (7 : Int32)), (.ref en)])) (fun _ k => (st34) _ k) ?_
  refine own_st (T' := T34) (g' := (mkF m 66 #[.val (.ref a1), .val (.ref p2), .val r3] [r3, (.int (7 : Int32)), (.ref en)])) (fun _ k => Jvm.Free.XS.aloadN (g := (mkF m 65 #[.val (.ref a1), .val (.ref p2), .val r3] [(.int (7 : Int32)), (.ref en)])) X34.here hx rfl (hb hby d8_65) rfl (hr3).isRef k) ?_
  obtain ⟨cl47, Ar47, qk47, Sz47, Nn47, Hs47, Gs47⟩ := Fa46
  have hin47 : ¬ ((7 : Int32) < 0 ∨ cl47.slots.size ≤ ((7 : Int32)).toNatClampNeg) := inb_of Sz47 ⟨by decide, by decide⟩
  obtain ⟨T47, h47, X47, e47, W47, st47⟩ := stR X34 hx hZ e34 Ar47 (j := (7 : Int32)) hin47 rfl (Fa45.sto Ar47 qk47 Ov) (g := (mkF m 66 #[.val (.ref a1), .val (.ref p2), .val r3] [r3, (.int (7 : Int32)), (.ref en)])) rfl rfl (hb hby d8_66)
  have V47 : Arv Z h47 en ke (.object "java/lang/Object") (8 : Int32) [x0, x1, x2, x3, x4, x5, (.ref p2), r3] .null := Arv.set Ar47 qk47 Sz47 Nn47 Hs47 Gs47 (own_fitsR hr3) W47 7 rfl (Nat.le_of_ble_eq_true rfl)
  have Zs47 : n0 ≤ h47.size := Nat.le_trans Zs34 (Keep.of_wr W47).1
  obtain ⟨lc47, X47, N47⟩ := own_loc X47 (Fr.snoc X47 N34 gn_en)
  have Fa48 : Exa Z h47 a1 "com/example/hollow_tree/hollowtree/query/IdentityTable" := Fa35.wr W47
  have Fa49 : Fld Z h47 a1 "com/example/hollow_tree/hollowtree/query/IdentityTable" "entries" "[Ljava/lang/Object;" (.ref en) := Fa36.other W47 (Or.inl ne_a1_en)
  have Fa50 : Exa Z h47 en "[Ljava/lang/Object;" := Fa37.wr W47
  have Fa51 : own_O Z h47 x0 := Fa38.wr W47
  have Fa52 : own_O Z h47 x1 := Fa39.wr W47
  have Fa53 : own_O Z h47 x2 := Fa40.wr W47
  have Fa54 : own_O Z h47 x3 := Fa41.wr W47
  have Fa55 : own_O Z h47 x4 := Fa42.wr W47
  have Fa56 : own_O Z h47 x5 := Fa43.wr W47
  have Fa57 : own_O Z h47 (.ref p2) := Fa44.wr W47
  have Fa58 : own_O Z h47 r3 := Fa45.wr W47
  have Fa59 : Fld Z h47 a1 "com/example/hollow_tree/hollowtree/query/IdentityTable" "size" "I" (.int (8 : Int32)) := Fw34.other W47 (Or.inl ne_a1_en)
  have Ke47 : Keep h0 h47 [a1, en] := Ke34.wr W47 (Or.inl (List.mem_of_getElem? (i := 1) rfl))
  refine own_st (T' := T47) (g' := (mkF m 67 #[.val (.ref a1), .val (.ref p2), .val r3] [])) (fun _ k => (st47) _ k) ?_
  exact own_end (Q := Q8_3 Z a1 p2 r3 hr3 en ke mr x0 x1 x2 x3 x4 x5 h0 n0) (v := none) X47 (fun _ => rfl) (fun fs hr => X47.returnOut hx Bd.returns (hb hby d8_67) hr) (by rw [e47]; exact ⟨rfl, N47, Ke47, Fa48, Fa49, Fa59, V47, Fa50⟩) (by decide) (by decide)
def own_lk : List (Addr × Value) → Addr → Value
  | [], _ => .null
  | q :: t, key => if q.1 = key then q.2 else own_lk t key
theorem own_lk_R {Z : State} {h : Heap} : ∀ (L : List (Addr × Value)) (key : Addr), (∀ q ∈ L, own_R Z h q.2) → own_R Z h (own_lk L key)
  | [], _, _ => Or.inl rfl
  | q :: t, key, H => by
    show own_R Z h (if q.1 = key then q.2 else own_lk t key)
    by_cases c : q.1 = key
    · rw [if_pos c]; exact H q (List.mem_cons_self ..)
    · rw [if_neg c]; exact own_lk_R t key fun w hw => H w (List.mem_cons_of_mem _ hw)
def own_ex (q n : Int32) (L : List Value) : Value := if q < n then L.getD q.toNatClampNeg .null else .null
theorem own_getRf (L : List Value) (i : Nat) (H : ∀ v ∈ L, own_Rf v) : own_Rf (L.getD i .null) := by
  by_cases h : i < L.length
  · simp only [List.getD, List.getElem?_eq_getElem h, Option.getD_some]; exact H _ (List.getElem_mem h)
  · simp only [List.getD, List.getElem?_eq_none (Nat.le_of_not_lt h), Option.getD_none]; exact Or.inl rfl
theorem d6_0 : decode prog_144_method_2_code 0 = .ok (.iconst 0, 1) := by decide +kernel
theorem d6_1 : decode prog_144_method_2_code 1 = .ok (.istore_n 2, 1) := by decide +kernel
theorem d6_2 : decode prog_144_method_2_code 2 = .ok (.iload_n 2, 1) := by decide +kernel
theorem d6_3 : decode prog_144_method_2_code 3 = .ok (.aload_n 0, 1) := by decide +kernel
theorem d6_4 : decode prog_144_method_2_code 4 = .ok (.getfield 16, 3) := by decide +kernel
theorem d6_7 : decode prog_144_method_2_code 7 = .ok (.if_icmp .ge 30, 3) := by decide +kernel
theorem d6_10 : decode prog_144_method_2_code 10 = .ok (.aload_n 0, 1) := by decide +kernel
theorem d6_11 : decode prog_144_method_2_code 11 = .ok (.getfield 13, 3) := by decide +kernel
theorem d6_14 : decode prog_144_method_2_code 14 = .ok (.iload_n 2, 1) := by decide +kernel
theorem d6_15 : decode prog_144_method_2_code 15 = .ok (.aaload, 1) := by decide +kernel
theorem d6_16 : decode prog_144_method_2_code 16 = .ok (.aload_n 1, 1) := by decide +kernel
theorem d6_17 : decode prog_144_method_2_code 17 = .ok (.if_acmp .ne 14, 3) := by decide +kernel
theorem d6_20 : decode prog_144_method_2_code 20 = .ok (.aload_n 0, 1) := by decide +kernel
theorem d6_21 : decode prog_144_method_2_code 21 = .ok (.getfield 13, 3) := by decide +kernel
theorem d6_24 : decode prog_144_method_2_code 24 = .ok (.iload_n 2, 1) := by decide +kernel
theorem d6_25 : decode prog_144_method_2_code 25 = .ok (.iconst 1, 1) := by decide +kernel
theorem d6_26 : decode prog_144_method_2_code 26 = .ok (.iadd, 1) := by decide +kernel
theorem d6_27 : decode prog_144_method_2_code 27 = .ok (.aaload, 1) := by decide +kernel
theorem d6_28 : decode prog_144_method_2_code 28 = .ok (.astore_n 3, 1) := by decide +kernel
theorem d6_29 : decode prog_144_method_2_code 29 = .ok (.aload_n 3, 1) := by decide +kernel
theorem d6_30 : decode prog_144_method_2_code 30 = .ok (.areturn, 1) := by decide +kernel
theorem d6_31 : decode prog_144_method_2_code 31 = .ok (.iinc 2 2, 3) := by decide +kernel
theorem d6_34 : decode prog_144_method_2_code 34 = .ok (.goto (-32), 3) := by decide +kernel
theorem d6_37 : decode prog_144_method_2_code 37 = .ok (.aconst_null, 1) := by decide +kernel
theorem d6_38 : decode prog_144_method_2_code 38 = .ok (.areturn, 1) := by decide +kernel
theorem own_pn6 : plainName "com/example/hollow_tree/hollowtree/query/IdentityTable" = true := by first | (simp [plainName, overriddenIn]; done) | decide +kernel
theorem own_ef6 (m : MethodId) (x0 : Addr) (x1 : Addr) : entryFrame m #[(.ref x0), (.ref x1)] 4 = mkF m 0 #[.val (.ref x0), .val (.ref x1), .unset, .unset] [] := by first | (simp [entryFrame, mkF, argsToLocals, Value.category]; done) | rfl
def Q6_0 (Z : State) (a1 : Addr) (p2 : Addr) (en : Addr) (ke : ClassId) (h0 : Heap) (n0 : Nat) (v : Option Value) (h : Heap) (L : List Loc) : Prop := ∃ r, v = some r ∧ r = own_lk [] p2 ∧ Fr n0 L ∧ h = h0
set_option maxRecDepth 65536 in
set_option maxHeartbeats 40000000 in
theorem rm6_0 (l : Launch) (Z : State) (a0 : Array Value) (hw : ∀ d ∈ tables_1, d.before a0 Z = true) (ws : List Jvm.Cond) (a1 : Addr) (p2 : Addr) (en : Addr) (ke : ClassId) (h0 : Heap) (n0 : Nat) (Z0 : n0 ≤ h0.size) (F_e : Fld Z h0 a1 "com/example/hollow_tree/hollowtree/query/IdentityTable" "entries" "[Ljava/lang/Object;" (.ref en)) (F_s : Fld Z h0 a1 "com/example/hollow_tree/hollowtree/query/IdentityTable" "size" "I" (.int (0 : Int32))) (V_en : Arv Z h0 en ke (.object "java/lang/Object") (0 : Int32) [] .null)   :
    MetFree l (⟨"com/example/hollow_tree/hollowtree/query/IdentityTable", "get", "(Ljava/lang/Object;)Ljava/lang/Object;"⟩ : MethodName) (head1 (Jvm.Cond.code (⟨"com/example/hollow_tree/hollowtree/query/IdentityTable", "get", "(Ljava/lang/Object;)Ljava/lang/Object;"⟩ : MethodName) prog_144_method_2_code 4 (some (.object "java/lang/Object")) :: ws) ({ frames := 0, cells := 0, slots := 0, locals := 0 } : Room)) (fun a U => a = #[(.ref a1), (.ref p2)] ∧ Z.Warmed39 U.vm ∧ U.heap = h0) (fun _ _ _ _ _ => True) (fun _ U o U' => ∃ v L, o = .returned v ∧ Q6_0 Z a1 p2 en ke  h0 n0 v U'.heap L ∧ FrameEnd U o U' L ({ frames := 0, cells := 0, slots := 0, locals := 0 } : Room).cells ({ frames := 0, cells := 0, slots := 0, locals := 0 } : Room).slots) := by
  refine MetFree.of_bodySF (plainFor_of_name own_pn6) hisR ?_
  intro p e s m args below meth c s₁ Bd hml0 hP hK
  obtain ⟨rfl, hZ, hh⟩ := hP
  have hx := Bd.exec
  have hby := Bd.bytes
  have hml : c.maxLocals = 4 := hml0
  have hown : s.vm.findClass "com/example/hollow_tree/hollowtree/query/IdentityTable" = some m.cls := findClass_of_methodNamed Bd.named
  have hnm := (name_of_methodNamed Bd.named Bd.method).1
  have hlk := Bd.notSynchronized
  have X0 : Stand p l e ({ frames := 0, cells := 0, slots := 0, locals := 0 } : Room) s m #[(.ref a1), (.ref p2)] below meth c s₁ [] 0 0 := Stand.of_body Bd
  have e0 : s₁.heap = h0 := by rw [← hh, Bd.state]; rfl
  have N0 := Fr.nil n0
  show own_Goes p e below (fun o U' => ∃ v L, o = .returned v ∧ Q6_0 Z a1 p2 en ke  h0 n0 v U'.heap L ∧ FrameEnd s o U' L ({ frames := 0, cells := 0, slots := 0, locals := 0 } : Room).cells ({ frames := 0, cells := 0, slots := 0, locals := 0 } : Room).slots) s₁ (entryFrame m #[(.ref a1), (.ref p2)] 4)
  refine own_st (T' := s₁) (g' := mkF m 0 #[.val (.ref a1), .val (.ref p2), .unset, .unset] []) (fun _ k => castTop (own_ef6 m a1 p2) k) ?_
  have hf : own_lk ([] : List (Addr × Value)) p2 = own_lk ([] : List (Addr × Value)) p2 := rfl
  refine own_st (T' := s₁) (g' := (mkF m 1 #[.val (.ref a1), .val (.ref p2), .unset, .unset] [(.int (0 : Int32))])) (fun _ k => XS.iconst (g := (mkF m 0 #[.val (.ref a1), .val (.ref p2), .unset, .unset] [])) X0.here hx rfl (hb hby d6_0) k) ?_
  refine own_st (T' := s₁) (g' := (mkF m 2 #[.val (.ref a1), .val (.ref p2), .val (.int (0 : Int32)), .unset] [])) (fun _ k => Jvm.Free.XS.istoreN (g := (mkF m 1 #[.val (.ref a1), .val (.ref p2), .unset, .unset] [(.int (0 : Int32))])) X0.here hx rfl (hb hby d6_1) rfl (l' := #[.val (.ref a1), .val (.ref p2), .val (.int (0 : Int32)), .unset]) rfl k) ?_
  refine own_st (T' := s₁) (g' := (mkF m 3 #[.val (.ref a1), .val (.ref p2), .val (.int (0 : Int32)), .unset] [(.int (0 : Int32))])) (fun _ k => Jvm.Free.XS.iloadN (g := (mkF m 2 #[.val (.ref a1), .val (.ref p2), .val (.int (0 : Int32)), .unset] [])) X0.here hx rfl (hb hby d6_2) rfl k) ?_
  refine own_st (T' := s₁) (g' := (mkF m 4 #[.val (.ref a1), .val (.ref p2), .val (.int (0 : Int32)), .unset] [(.ref a1), (.int (0 : Int32))])) (fun _ k => Jvm.Free.XS.aloadN (g := (mkF m 3 #[.val (.ref a1), .val (.ref p2), .val (.int (0 : Int32)), .unset] [(.int (0 : Int32))])) X0.here hx rfl (hb hby d6_3) rfl rfl k) ?_
  obtain ⟨T1, X1, e1, st1⟩ := getF X0 hx hZ hown (host := "") (Or.inl (hw _ (List.mem_of_getElem? (i := 50) rfl))) Via.refl e0 F_s (g := (mkF m 4 #[.val (.ref a1), .val (.ref p2), .val (.int (0 : Int32)), .unset] [(.ref a1), (.int (0 : Int32))])) rfl rfl (hb hby d6_4)
  refine own_st (T' := T1) (g' := (mkF m 7 #[.val (.ref a1), .val (.ref p2), .val (.int (0 : Int32)), .unset] [(.int (0 : Int32)), (.int (0 : Int32))])) (fun _ k => (st1) _ k) ?_
  refine own_st (T' := T1) (g' := (mkF m 37 #[.val (.ref a1), .val (.ref p2), .val (.int (0 : Int32)), .unset] [])) (fun _ k => XS.icmpYes (g := (mkF m 7 #[.val (.ref a1), .val (.ref p2), .val (.int (0 : Int32)), .unset] [(.int (0 : Int32)), (.int (0 : Int32))])) X1.here hx rfl (pc0 := 7) (pc' := 37) rfl (hb hby d6_7) rfl (flt (by decide : ¬ ((0 : Int32) < (0 : Int32)))).2.1 (by decide) (by decide) k) ?_
  refine own_st (T' := T1) (g' := (mkF m 38 #[.val (.ref a1), .val (.ref p2), .val (.int (0 : Int32)), .unset] [.null])) (fun _ k => XS.aconstNull (g := (mkF m 37 #[.val (.ref a1), .val (.ref p2), .val (.int (0 : Int32)), .unset] [])) X1.here hx rfl (hb hby d6_37) k) ?_
  exact own_end (Q := Q6_0 Z a1 p2 en ke  h0 n0) (v := some .null) X1 (fun h => by rw [Bd.returns] at h; cases h) (fun fs hr => X1.areturnOut hx rfl Bd.returns rfl (hb hby d6_38) hr) (⟨_, rfl, hf.symm, N0, e1⟩) (by decide) (by decide)
def Q6_1 (Z : State) (a1 : Addr) (p2 : Addr) (en : Addr) (ke : ClassId) (k0 : Addr) (r0 : Value) (h0 : Heap) (n0 : Nat) (v : Option Value) (h : Heap) (L : List Loc) : Prop := ∃ r, v = some r ∧ r = own_lk [(k0, r0)] p2 ∧ Fr n0 L ∧ h = h0
set_option maxRecDepth 65536 in
set_option maxHeartbeats 40000000 in
theorem rm6_1 (l : Launch) (Z : State) (a0 : Array Value) (hw : ∀ d ∈ tables_1, d.before a0 Z = true) (ws : List Jvm.Cond) (a1 : Addr) (p2 : Addr) (en : Addr) (ke : ClassId) (k0 : Addr) (r0 : Value) (h0 : Heap) (n0 : Nat) (Z0 : n0 ≤ h0.size) (F_e : Fld Z h0 a1 "com/example/hollow_tree/hollowtree/query/IdentityTable" "entries" "[Ljava/lang/Object;" (.ref en)) (F_s : Fld Z h0 a1 "com/example/hollow_tree/hollowtree/query/IdentityTable" "size" "I" (.int (2 : Int32))) (V_en : Arv Z h0 en ke (.object "java/lang/Object") (2 : Int32) [(.ref k0), r0] .null) (R_r0 : own_R Z h0 r0)   :
    MetFree l (⟨"com/example/hollow_tree/hollowtree/query/IdentityTable", "get", "(Ljava/lang/Object;)Ljava/lang/Object;"⟩ : MethodName) (head1 (Jvm.Cond.code (⟨"com/example/hollow_tree/hollowtree/query/IdentityTable", "get", "(Ljava/lang/Object;)Ljava/lang/Object;"⟩ : MethodName) prog_144_method_2_code 4 (some (.object "java/lang/Object")) :: ws) ({ frames := 0, cells := 0, slots := 0, locals := 0 } : Room)) (fun a U => a = #[(.ref a1), (.ref p2)] ∧ Z.Warmed39 U.vm ∧ U.heap = h0) (fun _ _ _ _ _ => True) (fun _ U o U' => ∃ v L, o = .returned v ∧ Q6_1 Z a1 p2 en ke k0 r0 h0 n0 v U'.heap L ∧ FrameEnd U o U' L ({ frames := 0, cells := 0, slots := 0, locals := 0 } : Room).cells ({ frames := 0, cells := 0, slots := 0, locals := 0 } : Room).slots) := by
  refine MetFree.of_bodySF (plainFor_of_name own_pn6) hisR ?_
  intro p e s m args below meth c s₁ Bd hml0 hP hK
  obtain ⟨rfl, hZ, hh⟩ := hP
  have hx := Bd.exec
  have hby := Bd.bytes
  have hml : c.maxLocals = 4 := hml0
  have hown : s.vm.findClass "com/example/hollow_tree/hollowtree/query/IdentityTable" = some m.cls := findClass_of_methodNamed Bd.named
  have hnm := (name_of_methodNamed Bd.named Bd.method).1
  have hlk := Bd.notSynchronized
  have X0 : Stand p l e ({ frames := 0, cells := 0, slots := 0, locals := 0 } : Room) s m #[(.ref a1), (.ref p2)] below meth c s₁ [] 0 0 := Stand.of_body Bd
  have e0 : s₁.heap = h0 := by rw [← hh, Bd.state]; rfl
  have N0 := Fr.nil n0
  show own_Goes p e below (fun o U' => ∃ v L, o = .returned v ∧ Q6_1 Z a1 p2 en ke k0 r0 h0 n0 v U'.heap L ∧ FrameEnd s o U' L ({ frames := 0, cells := 0, slots := 0, locals := 0 } : Room).cells ({ frames := 0, cells := 0, slots := 0, locals := 0 } : Room).slots) s₁ (entryFrame m #[(.ref a1), (.ref p2)] 4)
  refine own_st (T' := s₁) (g' := mkF m 0 #[.val (.ref a1), .val (.ref p2), .unset, .unset] []) (fun _ k => castTop (own_ef6 m a1 p2) k) ?_
  have hf : own_lk [(k0, r0)] p2 = own_lk [(k0, r0)] p2 := rfl
  refine own_st (T' := s₁) (g' := (mkF m 1 #[.val (.ref a1), .val (.ref p2), .unset, .unset] [(.int (0 : Int32))])) (fun _ k => XS.iconst (g := (mkF m 0 #[.val (.ref a1), .val (.ref p2), .unset, .unset] [])) X0.here hx rfl (hb hby d6_0) k) ?_
  refine own_st (T' := s₁) (g' := (mkF m 2 #[.val (.ref a1), .val (.ref p2), .val (.int (0 : Int32)), .unset] [])) (fun _ k => Jvm.Free.XS.istoreN (g := (mkF m 1 #[.val (.ref a1), .val (.ref p2), .unset, .unset] [(.int (0 : Int32))])) X0.here hx rfl (hb hby d6_1) rfl (l' := #[.val (.ref a1), .val (.ref p2), .val (.int (0 : Int32)), .unset]) rfl k) ?_
  refine own_st (T' := s₁) (g' := (mkF m 3 #[.val (.ref a1), .val (.ref p2), .val (.int (0 : Int32)), .unset] [(.int (0 : Int32))])) (fun _ k => Jvm.Free.XS.iloadN (g := (mkF m 2 #[.val (.ref a1), .val (.ref p2), .val (.int (0 : Int32)), .unset] [])) X0.here hx rfl (hb hby d6_2) rfl k) ?_
  refine own_st (T' := s₁) (g' := (mkF m 4 #[.val (.ref a1), .val (.ref p2), .val (.int (0 : Int32)), .unset] [(.ref a1), (.int (0 : Int32))])) (fun _ k => Jvm.Free.XS.aloadN (g := (mkF m 3 #[.val (.ref a1), .val (.ref p2), .val (.int (0 : Int32)), .unset] [(.int (0 : Int32))])) X0.here hx rfl (hb hby d6_3) rfl rfl k) ?_
  obtain ⟨T1, X1, e1, st1⟩ := getF X0 hx hZ hown (host := "") (Or.inl (hw _ (List.mem_of_getElem? (i := 50) rfl))) Via.refl e0 F_s (g := (mkF m 4 #[.val (.ref a1), .val (.ref p2), .val (.int (0 : Int32)), .unset] [(.ref a1), (.int (0 : Int32))])) rfl rfl (hb hby d6_4)
  refine own_st (T' := T1) (g' := (mkF m 7 #[.val (.ref a1), .val (.ref p2), .val (.int (0 : Int32)), .unset] [(.int (2 : Int32)), (.int (0 : Int32))])) (fun _ k => (st1) _ k) ?_
  refine own_st (T' := T1) (g' := (mkF m 10 #[.val (.ref a1), .val (.ref p2), .val (.int (0 : Int32)), .unset] [])) (fun _ k => XS.icmpNo (g := (mkF m 7 #[.val (.ref a1), .val (.ref p2), .val (.int (0 : Int32)), .unset] [(.int (2 : Int32)), (.int (0 : Int32))])) X1.here hx rfl (hb hby d6_7) rfl (tlt (by decide : (0 : Int32) < (2 : Int32))).2.1 k) ?_
  refine own_st (T' := T1) (g' := (mkF m 11 #[.val (.ref a1), .val (.ref p2), .val (.int (0 : Int32)), .unset] [(.ref a1)])) (fun _ k => Jvm.Free.XS.aloadN (g := (mkF m 10 #[.val (.ref a1), .val (.ref p2), .val (.int (0 : Int32)), .unset] [])) X1.here hx rfl (hb hby d6_10) rfl rfl k) ?_
  obtain ⟨T2, X2, e2, st2⟩ := getF X1 hx hZ hown (host := "") (Or.inl (hw _ (List.mem_of_getElem? (i := 43) rfl))) Via.refl e1 F_e (g := (mkF m 11 #[.val (.ref a1), .val (.ref p2), .val (.int (0 : Int32)), .unset] [(.ref a1)])) rfl rfl (hb hby d6_11)
  refine own_st (T' := T2) (g' := (mkF m 14 #[.val (.ref a1), .val (.ref p2), .val (.int (0 : Int32)), .unset] [(.ref en)])) (fun _ k => (st2) _ k) ?_
  refine own_st (T' := T2) (g' := (mkF m 15 #[.val (.ref a1), .val (.ref p2), .val (.int (0 : Int32)), .unset] [(.int (0 : Int32)), (.ref en)])) (fun _ k => Jvm.Free.XS.iloadN (g := (mkF m 14 #[.val (.ref a1), .val (.ref p2), .val (.int (0 : Int32)), .unset] [(.ref en)])) X2.here hx rfl (hb hby d6_14) rfl k) ?_
  obtain ⟨cl3, Ar3, -, Sz3, Nn3, Hs3, Gs3⟩ := id V_en
  have hin3 : ¬ ((0 : Int32) < 0 ∨ cl3.slots.size ≤ ((0 : Int32)).toNatClampNeg) := inb_of Sz3 ⟨by decide, by decide⟩
  have hat3 : cl3.slots[((0 : Int32)).toNatClampNeg]? = some (.ref k0) := Has.at Hs3 hin3 rfl
  refine own_st (T' := T2) (g' := (mkF m 16 #[.val (.ref a1), .val (.ref p2), .val (.int (0 : Int32)), .unset] [(.ref k0)])) (fun _ k => (X2.aaload hx (j := (0 : Int32)) (v := (.ref k0)) (by rw [e2]; exact Ar3.1) (State.isArrayOf_alike hZ.alike Ar3.2.1) rfl Ar3.2.2 hin3 hat3 (g := (mkF m 15 #[.val (.ref a1), .val (.ref p2), .val (.int (0 : Int32)), .unset] [(.int (0 : Int32)), (.ref en)])) rfl rfl (hb hby d6_15)) _ k) ?_
  refine own_st (T' := T2) (g' := (mkF m 17 #[.val (.ref a1), .val (.ref p2), .val (.int (0 : Int32)), .unset] [(.ref p2), (.ref k0)])) (fun _ k => Jvm.Free.XS.aloadN (g := (mkF m 16 #[.val (.ref a1), .val (.ref p2), .val (.int (0 : Int32)), .unset] [(.ref k0)])) X2.here hx rfl (hb hby d6_16) rfl rfl k) ?_
  by_cases hc17 : k0 = p2
  · have hf := hf.trans (if_pos hc17)
    have ac17 := fun t => Jvm.RoadKit.acmp (target := t) (e := e) (g := (mkF m 17 #[.val (.ref a1), .val (.ref p2), .val (.int (0 : Int32)), .unset] [(.ref p2), (.ref k0)])) X2 hx rfl rfl rfl (pc0 := 17) (pc' := 20) (same := true) rfl (hb hby d6_17) rfl (decide_eq_true (congrArg Value.ref hc17)) (by decide) (by decide)
    refine own_st (T' := T2) (g' := (mkF m 20 #[.val (.ref a1), .val (.ref p2), .val (.int (0 : Int32)), .unset] [])) (fun _ k => (ac17) _ k) ?_
    refine own_st (T' := T2) (g' := (mkF m 21 #[.val (.ref a1), .val (.ref p2), .val (.int (0 : Int32)), .unset] [(.ref a1)])) (fun _ k => Jvm.Free.XS.aloadN (g := (mkF m 20 #[.val (.ref a1), .val (.ref p2), .val (.int (0 : Int32)), .unset] [])) X2.here hx rfl (hb hby d6_20) rfl rfl k) ?_
    obtain ⟨T4, X4, e4, st4⟩ := getF X2 hx hZ hown (host := "") (Or.inl (hw _ (List.mem_of_getElem? (i := 43) rfl))) Via.refl e2 F_e (g := (mkF m 21 #[.val (.ref a1), .val (.ref p2), .val (.int (0 : Int32)), .unset] [(.ref a1)])) rfl rfl (hb hby d6_21)
    refine own_st (T' := T4) (g' := (mkF m 24 #[.val (.ref a1), .val (.ref p2), .val (.int (0 : Int32)), .unset] [(.ref en)])) (fun _ k => (st4) _ k) ?_
    refine own_st (T' := T4) (g' := (mkF m 25 #[.val (.ref a1), .val (.ref p2), .val (.int (0 : Int32)), .unset] [(.int (0 : Int32)), (.ref en)])) (fun _ k => Jvm.Free.XS.iloadN (g := (mkF m 24 #[.val (.ref a1), .val (.ref p2), .val (.int (0 : Int32)), .unset] [(.ref en)])) X4.here hx rfl (hb hby d6_24) rfl k) ?_
    refine own_st (T' := T4) (g' := (mkF m 26 #[.val (.ref a1), .val (.ref p2), .val (.int (0 : Int32)), .unset] [(.int (1 : Int32)), (.int (0 : Int32)), (.ref en)])) (fun _ k => XS.iconst (g := (mkF m 25 #[.val (.ref a1), .val (.ref p2), .val (.int (0 : Int32)), .unset] [(.int (0 : Int32)), (.ref en)])) X4.here hx rfl (hb hby d6_25) k) ?_
    refine own_st (T' := T4) (g' := (mkF m 27 #[.val (.ref a1), .val (.ref p2), .val (.int (0 : Int32)), .unset] [(.int (1 : Int32)), (.ref en)])) (fun _ k => Jvm.Free.XS.iadd (g := (mkF m 26 #[.val (.ref a1), .val (.ref p2), .val (.int (0 : Int32)), .unset] [(.int (1 : Int32)), (.int (0 : Int32)), (.ref en)])) X4.here hx rfl (hb hby d6_26) rfl k) ?_
    obtain ⟨cl5, Ar5, -, Sz5, Nn5, Hs5, Gs5⟩ := id V_en
    have hin5 : ¬ ((1 : Int32) < 0 ∨ cl5.slots.size ≤ ((1 : Int32)).toNatClampNeg) := inb_of Sz5 ⟨by decide, by decide⟩
    have hat5 : cl5.slots[((1 : Int32)).toNatClampNeg]? = some r0 := Has.at Hs5 hin5 rfl
    refine own_st (T' := T4) (g' := (mkF m 28 #[.val (.ref a1), .val (.ref p2), .val (.int (0 : Int32)), .unset] [r0])) (fun _ k => (X4.aaload hx (j := (1 : Int32)) (v := r0) (by rw [e4]; exact Ar5.1) (State.isArrayOf_alike hZ.alike Ar5.2.1) rfl Ar5.2.2 hin5 hat5 (g := (mkF m 27 #[.val (.ref a1), .val (.ref p2), .val (.int (0 : Int32)), .unset] [(.int (1 : Int32)), (.ref en)])) rfl rfl (hb hby d6_27)) _ k) ?_
    refine own_st (T' := T4) (g' := (mkF m 29 #[.val (.ref a1), .val (.ref p2), .val (.int (0 : Int32)), .val r0] [])) (fun _ k => Jvm.Free.XS.astoreN (g := (mkF m 28 #[.val (.ref a1), .val (.ref p2), .val (.int (0 : Int32)), .unset] [r0])) X4.here hx rfl (hb hby d6_28) rfl ((R_r0.rf)).isRef (l' := #[.val (.ref a1), .val (.ref p2), .val (.int (0 : Int32)), .val r0]) (by rcases (R_r0.rf) with rfl | ⟨_, rfl⟩ <;> rfl) k) ?_
    refine own_st (T' := T4) (g' := (mkF m 30 #[.val (.ref a1), .val (.ref p2), .val (.int (0 : Int32)), .val r0] [r0])) (fun _ k => Jvm.Free.XS.aloadN (g := (mkF m 29 #[.val (.ref a1), .val (.ref p2), .val (.int (0 : Int32)), .val r0] [])) X4.here hx rfl (hb hby d6_29) rfl ((R_r0.rf)).isRef k) ?_
    exact own_end (Q := Q6_1 Z a1 p2 en ke k0 r0 h0 n0) (v := some r0) X4 (fun h => by rw [Bd.returns] at h; cases h) (fun fs hr => X4.areturnOut hx ((R_r0.rf)).isRef Bd.returns rfl (hb hby d6_30) hr) (⟨_, rfl, hf.symm, N0, e4⟩) (by decide) (by decide)
  · have hf := hf.trans (if_neg hc17)
    have ac17 := fun t => Jvm.RoadKit.acmp (target := t) (e := e) (g := (mkF m 17 #[.val (.ref a1), .val (.ref p2), .val (.int (0 : Int32)), .unset] [(.ref p2), (.ref k0)])) X2 hx rfl rfl rfl (pc0 := 17) (pc' := 31) (same := false) rfl (hb hby d6_17) rfl (decide_eq_false fun q => hc17 (Value.ref.inj q)) (by decide) (by decide)
    refine own_st (T' := T2) (g' := (mkF m 31 #[.val (.ref a1), .val (.ref p2), .val (.int (0 : Int32)), .unset] [])) (fun _ k => (ac17) _ k) ?_
    refine own_st (T' := T2) (g' := (mkF m 34 #[.val (.ref a1), .val (.ref p2), .val (.int (2 : Int32)), .unset] [])) (fun _ k => XS.iinc (g := (mkF m 31 #[.val (.ref a1), .val (.ref p2), .val (.int (0 : Int32)), .unset] [])) X2.here hx rfl (hb hby d6_31) rfl (l' := #[.val (.ref a1), .val (.ref p2), .val (.int (2 : Int32)), .unset]) rfl k) ?_
    refine own_st (T' := T2) (g' := (mkF m 2 #[.val (.ref a1), .val (.ref p2), .val (.int (2 : Int32)), .unset] [])) (fun _ k => XS.goto (g := (mkF m 34 #[.val (.ref a1), .val (.ref p2), .val (.int (2 : Int32)), .unset] [])) X2.here hx rfl (pc0 := 34) (pc' := 2) rfl (hb hby d6_34) (by decide) (by decide) k) ?_
    refine own_st (T' := T2) (g' := (mkF m 3 #[.val (.ref a1), .val (.ref p2), .val (.int (2 : Int32)), .unset] [(.int (2 : Int32))])) (fun _ k => Jvm.Free.XS.iloadN (g := (mkF m 2 #[.val (.ref a1), .val (.ref p2), .val (.int (2 : Int32)), .unset] [])) X2.here hx rfl (hb hby d6_2) rfl k) ?_
    refine own_st (T' := T2) (g' := (mkF m 4 #[.val (.ref a1), .val (.ref p2), .val (.int (2 : Int32)), .unset] [(.ref a1), (.int (2 : Int32))])) (fun _ k => Jvm.Free.XS.aloadN (g := (mkF m 3 #[.val (.ref a1), .val (.ref p2), .val (.int (2 : Int32)), .unset] [(.int (2 : Int32))])) X2.here hx rfl (hb hby d6_3) rfl rfl k) ?_
    obtain ⟨T6, X6, e6, st6⟩ := getF X2 hx hZ hown (host := "") (Or.inl (hw _ (List.mem_of_getElem? (i := 50) rfl))) Via.refl e2 F_s (g := (mkF m 4 #[.val (.ref a1), .val (.ref p2), .val (.int (2 : Int32)), .unset] [(.ref a1), (.int (2 : Int32))])) rfl rfl (hb hby d6_4)
    refine own_st (T' := T6) (g' := (mkF m 7 #[.val (.ref a1), .val (.ref p2), .val (.int (2 : Int32)), .unset] [(.int (2 : Int32)), (.int (2 : Int32))])) (fun _ k => (st6) _ k) ?_
    refine own_st (T' := T6) (g' := (mkF m 37 #[.val (.ref a1), .val (.ref p2), .val (.int (2 : Int32)), .unset] [])) (fun _ k => XS.icmpYes (g := (mkF m 7 #[.val (.ref a1), .val (.ref p2), .val (.int (2 : Int32)), .unset] [(.int (2 : Int32)), (.int (2 : Int32))])) X6.here hx rfl (pc0 := 7) (pc' := 37) rfl (hb hby d6_7) rfl (flt (by decide : ¬ ((2 : Int32) < (2 : Int32)))).2.1 (by decide) (by decide) k) ?_
    refine own_st (T' := T6) (g' := (mkF m 38 #[.val (.ref a1), .val (.ref p2), .val (.int (2 : Int32)), .unset] [.null])) (fun _ k => XS.aconstNull (g := (mkF m 37 #[.val (.ref a1), .val (.ref p2), .val (.int (2 : Int32)), .unset] [])) X6.here hx rfl (hb hby d6_37) k) ?_
    exact own_end (Q := Q6_1 Z a1 p2 en ke k0 r0 h0 n0) (v := some .null) X6 (fun h => by rw [Bd.returns] at h; cases h) (fun fs hr => X6.areturnOut hx rfl Bd.returns rfl (hb hby d6_38) hr) (⟨_, rfl, hf.symm, N0, e6⟩) (by decide) (by decide)
def Q6_2 (Z : State) (a1 : Addr) (p2 : Addr) (en : Addr) (ke : ClassId) (k0 k1 : Addr) (r0 r1 : Value) (h0 : Heap) (n0 : Nat) (v : Option Value) (h : Heap) (L : List Loc) : Prop := ∃ r, v = some r ∧ r = own_lk [(k0, r0), (k1, r1)] p2 ∧ Fr n0 L ∧ h = h0
set_option maxRecDepth 65536 in
set_option maxHeartbeats 40000000 in
theorem rm6_2 (l : Launch) (Z : State) (a0 : Array Value) (hw : ∀ d ∈ tables_1, d.before a0 Z = true) (ws : List Jvm.Cond) (a1 : Addr) (p2 : Addr) (en : Addr) (ke : ClassId) (k0 k1 : Addr) (r0 r1 : Value) (h0 : Heap) (n0 : Nat) (Z0 : n0 ≤ h0.size) (F_e : Fld Z h0 a1 "com/example/hollow_tree/hollowtree/query/IdentityTable" "entries" "[Ljava/lang/Object;" (.ref en)) (F_s : Fld Z h0 a1 "com/example/hollow_tree/hollowtree/query/IdentityTable" "size" "I" (.int (4 : Int32))) (V_en : Arv Z h0 en ke (.object "java/lang/Object") (4 : Int32) [(.ref k0), r0, (.ref k1), r1] .null) (R_r0 : own_R Z h0 r0) (R_r1 : own_R Z h0 r1)   :
    MetFree l (⟨"com/example/hollow_tree/hollowtree/query/IdentityTable", "get", "(Ljava/lang/Object;)Ljava/lang/Object;"⟩ : MethodName) (head1 (Jvm.Cond.code (⟨"com/example/hollow_tree/hollowtree/query/IdentityTable", "get", "(Ljava/lang/Object;)Ljava/lang/Object;"⟩ : MethodName) prog_144_method_2_code 4 (some (.object "java/lang/Object")) :: ws) ({ frames := 0, cells := 0, slots := 0, locals := 0 } : Room)) (fun a U => a = #[(.ref a1), (.ref p2)] ∧ Z.Warmed39 U.vm ∧ U.heap = h0) (fun _ _ _ _ _ => True) (fun _ U o U' => ∃ v L, o = .returned v ∧ Q6_2 Z a1 p2 en ke k0 k1 r0 r1 h0 n0 v U'.heap L ∧ FrameEnd U o U' L ({ frames := 0, cells := 0, slots := 0, locals := 0 } : Room).cells ({ frames := 0, cells := 0, slots := 0, locals := 0 } : Room).slots) := by
  refine MetFree.of_bodySF (plainFor_of_name own_pn6) hisR ?_
  intro p e s m args below meth c s₁ Bd hml0 hP hK
  obtain ⟨rfl, hZ, hh⟩ := hP
  have hx := Bd.exec
  have hby := Bd.bytes
  have hml : c.maxLocals = 4 := hml0
  have hown : s.vm.findClass "com/example/hollow_tree/hollowtree/query/IdentityTable" = some m.cls := findClass_of_methodNamed Bd.named
  have hnm := (name_of_methodNamed Bd.named Bd.method).1
  have hlk := Bd.notSynchronized
  have X0 : Stand p l e ({ frames := 0, cells := 0, slots := 0, locals := 0 } : Room) s m #[(.ref a1), (.ref p2)] below meth c s₁ [] 0 0 := Stand.of_body Bd
  have e0 : s₁.heap = h0 := by rw [← hh, Bd.state]; rfl
  have N0 := Fr.nil n0
  show own_Goes p e below (fun o U' => ∃ v L, o = .returned v ∧ Q6_2 Z a1 p2 en ke k0 k1 r0 r1 h0 n0 v U'.heap L ∧ FrameEnd s o U' L ({ frames := 0, cells := 0, slots := 0, locals := 0 } : Room).cells ({ frames := 0, cells := 0, slots := 0, locals := 0 } : Room).slots) s₁ (entryFrame m #[(.ref a1), (.ref p2)] 4)
  refine own_st (T' := s₁) (g' := mkF m 0 #[.val (.ref a1), .val (.ref p2), .unset, .unset] []) (fun _ k => castTop (own_ef6 m a1 p2) k) ?_
  have hf : own_lk [(k0, r0), (k1, r1)] p2 = own_lk [(k0, r0), (k1, r1)] p2 := rfl
  refine own_st (T' := s₁) (g' := (mkF m 1 #[.val (.ref a1), .val (.ref p2), .unset, .unset] [(.int (0 : Int32))])) (fun _ k => XS.iconst (g := (mkF m 0 #[.val (.ref a1), .val (.ref p2), .unset, .unset] [])) X0.here hx rfl (hb hby d6_0) k) ?_
  refine own_st (T' := s₁) (g' := (mkF m 2 #[.val (.ref a1), .val (.ref p2), .val (.int (0 : Int32)), .unset] [])) (fun _ k => Jvm.Free.XS.istoreN (g := (mkF m 1 #[.val (.ref a1), .val (.ref p2), .unset, .unset] [(.int (0 : Int32))])) X0.here hx rfl (hb hby d6_1) rfl (l' := #[.val (.ref a1), .val (.ref p2), .val (.int (0 : Int32)), .unset]) rfl k) ?_
  refine own_st (T' := s₁) (g' := (mkF m 3 #[.val (.ref a1), .val (.ref p2), .val (.int (0 : Int32)), .unset] [(.int (0 : Int32))])) (fun _ k => Jvm.Free.XS.iloadN (g := (mkF m 2 #[.val (.ref a1), .val (.ref p2), .val (.int (0 : Int32)), .unset] [])) X0.here hx rfl (hb hby d6_2) rfl k) ?_
  refine own_st (T' := s₁) (g' := (mkF m 4 #[.val (.ref a1), .val (.ref p2), .val (.int (0 : Int32)), .unset] [(.ref a1), (.int (0 : Int32))])) (fun _ k => Jvm.Free.XS.aloadN (g := (mkF m 3 #[.val (.ref a1), .val (.ref p2), .val (.int (0 : Int32)), .unset] [(.int (0 : Int32))])) X0.here hx rfl (hb hby d6_3) rfl rfl k) ?_
  obtain ⟨T1, X1, e1, st1⟩ := getF X0 hx hZ hown (host := "") (Or.inl (hw _ (List.mem_of_getElem? (i := 50) rfl))) Via.refl e0 F_s (g := (mkF m 4 #[.val (.ref a1), .val (.ref p2), .val (.int (0 : Int32)), .unset] [(.ref a1), (.int (0 : Int32))])) rfl rfl (hb hby d6_4)
  refine own_st (T' := T1) (g' := (mkF m 7 #[.val (.ref a1), .val (.ref p2), .val (.int (0 : Int32)), .unset] [(.int (4 : Int32)), (.int (0 : Int32))])) (fun _ k => (st1) _ k) ?_
  refine own_st (T' := T1) (g' := (mkF m 10 #[.val (.ref a1), .val (.ref p2), .val (.int (0 : Int32)), .unset] [])) (fun _ k => XS.icmpNo (g := (mkF m 7 #[.val (.ref a1), .val (.ref p2), .val (.int (0 : Int32)), .unset] [(.int (4 : Int32)), (.int (0 : Int32))])) X1.here hx rfl (hb hby d6_7) rfl (tlt (by decide : (0 : Int32) < (4 : Int32))).2.1 k) ?_
  refine own_st (T' := T1) (g' := (mkF m 11 #[.val (.ref a1), .val (.ref p2), .val (.int (0 : Int32)), .unset] [(.ref a1)])) (fun _ k => Jvm.Free.XS.aloadN (g := (mkF m 10 #[.val (.ref a1), .val (.ref p2), .val (.int (0 : Int32)), .unset] [])) X1.here hx rfl (hb hby d6_10) rfl rfl k) ?_
  obtain ⟨T2, X2, e2, st2⟩ := getF X1 hx hZ hown (host := "") (Or.inl (hw _ (List.mem_of_getElem? (i := 43) rfl))) Via.refl e1 F_e (g := (mkF m 11 #[.val (.ref a1), .val (.ref p2), .val (.int (0 : Int32)), .unset] [(.ref a1)])) rfl rfl (hb hby d6_11)
  refine own_st (T' := T2) (g' := (mkF m 14 #[.val (.ref a1), .val (.ref p2), .val (.int (0 : Int32)), .unset] [(.ref en)])) (fun _ k => (st2) _ k) ?_
  refine own_st (T' := T2) (g' := (mkF m 15 #[.val (.ref a1), .val (.ref p2), .val (.int (0 : Int32)), .unset] [(.int (0 : Int32)), (.ref en)])) (fun _ k => Jvm.Free.XS.iloadN (g := (mkF m 14 #[.val (.ref a1), .val (.ref p2), .val (.int (0 : Int32)), .unset] [(.ref en)])) X2.here hx rfl (hb hby d6_14) rfl k) ?_
  obtain ⟨cl3, Ar3, -, Sz3, Nn3, Hs3, Gs3⟩ := id V_en
  have hin3 : ¬ ((0 : Int32) < 0 ∨ cl3.slots.size ≤ ((0 : Int32)).toNatClampNeg) := inb_of Sz3 ⟨by decide, by decide⟩
  have hat3 : cl3.slots[((0 : Int32)).toNatClampNeg]? = some (.ref k0) := Has.at Hs3 hin3 rfl
  refine own_st (T' := T2) (g' := (mkF m 16 #[.val (.ref a1), .val (.ref p2), .val (.int (0 : Int32)), .unset] [(.ref k0)])) (fun _ k => (X2.aaload hx (j := (0 : Int32)) (v := (.ref k0)) (by rw [e2]; exact Ar3.1) (State.isArrayOf_alike hZ.alike Ar3.2.1) rfl Ar3.2.2 hin3 hat3 (g := (mkF m 15 #[.val (.ref a1), .val (.ref p2), .val (.int (0 : Int32)), .unset] [(.int (0 : Int32)), (.ref en)])) rfl rfl (hb hby d6_15)) _ k) ?_
  refine own_st (T' := T2) (g' := (mkF m 17 #[.val (.ref a1), .val (.ref p2), .val (.int (0 : Int32)), .unset] [(.ref p2), (.ref k0)])) (fun _ k => Jvm.Free.XS.aloadN (g := (mkF m 16 #[.val (.ref a1), .val (.ref p2), .val (.int (0 : Int32)), .unset] [(.ref k0)])) X2.here hx rfl (hb hby d6_16) rfl rfl k) ?_
  by_cases hc17 : k0 = p2
  · have hf := hf.trans (if_pos hc17)
    have ac17 := fun t => Jvm.RoadKit.acmp (target := t) (e := e) (g := (mkF m 17 #[.val (.ref a1), .val (.ref p2), .val (.int (0 : Int32)), .unset] [(.ref p2), (.ref k0)])) X2 hx rfl rfl rfl (pc0 := 17) (pc' := 20) (same := true) rfl (hb hby d6_17) rfl (decide_eq_true (congrArg Value.ref hc17)) (by decide) (by decide)
    refine own_st (T' := T2) (g' := (mkF m 20 #[.val (.ref a1), .val (.ref p2), .val (.int (0 : Int32)), .unset] [])) (fun _ k => (ac17) _ k) ?_
    refine own_st (T' := T2) (g' := (mkF m 21 #[.val (.ref a1), .val (.ref p2), .val (.int (0 : Int32)), .unset] [(.ref a1)])) (fun _ k => Jvm.Free.XS.aloadN (g := (mkF m 20 #[.val (.ref a1), .val (.ref p2), .val (.int (0 : Int32)), .unset] [])) X2.here hx rfl (hb hby d6_20) rfl rfl k) ?_
    obtain ⟨T4, X4, e4, st4⟩ := getF X2 hx hZ hown (host := "") (Or.inl (hw _ (List.mem_of_getElem? (i := 43) rfl))) Via.refl e2 F_e (g := (mkF m 21 #[.val (.ref a1), .val (.ref p2), .val (.int (0 : Int32)), .unset] [(.ref a1)])) rfl rfl (hb hby d6_21)
    refine own_st (T' := T4) (g' := (mkF m 24 #[.val (.ref a1), .val (.ref p2), .val (.int (0 : Int32)), .unset] [(.ref en)])) (fun _ k => (st4) _ k) ?_
    refine own_st (T' := T4) (g' := (mkF m 25 #[.val (.ref a1), .val (.ref p2), .val (.int (0 : Int32)), .unset] [(.int (0 : Int32)), (.ref en)])) (fun _ k => Jvm.Free.XS.iloadN (g := (mkF m 24 #[.val (.ref a1), .val (.ref p2), .val (.int (0 : Int32)), .unset] [(.ref en)])) X4.here hx rfl (hb hby d6_24) rfl k) ?_
    refine own_st (T' := T4) (g' := (mkF m 26 #[.val (.ref a1), .val (.ref p2), .val (.int (0 : Int32)), .unset] [(.int (1 : Int32)), (.int (0 : Int32)), (.ref en)])) (fun _ k => XS.iconst (g := (mkF m 25 #[.val (.ref a1), .val (.ref p2), .val (.int (0 : Int32)), .unset] [(.int (0 : Int32)), (.ref en)])) X4.here hx rfl (hb hby d6_25) k) ?_
    refine own_st (T' := T4) (g' := (mkF m 27 #[.val (.ref a1), .val (.ref p2), .val (.int (0 : Int32)), .unset] [(.int (1 : Int32)), (.ref en)])) (fun _ k => Jvm.Free.XS.iadd (g := (mkF m 26 #[.val (.ref a1), .val (.ref p2), .val (.int (0 : Int32)), .unset] [(.int (1 : Int32)), (.int (0 : Int32)), (.ref en)])) X4.here hx rfl (hb hby d6_26) rfl k) ?_
    obtain ⟨cl5, Ar5, -, Sz5, Nn5, Hs5, Gs5⟩ := id V_en
    have hin5 : ¬ ((1 : Int32) < 0 ∨ cl5.slots.size ≤ ((1 : Int32)).toNatClampNeg) := inb_of Sz5 ⟨by decide, by decide⟩
    have hat5 : cl5.slots[((1 : Int32)).toNatClampNeg]? = some r0 := Has.at Hs5 hin5 rfl
    refine own_st (T' := T4) (g' := (mkF m 28 #[.val (.ref a1), .val (.ref p2), .val (.int (0 : Int32)), .unset] [r0])) (fun _ k => (X4.aaload hx (j := (1 : Int32)) (v := r0) (by rw [e4]; exact Ar5.1) (State.isArrayOf_alike hZ.alike Ar5.2.1) rfl Ar5.2.2 hin5 hat5 (g := (mkF m 27 #[.val (.ref a1), .val (.ref p2), .val (.int (0 : Int32)), .unset] [(.int (1 : Int32)), (.ref en)])) rfl rfl (hb hby d6_27)) _ k) ?_
    refine own_st (T' := T4) (g' := (mkF m 29 #[.val (.ref a1), .val (.ref p2), .val (.int (0 : Int32)), .val r0] [])) (fun _ k => Jvm.Free.XS.astoreN (g := (mkF m 28 #[.val (.ref a1), .val (.ref p2), .val (.int (0 : Int32)), .unset] [r0])) X4.here hx rfl (hb hby d6_28) rfl ((R_r0.rf)).isRef (l' := #[.val (.ref a1), .val (.ref p2), .val (.int (0 : Int32)), .val r0]) (by rcases (R_r0.rf) with rfl | ⟨_, rfl⟩ <;> rfl) k) ?_
    refine own_st (T' := T4) (g' := (mkF m 30 #[.val (.ref a1), .val (.ref p2), .val (.int (0 : Int32)), .val r0] [r0])) (fun _ k => Jvm.Free.XS.aloadN (g := (mkF m 29 #[.val (.ref a1), .val (.ref p2), .val (.int (0 : Int32)), .val r0] [])) X4.here hx rfl (hb hby d6_29) rfl ((R_r0.rf)).isRef k) ?_
    exact own_end (Q := Q6_2 Z a1 p2 en ke k0 k1 r0 r1 h0 n0) (v := some r0) X4 (fun h => by rw [Bd.returns] at h; cases h) (fun fs hr => X4.areturnOut hx ((R_r0.rf)).isRef Bd.returns rfl (hb hby d6_30) hr) (⟨_, rfl, hf.symm, N0, e4⟩) (by decide) (by decide)
  · have hf := hf.trans (if_neg hc17)
    have ac17 := fun t => Jvm.RoadKit.acmp (target := t) (e := e) (g := (mkF m 17 #[.val (.ref a1), .val (.ref p2), .val (.int (0 : Int32)), .unset] [(.ref p2), (.ref k0)])) X2 hx rfl rfl rfl (pc0 := 17) (pc' := 31) (same := false) rfl (hb hby d6_17) rfl (decide_eq_false fun q => hc17 (Value.ref.inj q)) (by decide) (by decide)
    refine own_st (T' := T2) (g' := (mkF m 31 #[.val (.ref a1), .val (.ref p2), .val (.int (0 : Int32)), .unset] [])) (fun _ k => (ac17) _ k) ?_
    refine own_st (T' := T2) (g' := (mkF m 34 #[.val (.ref a1), .val (.ref p2), .val (.int (2 : Int32)), .unset] [])) (fun _ k => XS.iinc (g := (mkF m 31 #[.val (.ref a1), .val (.ref p2), .val (.int (0 : Int32)), .unset] [])) X2.here hx rfl (hb hby d6_31) rfl (l' := #[.val (.ref a1), .val (.ref p2), .val (.int (2 : Int32)), .unset]) rfl k) ?_
    refine own_st (T' := T2) (g' := (mkF m 2 #[.val (.ref a1), .val (.ref p2), .val (.int (2 : Int32)), .unset] [])) (fun _ k => XS.goto (g := (mkF m 34 #[.val (.ref a1), .val (.ref p2), .val (.int (2 : Int32)), .unset] [])) X2.here hx rfl (pc0 := 34) (pc' := 2) rfl (hb hby d6_34) (by decide) (by decide) k) ?_
    refine own_st (T' := T2) (g' := (mkF m 3 #[.val (.ref a1), .val (.ref p2), .val (.int (2 : Int32)), .unset] [(.int (2 : Int32))])) (fun _ k => Jvm.Free.XS.iloadN (g := (mkF m 2 #[.val (.ref a1), .val (.ref p2), .val (.int (2 : Int32)), .unset] [])) X2.here hx rfl (hb hby d6_2) rfl k) ?_
    refine own_st (T' := T2) (g' := (mkF m 4 #[.val (.ref a1), .val (.ref p2), .val (.int (2 : Int32)), .unset] [(.ref a1), (.int (2 : Int32))])) (fun _ k => Jvm.Free.XS.aloadN (g := (mkF m 3 #[.val (.ref a1), .val (.ref p2), .val (.int (2 : Int32)), .unset] [(.int (2 : Int32))])) X2.here hx rfl (hb hby d6_3) rfl rfl k) ?_
    obtain ⟨T6, X6, e6, st6⟩ := getF X2 hx hZ hown (host := "") (Or.inl (hw _ (List.mem_of_getElem? (i := 50) rfl))) Via.refl e2 F_s (g := (mkF m 4 #[.val (.ref a1), .val (.ref p2), .val (.int (2 : Int32)), .unset] [(.ref a1), (.int (2 : Int32))])) rfl rfl (hb hby d6_4)
    refine own_st (T' := T6) (g' := (mkF m 7 #[.val (.ref a1), .val (.ref p2), .val (.int (2 : Int32)), .unset] [(.int (4 : Int32)), (.int (2 : Int32))])) (fun _ k => (st6) _ k) ?_
    refine own_st (T' := T6) (g' := (mkF m 10 #[.val (.ref a1), .val (.ref p2), .val (.int (2 : Int32)), .unset] [])) (fun _ k => XS.icmpNo (g := (mkF m 7 #[.val (.ref a1), .val (.ref p2), .val (.int (2 : Int32)), .unset] [(.int (4 : Int32)), (.int (2 : Int32))])) X6.here hx rfl (hb hby d6_7) rfl (tlt (by decide : (2 : Int32) < (4 : Int32))).2.1 k) ?_
    refine own_st (T' := T6) (g' := (mkF m 11 #[.val (.ref a1), .val (.ref p2), .val (.int (2 : Int32)), .unset] [(.ref a1)])) (fun _ k => Jvm.Free.XS.aloadN (g := (mkF m 10 #[.val (.ref a1), .val (.ref p2), .val (.int (2 : Int32)), .unset] [])) X6.here hx rfl (hb hby d6_10) rfl rfl k) ?_
    obtain ⟨T7, X7, e7, st7⟩ := getF X6 hx hZ hown (host := "") (Or.inl (hw _ (List.mem_of_getElem? (i := 43) rfl))) Via.refl e6 F_e (g := (mkF m 11 #[.val (.ref a1), .val (.ref p2), .val (.int (2 : Int32)), .unset] [(.ref a1)])) rfl rfl (hb hby d6_11)
    refine own_st (T' := T7) (g' := (mkF m 14 #[.val (.ref a1), .val (.ref p2), .val (.int (2 : Int32)), .unset] [(.ref en)])) (fun _ k => (st7) _ k) ?_
    refine own_st (T' := T7) (g' := (mkF m 15 #[.val (.ref a1), .val (.ref p2), .val (.int (2 : Int32)), .unset] [(.int (2 : Int32)), (.ref en)])) (fun _ k => Jvm.Free.XS.iloadN (g := (mkF m 14 #[.val (.ref a1), .val (.ref p2), .val (.int (2 : Int32)), .unset] [(.ref en)])) X7.here hx rfl (hb hby d6_14) rfl k) ?_
    obtain ⟨cl8, Ar8, -, Sz8, Nn8, Hs8, Gs8⟩ := id V_en
    have hin8 : ¬ ((2 : Int32) < 0 ∨ cl8.slots.size ≤ ((2 : Int32)).toNatClampNeg) := inb_of Sz8 ⟨by decide, by decide⟩
    have hat8 : cl8.slots[((2 : Int32)).toNatClampNeg]? = some (.ref k1) := Has.at Hs8 hin8 rfl
    refine own_st (T' := T7) (g' := (mkF m 16 #[.val (.ref a1), .val (.ref p2), .val (.int (2 : Int32)), .unset] [(.ref k1)])) (fun _ k => (X7.aaload hx (j := (2 : Int32)) (v := (.ref k1)) (by rw [e7]; exact Ar8.1) (State.isArrayOf_alike hZ.alike Ar8.2.1) rfl Ar8.2.2 hin8 hat8 (g := (mkF m 15 #[.val (.ref a1), .val (.ref p2), .val (.int (2 : Int32)), .unset] [(.int (2 : Int32)), (.ref en)])) rfl rfl (hb hby d6_15)) _ k) ?_
    refine own_st (T' := T7) (g' := (mkF m 17 #[.val (.ref a1), .val (.ref p2), .val (.int (2 : Int32)), .unset] [(.ref p2), (.ref k1)])) (fun _ k => Jvm.Free.XS.aloadN (g := (mkF m 16 #[.val (.ref a1), .val (.ref p2), .val (.int (2 : Int32)), .unset] [(.ref k1)])) X7.here hx rfl (hb hby d6_16) rfl rfl k) ?_
    by_cases hc17 : k1 = p2
    · have hf := hf.trans (if_pos hc17)
      have ac17 := fun t => Jvm.RoadKit.acmp (target := t) (e := e) (g := (mkF m 17 #[.val (.ref a1), .val (.ref p2), .val (.int (2 : Int32)), .unset] [(.ref p2), (.ref k1)])) X7 hx rfl rfl rfl (pc0 := 17) (pc' := 20) (same := true) rfl (hb hby d6_17) rfl (decide_eq_true (congrArg Value.ref hc17)) (by decide) (by decide)
      refine own_st (T' := T7) (g' := (mkF m 20 #[.val (.ref a1), .val (.ref p2), .val (.int (2 : Int32)), .unset] [])) (fun _ k => (ac17) _ k) ?_
      refine own_st (T' := T7) (g' := (mkF m 21 #[.val (.ref a1), .val (.ref p2), .val (.int (2 : Int32)), .unset] [(.ref a1)])) (fun _ k => Jvm.Free.XS.aloadN (g := (mkF m 20 #[.val (.ref a1), .val (.ref p2), .val (.int (2 : Int32)), .unset] [])) X7.here hx rfl (hb hby d6_20) rfl rfl k) ?_
      obtain ⟨T9, X9, e9, st9⟩ := getF X7 hx hZ hown (host := "") (Or.inl (hw _ (List.mem_of_getElem? (i := 43) rfl))) Via.refl e7 F_e (g := (mkF m 21 #[.val (.ref a1), .val (.ref p2), .val (.int (2 : Int32)), .unset] [(.ref a1)])) rfl rfl (hb hby d6_21)
      refine own_st (T' := T9) (g' := (mkF m 24 #[.val (.ref a1), .val (.ref p2), .val (.int (2 : Int32)), .unset] [(.ref en)])) (fun _ k => (st9) _ k) ?_
      refine own_st (T' := T9) (g' := (mkF m 25 #[.val (.ref a1), .val (.ref p2), .val (.int (2 : Int32)), .unset] [(.int (2 : Int32)), (.ref en)])) (fun _ k => Jvm.Free.XS.iloadN (g := (mkF m 24 #[.val (.ref a1), .val (.ref p2), .val (.int (2 : Int32)), .unset] [(.ref en)])) X9.here hx rfl (hb hby d6_24) rfl k) ?_
      refine own_st (T' := T9) (g' := (mkF m 26 #[.val (.ref a1), .val (.ref p2), .val (.int (2 : Int32)), .unset] [(.int (1 : Int32)), (.int (2 : Int32)), (.ref en)])) (fun _ k => XS.iconst (g := (mkF m 25 #[.val (.ref a1), .val (.ref p2), .val (.int (2 : Int32)), .unset] [(.int (2 : Int32)), (.ref en)])) X9.here hx rfl (hb hby d6_25) k) ?_
      refine own_st (T' := T9) (g' := (mkF m 27 #[.val (.ref a1), .val (.ref p2), .val (.int (2 : Int32)), .unset] [(.int (3 : Int32)), (.ref en)])) (fun _ k => Jvm.Free.XS.iadd (g := (mkF m 26 #[.val (.ref a1), .val (.ref p2), .val (.int (2 : Int32)), .unset] [(.int (1 : Int32)), (.int (2 : Int32)), (.ref en)])) X9.here hx rfl (hb hby d6_26) rfl k) ?_
      obtain ⟨cl10, Ar10, -, Sz10, Nn10, Hs10, Gs10⟩ := id V_en
      have hin10 : ¬ ((3 : Int32) < 0 ∨ cl10.slots.size ≤ ((3 : Int32)).toNatClampNeg) := inb_of Sz10 ⟨by decide, by decide⟩
      have hat10 : cl10.slots[((3 : Int32)).toNatClampNeg]? = some r1 := Has.at Hs10 hin10 rfl
      refine own_st (T' := T9) (g' := (mkF m 28 #[.val (.ref a1), .val (.ref p2), .val (.int (2 : Int32)), .unset] [r1])) (fun _ k => (X9.aaload hx (j := (3 : Int32)) (v := r1) (by rw [e9]; exact Ar10.1) (State.isArrayOf_alike hZ.alike Ar10.2.1) rfl Ar10.2.2 hin10 hat10 (g := (mkF m 27 #[.val (.ref a1), .val (.ref p2), .val (.int (2 : Int32)), .unset] [(.int (3 : Int32)), (.ref en)])) rfl rfl (hb hby d6_27)) _ k) ?_
      refine own_st (T' := T9) (g' := (mkF m 29 #[.val (.ref a1), .val (.ref p2), .val (.int (2 : Int32)), .val r1] [])) (fun _ k => Jvm.Free.XS.astoreN (g := (mkF m 28 #[.val (.ref a1), .val (.ref p2), .val (.int (2 : Int32)), .unset] [r1])) X9.here hx rfl (hb hby d6_28) rfl ((R_r1.rf)).isRef (l' := #[.val (.ref a1), .val (.ref p2), .val (.int (2 : Int32)), .val r1]) (by rcases (R_r1.rf) with rfl | ⟨_, rfl⟩ <;> rfl) k) ?_
      refine own_st (T' := T9) (g' := (mkF m 30 #[.val (.ref a1), .val (.ref p2), .val (.int (2 : Int32)), .val r1] [r1])) (fun _ k => Jvm.Free.XS.aloadN (g := (mkF m 29 #[.val (.ref a1), .val (.ref p2), .val (.int (2 : Int32)), .val r1] [])) X9.here hx rfl (hb hby d6_29) rfl ((R_r1.rf)).isRef k) ?_
      exact own_end (Q := Q6_2 Z a1 p2 en ke k0 k1 r0 r1 h0 n0) (v := some r1) X9 (fun h => by rw [Bd.returns] at h; cases h) (fun fs hr => X9.areturnOut hx ((R_r1.rf)).isRef Bd.returns rfl (hb hby d6_30) hr) (⟨_, rfl, hf.symm, N0, e9⟩) (by decide) (by decide)
    · have hf := hf.trans (if_neg hc17)
      have ac17 := fun t => Jvm.RoadKit.acmp (target := t) (e := e) (g := (mkF m 17 #[.val (.ref a1), .val (.ref p2), .val (.int (2 : Int32)), .unset] [(.ref p2), (.ref k1)])) X7 hx rfl rfl rfl (pc0 := 17) (pc' := 31) (same := false) rfl (hb hby d6_17) rfl (decide_eq_false fun q => hc17 (Value.ref.inj q)) (by decide) (by decide)
      refine own_st (T' := T7) (g' := (mkF m 31 #[.val (.ref a1), .val (.ref p2), .val (.int (2 : Int32)), .unset] [])) (fun _ k => (ac17) _ k) ?_
      refine own_st (T' := T7) (g' := (mkF m 34 #[.val (.ref a1), .val (.ref p2), .val (.int (4 : Int32)), .unset] [])) (fun _ k => XS.iinc (g := (mkF m 31 #[.val (.ref a1), .val (.ref p2), .val (.int (2 : Int32)), .unset] [])) X7.here hx rfl (hb hby d6_31) rfl (l' := #[.val (.ref a1), .val (.ref p2), .val (.int (4 : Int32)), .unset]) rfl k) ?_
      refine own_st (T' := T7) (g' := (mkF m 2 #[.val (.ref a1), .val (.ref p2), .val (.int (4 : Int32)), .unset] [])) (fun _ k => XS.goto (g := (mkF m 34 #[.val (.ref a1), .val (.ref p2), .val (.int (4 : Int32)), .unset] [])) X7.here hx rfl (pc0 := 34) (pc' := 2) rfl (hb hby d6_34) (by decide) (by decide) k) ?_
      refine own_st (T' := T7) (g' := (mkF m 3 #[.val (.ref a1), .val (.ref p2), .val (.int (4 : Int32)), .unset] [(.int (4 : Int32))])) (fun _ k => Jvm.Free.XS.iloadN (g := (mkF m 2 #[.val (.ref a1), .val (.ref p2), .val (.int (4 : Int32)), .unset] [])) X7.here hx rfl (hb hby d6_2) rfl k) ?_
      refine own_st (T' := T7) (g' := (mkF m 4 #[.val (.ref a1), .val (.ref p2), .val (.int (4 : Int32)), .unset] [(.ref a1), (.int (4 : Int32))])) (fun _ k => Jvm.Free.XS.aloadN (g := (mkF m 3 #[.val (.ref a1), .val (.ref p2), .val (.int (4 : Int32)), .unset] [(.int (4 : Int32))])) X7.here hx rfl (hb hby d6_3) rfl rfl k) ?_
      obtain ⟨T11, X11, e11, st11⟩ := getF X7 hx hZ hown (host := "") (Or.inl (hw _ (List.mem_of_getElem? (i := 50) rfl))) Via.refl e7 F_s (g := (mkF m 4 #[.val (.ref a1), .val (.ref p2), .val (.int (4 : Int32)), .unset] [(.ref a1), (.int (4 : Int32))])) rfl rfl (hb hby d6_4)
      refine own_st (T' := T11) (g' := (mkF m 7 #[.val (.ref a1), .val (.ref p2), .val (.int (4 : Int32)), .unset] [(.int (4 : Int32)), (.int (4 : Int32))])) (fun _ k => (st11) _ k) ?_
      refine own_st (T' := T11) (g' := (mkF m 37 #[.val (.ref a1), .val (.ref p2), .val (.int (4 : Int32)), .unset] [])) (fun _ k => XS.icmpYes (g := (mkF m 7 #[.val (.ref a1), .val (.ref p2), .val (.int (4 : Int32)), .unset] [(.int (4 : Int32)), (.int (4 : Int32))])) X11.here hx rfl (pc0 := 7) (pc' := 37) rfl (hb hby d6_7) rfl (flt (by decide : ¬ ((4 : Int32) < (4 : Int32)))).2.1 (by decide) (by decide) k) ?_
      refine own_st (T' := T11) (g' := (mkF m 38 #[.val (.ref a1), .val (.ref p2), .val (.int (4 : Int32)), .unset] [.null])) (fun _ k => XS.aconstNull (g := (mkF m 37 #[.val (.ref a1), .val (.ref p2), .val (.int (4 : Int32)), .unset] [])) X11.here hx rfl (hb hby d6_37) k) ?_
      exact own_end (Q := Q6_2 Z a1 p2 en ke k0 k1 r0 r1 h0 n0) (v := some .null) X11 (fun h => by rw [Bd.returns] at h; cases h) (fun fs hr => X11.areturnOut hx rfl Bd.returns rfl (hb hby d6_38) hr) (⟨_, rfl, hf.symm, N0, e11⟩) (by decide) (by decide)
def Q6_3 (Z : State) (a1 : Addr) (p2 : Addr) (en : Addr) (ke : ClassId) (k0 k1 k2 : Addr) (r0 r1 r2 : Value) (h0 : Heap) (n0 : Nat) (v : Option Value) (h : Heap) (L : List Loc) : Prop := ∃ r, v = some r ∧ r = own_lk [(k0, r0), (k1, r1), (k2, r2)] p2 ∧ Fr n0 L ∧ h = h0
set_option maxRecDepth 65536 in
set_option maxHeartbeats 40000000 in
theorem rm6_3 (l : Launch) (Z : State) (a0 : Array Value) (hw : ∀ d ∈ tables_1, d.before a0 Z = true) (ws : List Jvm.Cond) (a1 : Addr) (p2 : Addr) (en : Addr) (ke : ClassId) (k0 k1 k2 : Addr) (r0 r1 r2 : Value) (h0 : Heap) (n0 : Nat) (Z0 : n0 ≤ h0.size) (F_e : Fld Z h0 a1 "com/example/hollow_tree/hollowtree/query/IdentityTable" "entries" "[Ljava/lang/Object;" (.ref en)) (F_s : Fld Z h0 a1 "com/example/hollow_tree/hollowtree/query/IdentityTable" "size" "I" (.int (6 : Int32))) (V_en : Arv Z h0 en ke (.object "java/lang/Object") (8 : Int32) [(.ref k0), r0, (.ref k1), r1, (.ref k2), r2, .null, .null] .null) (R_r0 : own_R Z h0 r0) (R_r1 : own_R Z h0 r1) (R_r2 : own_R Z h0 r2)   :
    MetFree l (⟨"com/example/hollow_tree/hollowtree/query/IdentityTable", "get", "(Ljava/lang/Object;)Ljava/lang/Object;"⟩ : MethodName) (head1 (Jvm.Cond.code (⟨"com/example/hollow_tree/hollowtree/query/IdentityTable", "get", "(Ljava/lang/Object;)Ljava/lang/Object;"⟩ : MethodName) prog_144_method_2_code 4 (some (.object "java/lang/Object")) :: ws) ({ frames := 0, cells := 0, slots := 0, locals := 0 } : Room)) (fun a U => a = #[(.ref a1), (.ref p2)] ∧ Z.Warmed39 U.vm ∧ U.heap = h0) (fun _ _ _ _ _ => True) (fun _ U o U' => ∃ v L, o = .returned v ∧ Q6_3 Z a1 p2 en ke k0 k1 k2 r0 r1 r2 h0 n0 v U'.heap L ∧ FrameEnd U o U' L ({ frames := 0, cells := 0, slots := 0, locals := 0 } : Room).cells ({ frames := 0, cells := 0, slots := 0, locals := 0 } : Room).slots) := by
  refine MetFree.of_bodySF (plainFor_of_name own_pn6) hisR ?_
  intro p e s m args below meth c s₁ Bd hml0 hP hK
  obtain ⟨rfl, hZ, hh⟩ := hP
  have hx := Bd.exec
  have hby := Bd.bytes
  have hml : c.maxLocals = 4 := hml0
  have hown : s.vm.findClass "com/example/hollow_tree/hollowtree/query/IdentityTable" = some m.cls := findClass_of_methodNamed Bd.named
  have hnm := (name_of_methodNamed Bd.named Bd.method).1
  have hlk := Bd.notSynchronized
  have X0 : Stand p l e ({ frames := 0, cells := 0, slots := 0, locals := 0 } : Room) s m #[(.ref a1), (.ref p2)] below meth c s₁ [] 0 0 := Stand.of_body Bd
  have e0 : s₁.heap = h0 := by rw [← hh, Bd.state]; rfl
  have N0 := Fr.nil n0
  show own_Goes p e below (fun o U' => ∃ v L, o = .returned v ∧ Q6_3 Z a1 p2 en ke k0 k1 k2 r0 r1 r2 h0 n0 v U'.heap L ∧ FrameEnd s o U' L ({ frames := 0, cells := 0, slots := 0, locals := 0 } : Room).cells ({ frames := 0, cells := 0, slots := 0, locals := 0 } : Room).slots) s₁ (entryFrame m #[(.ref a1), (.ref p2)] 4)
  refine own_st (T' := s₁) (g' := mkF m 0 #[.val (.ref a1), .val (.ref p2), .unset, .unset] []) (fun _ k => castTop (own_ef6 m a1 p2) k) ?_
  have hf : own_lk [(k0, r0), (k1, r1), (k2, r2)] p2 = own_lk [(k0, r0), (k1, r1), (k2, r2)] p2 := rfl
  refine own_st (T' := s₁) (g' := (mkF m 1 #[.val (.ref a1), .val (.ref p2), .unset, .unset] [(.int (0 : Int32))])) (fun _ k => XS.iconst (g := (mkF m 0 #[.val (.ref a1), .val (.ref p2), .unset, .unset] [])) X0.here hx rfl (hb hby d6_0) k) ?_
  refine own_st (T' := s₁) (g' := (mkF m 2 #[.val (.ref a1), .val (.ref p2), .val (.int (0 : Int32)), .unset] [])) (fun _ k => Jvm.Free.XS.istoreN (g := (mkF m 1 #[.val (.ref a1), .val (.ref p2), .unset, .unset] [(.int (0 : Int32))])) X0.here hx rfl (hb hby d6_1) rfl (l' := #[.val (.ref a1), .val (.ref p2), .val (.int (0 : Int32)), .unset]) rfl k) ?_
  refine own_st (T' := s₁) (g' := (mkF m 3 #[.val (.ref a1), .val (.ref p2), .val (.int (0 : Int32)), .unset] [(.int (0 : Int32))])) (fun _ k => Jvm.Free.XS.iloadN (g := (mkF m 2 #[.val (.ref a1), .val (.ref p2), .val (.int (0 : Int32)), .unset] [])) X0.here hx rfl (hb hby d6_2) rfl k) ?_
  refine own_st (T' := s₁) (g' := (mkF m 4 #[.val (.ref a1), .val (.ref p2), .val (.int (0 : Int32)), .unset] [(.ref a1), (.int (0 : Int32))])) (fun _ k => Jvm.Free.XS.aloadN (g := (mkF m 3 #[.val (.ref a1), .val (.ref p2), .val (.int (0 : Int32)), .unset] [(.int (0 : Int32))])) X0.here hx rfl (hb hby d6_3) rfl rfl k) ?_
  obtain ⟨T1, X1, e1, st1⟩ := getF X0 hx hZ hown (host := "") (Or.inl (hw _ (List.mem_of_getElem? (i := 50) rfl))) Via.refl e0 F_s (g := (mkF m 4 #[.val (.ref a1), .val (.ref p2), .val (.int (0 : Int32)), .unset] [(.ref a1), (.int (0 : Int32))])) rfl rfl (hb hby d6_4)
  refine own_st (T' := T1) (g' := (mkF m 7 #[.val (.ref a1), .val (.ref p2), .val (.int (0 : Int32)), .unset] [(.int (6 : Int32)), (.int (0 : Int32))])) (fun _ k => (st1) _ k) ?_
  refine own_st (T' := T1) (g' := (mkF m 10 #[.val (.ref a1), .val (.ref p2), .val (.int (0 : Int32)), .unset] [])) (fun _ k => XS.icmpNo (g := (mkF m 7 #[.val (.ref a1), .val (.ref p2), .val (.int (0 : Int32)), .unset] [(.int (6 : Int32)), (.int (0 : Int32))])) X1.here hx rfl (hb hby d6_7) rfl (tlt (by decide : (0 : Int32) < (6 : Int32))).2.1 k) ?_
  refine own_st (T' := T1) (g' := (mkF m 11 #[.val (.ref a1), .val (.ref p2), .val (.int (0 : Int32)), .unset] [(.ref a1)])) (fun _ k => Jvm.Free.XS.aloadN (g := (mkF m 10 #[.val (.ref a1), .val (.ref p2), .val (.int (0 : Int32)), .unset] [])) X1.here hx rfl (hb hby d6_10) rfl rfl k) ?_
  obtain ⟨T2, X2, e2, st2⟩ := getF X1 hx hZ hown (host := "") (Or.inl (hw _ (List.mem_of_getElem? (i := 43) rfl))) Via.refl e1 F_e (g := (mkF m 11 #[.val (.ref a1), .val (.ref p2), .val (.int (0 : Int32)), .unset] [(.ref a1)])) rfl rfl (hb hby d6_11)
  refine own_st (T' := T2) (g' := (mkF m 14 #[.val (.ref a1), .val (.ref p2), .val (.int (0 : Int32)), .unset] [(.ref en)])) (fun _ k => (st2) _ k) ?_
  refine own_st (T' := T2) (g' := (mkF m 15 #[.val (.ref a1), .val (.ref p2), .val (.int (0 : Int32)), .unset] [(.int (0 : Int32)), (.ref en)])) (fun _ k => Jvm.Free.XS.iloadN (g := (mkF m 14 #[.val (.ref a1), .val (.ref p2), .val (.int (0 : Int32)), .unset] [(.ref en)])) X2.here hx rfl (hb hby d6_14) rfl k) ?_
  obtain ⟨cl3, Ar3, -, Sz3, Nn3, Hs3, Gs3⟩ := id V_en
  have hin3 : ¬ ((0 : Int32) < 0 ∨ cl3.slots.size ≤ ((0 : Int32)).toNatClampNeg) := inb_of Sz3 ⟨by decide, by decide⟩
  have hat3 : cl3.slots[((0 : Int32)).toNatClampNeg]? = some (.ref k0) := Has.at Hs3 hin3 rfl
  refine own_st (T' := T2) (g' := (mkF m 16 #[.val (.ref a1), .val (.ref p2), .val (.int (0 : Int32)), .unset] [(.ref k0)])) (fun _ k => (X2.aaload hx (j := (0 : Int32)) (v := (.ref k0)) (by rw [e2]; exact Ar3.1) (State.isArrayOf_alike hZ.alike Ar3.2.1) rfl Ar3.2.2 hin3 hat3 (g := (mkF m 15 #[.val (.ref a1), .val (.ref p2), .val (.int (0 : Int32)), .unset] [(.int (0 : Int32)), (.ref en)])) rfl rfl (hb hby d6_15)) _ k) ?_
  refine own_st (T' := T2) (g' := (mkF m 17 #[.val (.ref a1), .val (.ref p2), .val (.int (0 : Int32)), .unset] [(.ref p2), (.ref k0)])) (fun _ k => Jvm.Free.XS.aloadN (g := (mkF m 16 #[.val (.ref a1), .val (.ref p2), .val (.int (0 : Int32)), .unset] [(.ref k0)])) X2.here hx rfl (hb hby d6_16) rfl rfl k) ?_
  by_cases hc17 : k0 = p2
  · have hf := hf.trans (if_pos hc17)
    have ac17 := fun t => Jvm.RoadKit.acmp (target := t) (e := e) (g := (mkF m 17 #[.val (.ref a1), .val (.ref p2), .val (.int (0 : Int32)), .unset] [(.ref p2), (.ref k0)])) X2 hx rfl rfl rfl (pc0 := 17) (pc' := 20) (same := true) rfl (hb hby d6_17) rfl (decide_eq_true (congrArg Value.ref hc17)) (by decide) (by decide)
    refine own_st (T' := T2) (g' := (mkF m 20 #[.val (.ref a1), .val (.ref p2), .val (.int (0 : Int32)), .unset] [])) (fun _ k => (ac17) _ k) ?_
    refine own_st (T' := T2) (g' := (mkF m 21 #[.val (.ref a1), .val (.ref p2), .val (.int (0 : Int32)), .unset] [(.ref a1)])) (fun _ k => Jvm.Free.XS.aloadN (g := (mkF m 20 #[.val (.ref a1), .val (.ref p2), .val (.int (0 : Int32)), .unset] [])) X2.here hx rfl (hb hby d6_20) rfl rfl k) ?_
    obtain ⟨T4, X4, e4, st4⟩ := getF X2 hx hZ hown (host := "") (Or.inl (hw _ (List.mem_of_getElem? (i := 43) rfl))) Via.refl e2 F_e (g := (mkF m 21 #[.val (.ref a1), .val (.ref p2), .val (.int (0 : Int32)), .unset] [(.ref a1)])) rfl rfl (hb hby d6_21)
    refine own_st (T' := T4) (g' := (mkF m 24 #[.val (.ref a1), .val (.ref p2), .val (.int (0 : Int32)), .unset] [(.ref en)])) (fun _ k => (st4) _ k) ?_
    refine own_st (T' := T4) (g' := (mkF m 25 #[.val (.ref a1), .val (.ref p2), .val (.int (0 : Int32)), .unset] [(.int (0 : Int32)), (.ref en)])) (fun _ k => Jvm.Free.XS.iloadN (g := (mkF m 24 #[.val (.ref a1), .val (.ref p2), .val (.int (0 : Int32)), .unset] [(.ref en)])) X4.here hx rfl (hb hby d6_24) rfl k) ?_
    refine own_st (T' := T4) (g' := (mkF m 26 #[.val (.ref a1), .val (.ref p2), .val (.int (0 : Int32)), .unset] [(.int (1 : Int32)), (.int (0 : Int32)), (.ref en)])) (fun _ k => XS.iconst (g := (mkF m 25 #[.val (.ref a1), .val (.ref p2), .val (.int (0 : Int32)), .unset] [(.int (0 : Int32)), (.ref en)])) X4.here hx rfl (hb hby d6_25) k) ?_
    refine own_st (T' := T4) (g' := (mkF m 27 #[.val (.ref a1), .val (.ref p2), .val (.int (0 : Int32)), .unset] [(.int (1 : Int32)), (.ref en)])) (fun _ k => Jvm.Free.XS.iadd (g := (mkF m 26 #[.val (.ref a1), .val (.ref p2), .val (.int (0 : Int32)), .unset] [(.int (1 : Int32)), (.int (0 : Int32)), (.ref en)])) X4.here hx rfl (hb hby d6_26) rfl k) ?_
    obtain ⟨cl5, Ar5, -, Sz5, Nn5, Hs5, Gs5⟩ := id V_en
    have hin5 : ¬ ((1 : Int32) < 0 ∨ cl5.slots.size ≤ ((1 : Int32)).toNatClampNeg) := inb_of Sz5 ⟨by decide, by decide⟩
    have hat5 : cl5.slots[((1 : Int32)).toNatClampNeg]? = some r0 := Has.at Hs5 hin5 rfl
    refine own_st (T' := T4) (g' := (mkF m 28 #[.val (.ref a1), .val (.ref p2), .val (.int (0 : Int32)), .unset] [r0])) (fun _ k => (X4.aaload hx (j := (1 : Int32)) (v := r0) (by rw [e4]; exact Ar5.1) (State.isArrayOf_alike hZ.alike Ar5.2.1) rfl Ar5.2.2 hin5 hat5 (g := (mkF m 27 #[.val (.ref a1), .val (.ref p2), .val (.int (0 : Int32)), .unset] [(.int (1 : Int32)), (.ref en)])) rfl rfl (hb hby d6_27)) _ k) ?_
    refine own_st (T' := T4) (g' := (mkF m 29 #[.val (.ref a1), .val (.ref p2), .val (.int (0 : Int32)), .val r0] [])) (fun _ k => Jvm.Free.XS.astoreN (g := (mkF m 28 #[.val (.ref a1), .val (.ref p2), .val (.int (0 : Int32)), .unset] [r0])) X4.here hx rfl (hb hby d6_28) rfl ((R_r0.rf)).isRef (l' := #[.val (.ref a1), .val (.ref p2), .val (.int (0 : Int32)), .val r0]) (by rcases (R_r0.rf) with rfl | ⟨_, rfl⟩ <;> rfl) k) ?_
    refine own_st (T' := T4) (g' := (mkF m 30 #[.val (.ref a1), .val (.ref p2), .val (.int (0 : Int32)), .val r0] [r0])) (fun _ k => Jvm.Free.XS.aloadN (g := (mkF m 29 #[.val (.ref a1), .val (.ref p2), .val (.int (0 : Int32)), .val r0] [])) X4.here hx rfl (hb hby d6_29) rfl ((R_r0.rf)).isRef k) ?_
    exact own_end (Q := Q6_3 Z a1 p2 en ke k0 k1 k2 r0 r1 r2 h0 n0) (v := some r0) X4 (fun h => by rw [Bd.returns] at h; cases h) (fun fs hr => X4.areturnOut hx ((R_r0.rf)).isRef Bd.returns rfl (hb hby d6_30) hr) (⟨_, rfl, hf.symm, N0, e4⟩) (by decide) (by decide)
  · have hf := hf.trans (if_neg hc17)
    have ac17 := fun t => Jvm.RoadKit.acmp (target := t) (e := e) (g := (mkF m 17 #[.val (.ref a1), .val (.ref p2), .val (.int (0 : Int32)), .unset] [(.ref p2), (.ref k0)])) X2 hx rfl rfl rfl (pc0 := 17) (pc' := 31) (same := false) rfl (hb hby d6_17) rfl (decide_eq_false fun q => hc17 (Value.ref.inj q)) (by decide) (by decide)
    refine own_st (T' := T2) (g' := (mkF m 31 #[.val (.ref a1), .val (.ref p2), .val (.int (0 : Int32)), .unset] [])) (fun _ k => (ac17) _ k) ?_
    refine own_st (T' := T2) (g' := (mkF m 34 #[.val (.ref a1), .val (.ref p2), .val (.int (2 : Int32)), .unset] [])) (fun _ k => XS.iinc (g := (mkF m 31 #[.val (.ref a1), .val (.ref p2), .val (.int (0 : Int32)), .unset] [])) X2.here hx rfl (hb hby d6_31) rfl (l' := #[.val (.ref a1), .val (.ref p2), .val (.int (2 : Int32)), .unset]) rfl k) ?_
    refine own_st (T' := T2) (g' := (mkF m 2 #[.val (.ref a1), .val (.ref p2), .val (.int (2 : Int32)), .unset] [])) (fun _ k => XS.goto (g := (mkF m 34 #[.val (.ref a1), .val (.ref p2), .val (.int (2 : Int32)), .unset] [])) X2.here hx rfl (pc0 := 34) (pc' := 2) rfl (hb hby d6_34) (by decide) (by decide) k) ?_
    refine own_st (T' := T2) (g' := (mkF m 3 #[.val (.ref a1), .val (.ref p2), .val (.int (2 : Int32)), .unset] [(.int (2 : Int32))])) (fun _ k => Jvm.Free.XS.iloadN (g := (mkF m 2 #[.val (.ref a1), .val (.ref p2), .val (.int (2 : Int32)), .unset] [])) X2.here hx rfl (hb hby d6_2) rfl k) ?_
    refine own_st (T' := T2) (g' := (mkF m 4 #[.val (.ref a1), .val (.ref p2), .val (.int (2 : Int32)), .unset] [(.ref a1), (.int (2 : Int32))])) (fun _ k => Jvm.Free.XS.aloadN (g := (mkF m 3 #[.val (.ref a1), .val (.ref p2), .val (.int (2 : Int32)), .unset] [(.int (2 : Int32))])) X2.here hx rfl (hb hby d6_3) rfl rfl k) ?_
    obtain ⟨T6, X6, e6, st6⟩ := getF X2 hx hZ hown (host := "") (Or.inl (hw _ (List.mem_of_getElem? (i := 50) rfl))) Via.refl e2 F_s (g := (mkF m 4 #[.val (.ref a1), .val (.ref p2), .val (.int (2 : Int32)), .unset] [(.ref a1), (.int (2 : Int32))])) rfl rfl (hb hby d6_4)
    refine own_st (T' := T6) (g' := (mkF m 7 #[.val (.ref a1), .val (.ref p2), .val (.int (2 : Int32)), .unset] [(.int (6 : Int32)), (.int (2 : Int32))])) (fun _ k => (st6) _ k) ?_
    refine own_st (T' := T6) (g' := (mkF m 10 #[.val (.ref a1), .val (.ref p2), .val (.int (2 : Int32)), .unset] [])) (fun _ k => XS.icmpNo (g := (mkF m 7 #[.val (.ref a1), .val (.ref p2), .val (.int (2 : Int32)), .unset] [(.int (6 : Int32)), (.int (2 : Int32))])) X6.here hx rfl (hb hby d6_7) rfl (tlt (by decide : (2 : Int32) < (6 : Int32))).2.1 k) ?_
    refine own_st (T' := T6) (g' := (mkF m 11 #[.val (.ref a1), .val (.ref p2), .val (.int (2 : Int32)), .unset] [(.ref a1)])) (fun _ k => Jvm.Free.XS.aloadN (g := (mkF m 10 #[.val (.ref a1), .val (.ref p2), .val (.int (2 : Int32)), .unset] [])) X6.here hx rfl (hb hby d6_10) rfl rfl k) ?_
    obtain ⟨T7, X7, e7, st7⟩ := getF X6 hx hZ hown (host := "") (Or.inl (hw _ (List.mem_of_getElem? (i := 43) rfl))) Via.refl e6 F_e (g := (mkF m 11 #[.val (.ref a1), .val (.ref p2), .val (.int (2 : Int32)), .unset] [(.ref a1)])) rfl rfl (hb hby d6_11)
    refine own_st (T' := T7) (g' := (mkF m 14 #[.val (.ref a1), .val (.ref p2), .val (.int (2 : Int32)), .unset] [(.ref en)])) (fun _ k => (st7) _ k) ?_
    refine own_st (T' := T7) (g' := (mkF m 15 #[.val (.ref a1), .val (.ref p2), .val (.int (2 : Int32)), .unset] [(.int (2 : Int32)), (.ref en)])) (fun _ k => Jvm.Free.XS.iloadN (g := (mkF m 14 #[.val (.ref a1), .val (.ref p2), .val (.int (2 : Int32)), .unset] [(.ref en)])) X7.here hx rfl (hb hby d6_14) rfl k) ?_
    obtain ⟨cl8, Ar8, -, Sz8, Nn8, Hs8, Gs8⟩ := id V_en
    have hin8 : ¬ ((2 : Int32) < 0 ∨ cl8.slots.size ≤ ((2 : Int32)).toNatClampNeg) := inb_of Sz8 ⟨by decide, by decide⟩
    have hat8 : cl8.slots[((2 : Int32)).toNatClampNeg]? = some (.ref k1) := Has.at Hs8 hin8 rfl
    refine own_st (T' := T7) (g' := (mkF m 16 #[.val (.ref a1), .val (.ref p2), .val (.int (2 : Int32)), .unset] [(.ref k1)])) (fun _ k => (X7.aaload hx (j := (2 : Int32)) (v := (.ref k1)) (by rw [e7]; exact Ar8.1) (State.isArrayOf_alike hZ.alike Ar8.2.1) rfl Ar8.2.2 hin8 hat8 (g := (mkF m 15 #[.val (.ref a1), .val (.ref p2), .val (.int (2 : Int32)), .unset] [(.int (2 : Int32)), (.ref en)])) rfl rfl (hb hby d6_15)) _ k) ?_
    refine own_st (T' := T7) (g' := (mkF m 17 #[.val (.ref a1), .val (.ref p2), .val (.int (2 : Int32)), .unset] [(.ref p2), (.ref k1)])) (fun _ k => Jvm.Free.XS.aloadN (g := (mkF m 16 #[.val (.ref a1), .val (.ref p2), .val (.int (2 : Int32)), .unset] [(.ref k1)])) X7.here hx rfl (hb hby d6_16) rfl rfl k) ?_
    by_cases hc17 : k1 = p2
    · have hf := hf.trans (if_pos hc17)
      have ac17 := fun t => Jvm.RoadKit.acmp (target := t) (e := e) (g := (mkF m 17 #[.val (.ref a1), .val (.ref p2), .val (.int (2 : Int32)), .unset] [(.ref p2), (.ref k1)])) X7 hx rfl rfl rfl (pc0 := 17) (pc' := 20) (same := true) rfl (hb hby d6_17) rfl (decide_eq_true (congrArg Value.ref hc17)) (by decide) (by decide)
      refine own_st (T' := T7) (g' := (mkF m 20 #[.val (.ref a1), .val (.ref p2), .val (.int (2 : Int32)), .unset] [])) (fun _ k => (ac17) _ k) ?_
      refine own_st (T' := T7) (g' := (mkF m 21 #[.val (.ref a1), .val (.ref p2), .val (.int (2 : Int32)), .unset] [(.ref a1)])) (fun _ k => Jvm.Free.XS.aloadN (g := (mkF m 20 #[.val (.ref a1), .val (.ref p2), .val (.int (2 : Int32)), .unset] [])) X7.here hx rfl (hb hby d6_20) rfl rfl k) ?_
      obtain ⟨T9, X9, e9, st9⟩ := getF X7 hx hZ hown (host := "") (Or.inl (hw _ (List.mem_of_getElem? (i := 43) rfl))) Via.refl e7 F_e (g := (mkF m 21 #[.val (.ref a1), .val (.ref p2), .val (.int (2 : Int32)), .unset] [(.ref a1)])) rfl rfl (hb hby d6_21)
      refine own_st (T' := T9) (g' := (mkF m 24 #[.val (.ref a1), .val (.ref p2), .val (.int (2 : Int32)), .unset] [(.ref en)])) (fun _ k => (st9) _ k) ?_
      refine own_st (T' := T9) (g' := (mkF m 25 #[.val (.ref a1), .val (.ref p2), .val (.int (2 : Int32)), .unset] [(.int (2 : Int32)), (.ref en)])) (fun _ k => Jvm.Free.XS.iloadN (g := (mkF m 24 #[.val (.ref a1), .val (.ref p2), .val (.int (2 : Int32)), .unset] [(.ref en)])) X9.here hx rfl (hb hby d6_24) rfl k) ?_
      refine own_st (T' := T9) (g' := (mkF m 26 #[.val (.ref a1), .val (.ref p2), .val (.int (2 : Int32)), .unset] [(.int (1 : Int32)), (.int (2 : Int32)), (.ref en)])) (fun _ k => XS.iconst (g := (mkF m 25 #[.val (.ref a1), .val (.ref p2), .val (.int (2 : Int32)), .unset] [(.int (2 : Int32)), (.ref en)])) X9.here hx rfl (hb hby d6_25) k) ?_
      refine own_st (T' := T9) (g' := (mkF m 27 #[.val (.ref a1), .val (.ref p2), .val (.int (2 : Int32)), .unset] [(.int (3 : Int32)), (.ref en)])) (fun _ k => Jvm.Free.XS.iadd (g := (mkF m 26 #[.val (.ref a1), .val (.ref p2), .val (.int (2 : Int32)), .unset] [(.int (1 : Int32)), (.int (2 : Int32)), (.ref en)])) X9.here hx rfl (hb hby d6_26) rfl k) ?_
      obtain ⟨cl10, Ar10, -, Sz10, Nn10, Hs10, Gs10⟩ := id V_en
      have hin10 : ¬ ((3 : Int32) < 0 ∨ cl10.slots.size ≤ ((3 : Int32)).toNatClampNeg) := inb_of Sz10 ⟨by decide, by decide⟩
      have hat10 : cl10.slots[((3 : Int32)).toNatClampNeg]? = some r1 := Has.at Hs10 hin10 rfl
      refine own_st (T' := T9) (g' := (mkF m 28 #[.val (.ref a1), .val (.ref p2), .val (.int (2 : Int32)), .unset] [r1])) (fun _ k => (X9.aaload hx (j := (3 : Int32)) (v := r1) (by rw [e9]; exact Ar10.1) (State.isArrayOf_alike hZ.alike Ar10.2.1) rfl Ar10.2.2 hin10 hat10 (g := (mkF m 27 #[.val (.ref a1), .val (.ref p2), .val (.int (2 : Int32)), .unset] [(.int (3 : Int32)), (.ref en)])) rfl rfl (hb hby d6_27)) _ k) ?_
      refine own_st (T' := T9) (g' := (mkF m 29 #[.val (.ref a1), .val (.ref p2), .val (.int (2 : Int32)), .val r1] [])) (fun _ k => Jvm.Free.XS.astoreN (g := (mkF m 28 #[.val (.ref a1), .val (.ref p2), .val (.int (2 : Int32)), .unset] [r1])) X9.here hx rfl (hb hby d6_28) rfl ((R_r1.rf)).isRef (l' := #[.val (.ref a1), .val (.ref p2), .val (.int (2 : Int32)), .val r1]) (by rcases (R_r1.rf) with rfl | ⟨_, rfl⟩ <;> rfl) k) ?_
      refine own_st (T' := T9) (g' := (mkF m 30 #[.val (.ref a1), .val (.ref p2), .val (.int (2 : Int32)), .val r1] [r1])) (fun _ k => Jvm.Free.XS.aloadN (g := (mkF m 29 #[.val (.ref a1), .val (.ref p2), .val (.int (2 : Int32)), .val r1] [])) X9.here hx rfl (hb hby d6_29) rfl ((R_r1.rf)).isRef k) ?_
      exact own_end (Q := Q6_3 Z a1 p2 en ke k0 k1 k2 r0 r1 r2 h0 n0) (v := some r1) X9 (fun h => by rw [Bd.returns] at h; cases h) (fun fs hr => X9.areturnOut hx ((R_r1.rf)).isRef Bd.returns rfl (hb hby d6_30) hr) (⟨_, rfl, hf.symm, N0, e9⟩) (by decide) (by decide)
    · have hf := hf.trans (if_neg hc17)
      have ac17 := fun t => Jvm.RoadKit.acmp (target := t) (e := e) (g := (mkF m 17 #[.val (.ref a1), .val (.ref p2), .val (.int (2 : Int32)), .unset] [(.ref p2), (.ref k1)])) X7 hx rfl rfl rfl (pc0 := 17) (pc' := 31) (same := false) rfl (hb hby d6_17) rfl (decide_eq_false fun q => hc17 (Value.ref.inj q)) (by decide) (by decide)
      refine own_st (T' := T7) (g' := (mkF m 31 #[.val (.ref a1), .val (.ref p2), .val (.int (2 : Int32)), .unset] [])) (fun _ k => (ac17) _ k) ?_
      refine own_st (T' := T7) (g' := (mkF m 34 #[.val (.ref a1), .val (.ref p2), .val (.int (4 : Int32)), .unset] [])) (fun _ k => XS.iinc (g := (mkF m 31 #[.val (.ref a1), .val (.ref p2), .val (.int (2 : Int32)), .unset] [])) X7.here hx rfl (hb hby d6_31) rfl (l' := #[.val (.ref a1), .val (.ref p2), .val (.int (4 : Int32)), .unset]) rfl k) ?_
      refine own_st (T' := T7) (g' := (mkF m 2 #[.val (.ref a1), .val (.ref p2), .val (.int (4 : Int32)), .unset] [])) (fun _ k => XS.goto (g := (mkF m 34 #[.val (.ref a1), .val (.ref p2), .val (.int (4 : Int32)), .unset] [])) X7.here hx rfl (pc0 := 34) (pc' := 2) rfl (hb hby d6_34) (by decide) (by decide) k) ?_
      refine own_st (T' := T7) (g' := (mkF m 3 #[.val (.ref a1), .val (.ref p2), .val (.int (4 : Int32)), .unset] [(.int (4 : Int32))])) (fun _ k => Jvm.Free.XS.iloadN (g := (mkF m 2 #[.val (.ref a1), .val (.ref p2), .val (.int (4 : Int32)), .unset] [])) X7.here hx rfl (hb hby d6_2) rfl k) ?_
      refine own_st (T' := T7) (g' := (mkF m 4 #[.val (.ref a1), .val (.ref p2), .val (.int (4 : Int32)), .unset] [(.ref a1), (.int (4 : Int32))])) (fun _ k => Jvm.Free.XS.aloadN (g := (mkF m 3 #[.val (.ref a1), .val (.ref p2), .val (.int (4 : Int32)), .unset] [(.int (4 : Int32))])) X7.here hx rfl (hb hby d6_3) rfl rfl k) ?_
      obtain ⟨T11, X11, e11, st11⟩ := getF X7 hx hZ hown (host := "") (Or.inl (hw _ (List.mem_of_getElem? (i := 50) rfl))) Via.refl e7 F_s (g := (mkF m 4 #[.val (.ref a1), .val (.ref p2), .val (.int (4 : Int32)), .unset] [(.ref a1), (.int (4 : Int32))])) rfl rfl (hb hby d6_4)
      refine own_st (T' := T11) (g' := (mkF m 7 #[.val (.ref a1), .val (.ref p2), .val (.int (4 : Int32)), .unset] [(.int (6 : Int32)), (.int (4 : Int32))])) (fun _ k => (st11) _ k) ?_
      refine own_st (T' := T11) (g' := (mkF m 10 #[.val (.ref a1), .val (.ref p2), .val (.int (4 : Int32)), .unset] [])) (fun _ k => XS.icmpNo (g := (mkF m 7 #[.val (.ref a1), .val (.ref p2), .val (.int (4 : Int32)), .unset] [(.int (6 : Int32)), (.int (4 : Int32))])) X11.here hx rfl (hb hby d6_7) rfl (tlt (by decide : (4 : Int32) < (6 : Int32))).2.1 k) ?_
      refine own_st (T' := T11) (g' := (mkF m 11 #[.val (.ref a1), .val (.ref p2), .val (.int (4 : Int32)), .unset] [(.ref a1)])) (fun _ k => Jvm.Free.XS.aloadN (g := (mkF m 10 #[.val (.ref a1), .val (.ref p2), .val (.int (4 : Int32)), .unset] [])) X11.here hx rfl (hb hby d6_10) rfl rfl k) ?_
      obtain ⟨T12, X12, e12, st12⟩ := getF X11 hx hZ hown (host := "") (Or.inl (hw _ (List.mem_of_getElem? (i := 43) rfl))) Via.refl e11 F_e (g := (mkF m 11 #[.val (.ref a1), .val (.ref p2), .val (.int (4 : Int32)), .unset] [(.ref a1)])) rfl rfl (hb hby d6_11)
      refine own_st (T' := T12) (g' := (mkF m 14 #[.val (.ref a1), .val (.ref p2), .val (.int (4 : Int32)), .unset] [(.ref en)])) (fun _ k => (st12) _ k) ?_
      refine own_st (T' := T12) (g' := (mkF m 15 #[.val (.ref a1), .val (.ref p2), .val (.int (4 : Int32)), .unset] [(.int (4 : Int32)), (.ref en)])) (fun _ k => Jvm.Free.XS.iloadN (g := (mkF m 14 #[.val (.ref a1), .val (.ref p2), .val (.int (4 : Int32)), .unset] [(.ref en)])) X12.here hx rfl (hb hby d6_14) rfl k) ?_
      obtain ⟨cl13, Ar13, -, Sz13, Nn13, Hs13, Gs13⟩ := id V_en
      have hin13 : ¬ ((4 : Int32) < 0 ∨ cl13.slots.size ≤ ((4 : Int32)).toNatClampNeg) := inb_of Sz13 ⟨by decide, by decide⟩
      have hat13 : cl13.slots[((4 : Int32)).toNatClampNeg]? = some (.ref k2) := Has.at Hs13 hin13 rfl
      refine own_st (T' := T12) (g' := (mkF m 16 #[.val (.ref a1), .val (.ref p2), .val (.int (4 : Int32)), .unset] [(.ref k2)])) (fun _ k => (X12.aaload hx (j := (4 : Int32)) (v := (.ref k2)) (by rw [e12]; exact Ar13.1) (State.isArrayOf_alike hZ.alike Ar13.2.1) rfl Ar13.2.2 hin13 hat13 (g := (mkF m 15 #[.val (.ref a1), .val (.ref p2), .val (.int (4 : Int32)), .unset] [(.int (4 : Int32)), (.ref en)])) rfl rfl (hb hby d6_15)) _ k) ?_
      refine own_st (T' := T12) (g' := (mkF m 17 #[.val (.ref a1), .val (.ref p2), .val (.int (4 : Int32)), .unset] [(.ref p2), (.ref k2)])) (fun _ k => Jvm.Free.XS.aloadN (g := (mkF m 16 #[.val (.ref a1), .val (.ref p2), .val (.int (4 : Int32)), .unset] [(.ref k2)])) X12.here hx rfl (hb hby d6_16) rfl rfl k) ?_
      by_cases hc17 : k2 = p2
      · have hf := hf.trans (if_pos hc17)
        have ac17 := fun t => Jvm.RoadKit.acmp (target := t) (e := e) (g := (mkF m 17 #[.val (.ref a1), .val (.ref p2), .val (.int (4 : Int32)), .unset] [(.ref p2), (.ref k2)])) X12 hx rfl rfl rfl (pc0 := 17) (pc' := 20) (same := true) rfl (hb hby d6_17) rfl (decide_eq_true (congrArg Value.ref hc17)) (by decide) (by decide)
        refine own_st (T' := T12) (g' := (mkF m 20 #[.val (.ref a1), .val (.ref p2), .val (.int (4 : Int32)), .unset] [])) (fun _ k => (ac17) _ k) ?_
        refine own_st (T' := T12) (g' := (mkF m 21 #[.val (.ref a1), .val (.ref p2), .val (.int (4 : Int32)), .unset] [(.ref a1)])) (fun _ k => Jvm.Free.XS.aloadN (g := (mkF m 20 #[.val (.ref a1), .val (.ref p2), .val (.int (4 : Int32)), .unset] [])) X12.here hx rfl (hb hby d6_20) rfl rfl k) ?_
        obtain ⟨T14, X14, e14, st14⟩ := getF X12 hx hZ hown (host := "") (Or.inl (hw _ (List.mem_of_getElem? (i := 43) rfl))) Via.refl e12 F_e (g := (mkF m 21 #[.val (.ref a1), .val (.ref p2), .val (.int (4 : Int32)), .unset] [(.ref a1)])) rfl rfl (hb hby d6_21)
        refine own_st (T' := T14) (g' := (mkF m 24 #[.val (.ref a1), .val (.ref p2), .val (.int (4 : Int32)), .unset] [(.ref en)])) (fun _ k => (st14) _ k) ?_
        refine own_st (T' := T14) (g' := (mkF m 25 #[.val (.ref a1), .val (.ref p2), .val (.int (4 : Int32)), .unset] [(.int (4 : Int32)), (.ref en)])) (fun _ k => Jvm.Free.XS.iloadN (g := (mkF m 24 #[.val (.ref a1), .val (.ref p2), .val (.int (4 : Int32)), .unset] [(.ref en)])) X14.here hx rfl (hb hby d6_24) rfl k) ?_
        refine own_st (T' := T14) (g' := (mkF m 26 #[.val (.ref a1), .val (.ref p2), .val (.int (4 : Int32)), .unset] [(.int (1 : Int32)), (.int (4 : Int32)), (.ref en)])) (fun _ k => XS.iconst (g := (mkF m 25 #[.val (.ref a1), .val (.ref p2), .val (.int (4 : Int32)), .unset] [(.int (4 : Int32)), (.ref en)])) X14.here hx rfl (hb hby d6_25) k) ?_
        refine own_st (T' := T14) (g' := (mkF m 27 #[.val (.ref a1), .val (.ref p2), .val (.int (4 : Int32)), .unset] [(.int (5 : Int32)), (.ref en)])) (fun _ k => Jvm.Free.XS.iadd (g := (mkF m 26 #[.val (.ref a1), .val (.ref p2), .val (.int (4 : Int32)), .unset] [(.int (1 : Int32)), (.int (4 : Int32)), (.ref en)])) X14.here hx rfl (hb hby d6_26) rfl k) ?_
        obtain ⟨cl15, Ar15, -, Sz15, Nn15, Hs15, Gs15⟩ := id V_en
        have hin15 : ¬ ((5 : Int32) < 0 ∨ cl15.slots.size ≤ ((5 : Int32)).toNatClampNeg) := inb_of Sz15 ⟨by decide, by decide⟩
        have hat15 : cl15.slots[((5 : Int32)).toNatClampNeg]? = some r2 := Has.at Hs15 hin15 rfl
        refine own_st (T' := T14) (g' := (mkF m 28 #[.val (.ref a1), .val (.ref p2), .val (.int (4 : Int32)), .unset] [r2])) (fun _ k => (X14.aaload hx (j := (5 : Int32)) (v := r2) (by rw [e14]; exact Ar15.1) (State.isArrayOf_alike hZ.alike Ar15.2.1) rfl Ar15.2.2 hin15 hat15 (g := (mkF m 27 #[.val (.ref a1), .val (.ref p2), .val (.int (4 : Int32)), .unset] [(.int (5 : Int32)), (.ref en)])) rfl rfl (hb hby d6_27)) _ k) ?_
        refine own_st (T' := T14) (g' := (mkF m 29 #[.val (.ref a1), .val (.ref p2), .val (.int (4 : Int32)), .val r2] [])) (fun _ k => Jvm.Free.XS.astoreN (g := (mkF m 28 #[.val (.ref a1), .val (.ref p2), .val (.int (4 : Int32)), .unset] [r2])) X14.here hx rfl (hb hby d6_28) rfl ((R_r2.rf)).isRef (l' := #[.val (.ref a1), .val (.ref p2), .val (.int (4 : Int32)), .val r2]) (by rcases (R_r2.rf) with rfl | ⟨_, rfl⟩ <;> rfl) k) ?_
        refine own_st (T' := T14) (g' := (mkF m 30 #[.val (.ref a1), .val (.ref p2), .val (.int (4 : Int32)), .val r2] [r2])) (fun _ k => Jvm.Free.XS.aloadN (g := (mkF m 29 #[.val (.ref a1), .val (.ref p2), .val (.int (4 : Int32)), .val r2] [])) X14.here hx rfl (hb hby d6_29) rfl ((R_r2.rf)).isRef k) ?_
        exact own_end (Q := Q6_3 Z a1 p2 en ke k0 k1 k2 r0 r1 r2 h0 n0) (v := some r2) X14 (fun h => by rw [Bd.returns] at h; cases h) (fun fs hr => X14.areturnOut hx ((R_r2.rf)).isRef Bd.returns rfl (hb hby d6_30) hr) (⟨_, rfl, hf.symm, N0, e14⟩) (by decide) (by decide)
      · have hf := hf.trans (if_neg hc17)
        have ac17 := fun t => Jvm.RoadKit.acmp (target := t) (e := e) (g := (mkF m 17 #[.val (.ref a1), .val (.ref p2), .val (.int (4 : Int32)), .unset] [(.ref p2), (.ref k2)])) X12 hx rfl rfl rfl (pc0 := 17) (pc' := 31) (same := false) rfl (hb hby d6_17) rfl (decide_eq_false fun q => hc17 (Value.ref.inj q)) (by decide) (by decide)
        refine own_st (T' := T12) (g' := (mkF m 31 #[.val (.ref a1), .val (.ref p2), .val (.int (4 : Int32)), .unset] [])) (fun _ k => (ac17) _ k) ?_
        refine own_st (T' := T12) (g' := (mkF m 34 #[.val (.ref a1), .val (.ref p2), .val (.int (6 : Int32)), .unset] [])) (fun _ k => XS.iinc (g := (mkF m 31 #[.val (.ref a1), .val (.ref p2), .val (.int (4 : Int32)), .unset] [])) X12.here hx rfl (hb hby d6_31) rfl (l' := #[.val (.ref a1), .val (.ref p2), .val (.int (6 : Int32)), .unset]) rfl k) ?_
        refine own_st (T' := T12) (g' := (mkF m 2 #[.val (.ref a1), .val (.ref p2), .val (.int (6 : Int32)), .unset] [])) (fun _ k => XS.goto (g := (mkF m 34 #[.val (.ref a1), .val (.ref p2), .val (.int (6 : Int32)), .unset] [])) X12.here hx rfl (pc0 := 34) (pc' := 2) rfl (hb hby d6_34) (by decide) (by decide) k) ?_
        refine own_st (T' := T12) (g' := (mkF m 3 #[.val (.ref a1), .val (.ref p2), .val (.int (6 : Int32)), .unset] [(.int (6 : Int32))])) (fun _ k => Jvm.Free.XS.iloadN (g := (mkF m 2 #[.val (.ref a1), .val (.ref p2), .val (.int (6 : Int32)), .unset] [])) X12.here hx rfl (hb hby d6_2) rfl k) ?_
        refine own_st (T' := T12) (g' := (mkF m 4 #[.val (.ref a1), .val (.ref p2), .val (.int (6 : Int32)), .unset] [(.ref a1), (.int (6 : Int32))])) (fun _ k => Jvm.Free.XS.aloadN (g := (mkF m 3 #[.val (.ref a1), .val (.ref p2), .val (.int (6 : Int32)), .unset] [(.int (6 : Int32))])) X12.here hx rfl (hb hby d6_3) rfl rfl k) ?_
        obtain ⟨T16, X16, e16, st16⟩ := getF X12 hx hZ hown (host := "") (Or.inl (hw _ (List.mem_of_getElem? (i := 50) rfl))) Via.refl e12 F_s (g := (mkF m 4 #[.val (.ref a1), .val (.ref p2), .val (.int (6 : Int32)), .unset] [(.ref a1), (.int (6 : Int32))])) rfl rfl (hb hby d6_4)
        refine own_st (T' := T16) (g' := (mkF m 7 #[.val (.ref a1), .val (.ref p2), .val (.int (6 : Int32)), .unset] [(.int (6 : Int32)), (.int (6 : Int32))])) (fun _ k => (st16) _ k) ?_
        refine own_st (T' := T16) (g' := (mkF m 37 #[.val (.ref a1), .val (.ref p2), .val (.int (6 : Int32)), .unset] [])) (fun _ k => XS.icmpYes (g := (mkF m 7 #[.val (.ref a1), .val (.ref p2), .val (.int (6 : Int32)), .unset] [(.int (6 : Int32)), (.int (6 : Int32))])) X16.here hx rfl (pc0 := 7) (pc' := 37) rfl (hb hby d6_7) rfl (flt (by decide : ¬ ((6 : Int32) < (6 : Int32)))).2.1 (by decide) (by decide) k) ?_
        refine own_st (T' := T16) (g' := (mkF m 38 #[.val (.ref a1), .val (.ref p2), .val (.int (6 : Int32)), .unset] [.null])) (fun _ k => XS.aconstNull (g := (mkF m 37 #[.val (.ref a1), .val (.ref p2), .val (.int (6 : Int32)), .unset] [])) X16.here hx rfl (hb hby d6_37) k) ?_
        exact own_end (Q := Q6_3 Z a1 p2 en ke k0 k1 k2 r0 r1 r2 h0 n0) (v := some .null) X16 (fun h => by rw [Bd.returns] at h; cases h) (fun fs hr => X16.areturnOut hx rfl Bd.returns rfl (hb hby d6_38) hr) (⟨_, rfl, hf.symm, N0, e16⟩) (by decide) (by decide)
def Q6_4 (Z : State) (a1 : Addr) (p2 : Addr) (en : Addr) (ke : ClassId) (k0 k1 k2 k3 : Addr) (r0 r1 r2 r3 : Value) (h0 : Heap) (n0 : Nat) (v : Option Value) (h : Heap) (L : List Loc) : Prop := ∃ r, v = some r ∧ r = own_lk [(k0, r0), (k1, r1), (k2, r2), (k3, r3)] p2 ∧ Fr n0 L ∧ h = h0
set_option maxRecDepth 65536 in
set_option maxHeartbeats 40000000 in
theorem rm6_4 (l : Launch) (Z : State) (a0 : Array Value) (hw : ∀ d ∈ tables_1, d.before a0 Z = true) (ws : List Jvm.Cond) (a1 : Addr) (p2 : Addr) (en : Addr) (ke : ClassId) (k0 k1 k2 k3 : Addr) (r0 r1 r2 r3 : Value) (h0 : Heap) (n0 : Nat) (Z0 : n0 ≤ h0.size) (F_e : Fld Z h0 a1 "com/example/hollow_tree/hollowtree/query/IdentityTable" "entries" "[Ljava/lang/Object;" (.ref en)) (F_s : Fld Z h0 a1 "com/example/hollow_tree/hollowtree/query/IdentityTable" "size" "I" (.int (8 : Int32))) (V_en : Arv Z h0 en ke (.object "java/lang/Object") (8 : Int32) [(.ref k0), r0, (.ref k1), r1, (.ref k2), r2, (.ref k3), r3] .null) (R_r0 : own_R Z h0 r0) (R_r1 : own_R Z h0 r1) (R_r2 : own_R Z h0 r2) (R_r3 : own_R Z h0 r3)   :
    MetFree l (⟨"com/example/hollow_tree/hollowtree/query/IdentityTable", "get", "(Ljava/lang/Object;)Ljava/lang/Object;"⟩ : MethodName) (head1 (Jvm.Cond.code (⟨"com/example/hollow_tree/hollowtree/query/IdentityTable", "get", "(Ljava/lang/Object;)Ljava/lang/Object;"⟩ : MethodName) prog_144_method_2_code 4 (some (.object "java/lang/Object")) :: ws) ({ frames := 0, cells := 0, slots := 0, locals := 0 } : Room)) (fun a U => a = #[(.ref a1), (.ref p2)] ∧ Z.Warmed39 U.vm ∧ U.heap = h0) (fun _ _ _ _ _ => True) (fun _ U o U' => ∃ v L, o = .returned v ∧ Q6_4 Z a1 p2 en ke k0 k1 k2 k3 r0 r1 r2 r3 h0 n0 v U'.heap L ∧ FrameEnd U o U' L ({ frames := 0, cells := 0, slots := 0, locals := 0 } : Room).cells ({ frames := 0, cells := 0, slots := 0, locals := 0 } : Room).slots) := by
  refine MetFree.of_bodySF (plainFor_of_name own_pn6) hisR ?_
  intro p e s m args below meth c s₁ Bd hml0 hP hK
  obtain ⟨rfl, hZ, hh⟩ := hP
  have hx := Bd.exec
  have hby := Bd.bytes
  have hml : c.maxLocals = 4 := hml0
  have hown : s.vm.findClass "com/example/hollow_tree/hollowtree/query/IdentityTable" = some m.cls := findClass_of_methodNamed Bd.named
  have hnm := (name_of_methodNamed Bd.named Bd.method).1
  have hlk := Bd.notSynchronized
  have X0 : Stand p l e ({ frames := 0, cells := 0, slots := 0, locals := 0 } : Room) s m #[(.ref a1), (.ref p2)] below meth c s₁ [] 0 0 := Stand.of_body Bd
  have e0 : s₁.heap = h0 := by rw [← hh, Bd.state]; rfl
  have N0 := Fr.nil n0
  show own_Goes p e below (fun o U' => ∃ v L, o = .returned v ∧ Q6_4 Z a1 p2 en ke k0 k1 k2 k3 r0 r1 r2 r3 h0 n0 v U'.heap L ∧ FrameEnd s o U' L ({ frames := 0, cells := 0, slots := 0, locals := 0 } : Room).cells ({ frames := 0, cells := 0, slots := 0, locals := 0 } : Room).slots) s₁ (entryFrame m #[(.ref a1), (.ref p2)] 4)
  refine own_st (T' := s₁) (g' := mkF m 0 #[.val (.ref a1), .val (.ref p2), .unset, .unset] []) (fun _ k => castTop (own_ef6 m a1 p2) k) ?_
  have hf : own_lk [(k0, r0), (k1, r1), (k2, r2), (k3, r3)] p2 = own_lk [(k0, r0), (k1, r1), (k2, r2), (k3, r3)] p2 := rfl
  refine own_st (T' := s₁) (g' := (mkF m 1 #[.val (.ref a1), .val (.ref p2), .unset, .unset] [(.int (0 : Int32))])) (fun _ k => XS.iconst (g := (mkF m 0 #[.val (.ref a1), .val (.ref p2), .unset, .unset] [])) X0.here hx rfl (hb hby d6_0) k) ?_
  refine own_st (T' := s₁) (g' := (mkF m 2 #[.val (.ref a1), .val (.ref p2), .val (.int (0 : Int32)), .unset] [])) (fun _ k => Jvm.Free.XS.istoreN (g := (mkF m 1 #[.val (.ref a1), .val (.ref p2), .unset, .unset] [(.int (0 : Int32))])) X0.here hx rfl (hb hby d6_1) rfl (l' := #[.val (.ref a1), .val (.ref p2), .val (.int (0 : Int32)), .unset]) rfl k) ?_
  refine own_st (T' := s₁) (g' := (mkF m 3 #[.val (.ref a1), .val (.ref p2), .val (.int (0 : Int32)), .unset] [(.int (0 : Int32))])) (fun _ k => Jvm.Free.XS.iloadN (g := (mkF m 2 #[.val (.ref a1), .val (.ref p2), .val (.int (0 : Int32)), .unset] [])) X0.here hx rfl (hb hby d6_2) rfl k) ?_
  refine own_st (T' := s₁) (g' := (mkF m 4 #[.val (.ref a1), .val (.ref p2), .val (.int (0 : Int32)), .unset] [(.ref a1), (.int (0 : Int32))])) (fun _ k => Jvm.Free.XS.aloadN (g := (mkF m 3 #[.val (.ref a1), .val (.ref p2), .val (.int (0 : Int32)), .unset] [(.int (0 : Int32))])) X0.here hx rfl (hb hby d6_3) rfl rfl k) ?_
  obtain ⟨T1, X1, e1, st1⟩ := getF X0 hx hZ hown (host := "") (Or.inl (hw _ (List.mem_of_getElem? (i := 50) rfl))) Via.refl e0 F_s (g := (mkF m 4 #[.val (.ref a1), .val (.ref p2), .val (.int (0 : Int32)), .unset] [(.ref a1), (.int (0 : Int32))])) rfl rfl (hb hby d6_4)
  refine own_st (T' := T1) (g' := (mkF m 7 #[.val (.ref a1), .val (.ref p2), .val (.int (0 : Int32)), .unset] [(.int (8 : Int32)), (.int (0 : Int32))])) (fun _ k => (st1) _ k) ?_
  refine own_st (T' := T1) (g' := (mkF m 10 #[.val (.ref a1), .val (.ref p2), .val (.int (0 : Int32)), .unset] [])) (fun _ k => XS.icmpNo (g := (mkF m 7 #[.val (.ref a1), .val (.ref p2), .val (.int (0 : Int32)), .unset] [(.int (8 : Int32)), (.int (0 : Int32))])) X1.here hx rfl (hb hby d6_7) rfl (tlt (by decide : (0 : Int32) < (8 : Int32))).2.1 k) ?_
  refine own_st (T' := T1) (g' := (mkF m 11 #[.val (.ref a1), .val (.ref p2), .val (.int (0 : Int32)), .unset] [(.ref a1)])) (fun _ k => Jvm.Free.XS.aloadN (g := (mkF m 10 #[.val (.ref a1), .val (.ref p2), .val (.int (0 : Int32)), .unset] [])) X1.here hx rfl (hb hby d6_10) rfl rfl k) ?_
  obtain ⟨T2, X2, e2, st2⟩ := getF X1 hx hZ hown (host := "") (Or.inl (hw _ (List.mem_of_getElem? (i := 43) rfl))) Via.refl e1 F_e (g := (mkF m 11 #[.val (.ref a1), .val (.ref p2), .val (.int (0 : Int32)), .unset] [(.ref a1)])) rfl rfl (hb hby d6_11)
  refine own_st (T' := T2) (g' := (mkF m 14 #[.val (.ref a1), .val (.ref p2), .val (.int (0 : Int32)), .unset] [(.ref en)])) (fun _ k => (st2) _ k) ?_
  refine own_st (T' := T2) (g' := (mkF m 15 #[.val (.ref a1), .val (.ref p2), .val (.int (0 : Int32)), .unset] [(.int (0 : Int32)), (.ref en)])) (fun _ k => Jvm.Free.XS.iloadN (g := (mkF m 14 #[.val (.ref a1), .val (.ref p2), .val (.int (0 : Int32)), .unset] [(.ref en)])) X2.here hx rfl (hb hby d6_14) rfl k) ?_
  obtain ⟨cl3, Ar3, -, Sz3, Nn3, Hs3, Gs3⟩ := id V_en
  have hin3 : ¬ ((0 : Int32) < 0 ∨ cl3.slots.size ≤ ((0 : Int32)).toNatClampNeg) := inb_of Sz3 ⟨by decide, by decide⟩
  have hat3 : cl3.slots[((0 : Int32)).toNatClampNeg]? = some (.ref k0) := Has.at Hs3 hin3 rfl
  refine own_st (T' := T2) (g' := (mkF m 16 #[.val (.ref a1), .val (.ref p2), .val (.int (0 : Int32)), .unset] [(.ref k0)])) (fun _ k => (X2.aaload hx (j := (0 : Int32)) (v := (.ref k0)) (by rw [e2]; exact Ar3.1) (State.isArrayOf_alike hZ.alike Ar3.2.1) rfl Ar3.2.2 hin3 hat3 (g := (mkF m 15 #[.val (.ref a1), .val (.ref p2), .val (.int (0 : Int32)), .unset] [(.int (0 : Int32)), (.ref en)])) rfl rfl (hb hby d6_15)) _ k) ?_
  refine own_st (T' := T2) (g' := (mkF m 17 #[.val (.ref a1), .val (.ref p2), .val (.int (0 : Int32)), .unset] [(.ref p2), (.ref k0)])) (fun _ k => Jvm.Free.XS.aloadN (g := (mkF m 16 #[.val (.ref a1), .val (.ref p2), .val (.int (0 : Int32)), .unset] [(.ref k0)])) X2.here hx rfl (hb hby d6_16) rfl rfl k) ?_
  by_cases hc17 : k0 = p2
  · have hf := hf.trans (if_pos hc17)
    have ac17 := fun t => Jvm.RoadKit.acmp (target := t) (e := e) (g := (mkF m 17 #[.val (.ref a1), .val (.ref p2), .val (.int (0 : Int32)), .unset] [(.ref p2), (.ref k0)])) X2 hx rfl rfl rfl (pc0 := 17) (pc' := 20) (same := true) rfl (hb hby d6_17) rfl (decide_eq_true (congrArg Value.ref hc17)) (by decide) (by decide)
    refine own_st (T' := T2) (g' := (mkF m 20 #[.val (.ref a1), .val (.ref p2), .val (.int (0 : Int32)), .unset] [])) (fun _ k => (ac17) _ k) ?_
    refine own_st (T' := T2) (g' := (mkF m 21 #[.val (.ref a1), .val (.ref p2), .val (.int (0 : Int32)), .unset] [(.ref a1)])) (fun _ k => Jvm.Free.XS.aloadN (g := (mkF m 20 #[.val (.ref a1), .val (.ref p2), .val (.int (0 : Int32)), .unset] [])) X2.here hx rfl (hb hby d6_20) rfl rfl k) ?_
    obtain ⟨T4, X4, e4, st4⟩ := getF X2 hx hZ hown (host := "") (Or.inl (hw _ (List.mem_of_getElem? (i := 43) rfl))) Via.refl e2 F_e (g := (mkF m 21 #[.val (.ref a1), .val (.ref p2), .val (.int (0 : Int32)), .unset] [(.ref a1)])) rfl rfl (hb hby d6_21)
    refine own_st (T' := T4) (g' := (mkF m 24 #[.val (.ref a1), .val (.ref p2), .val (.int (0 : Int32)), .unset] [(.ref en)])) (fun _ k => (st4) _ k) ?_
    refine own_st (T' := T4) (g' := (mkF m 25 #[.val (.ref a1), .val (.ref p2), .val (.int (0 : Int32)), .unset] [(.int (0 : Int32)), (.ref en)])) (fun _ k => Jvm.Free.XS.iloadN (g := (mkF m 24 #[.val (.ref a1), .val (.ref p2), .val (.int (0 : Int32)), .unset] [(.ref en)])) X4.here hx rfl (hb hby d6_24) rfl k) ?_
    refine own_st (T' := T4) (g' := (mkF m 26 #[.val (.ref a1), .val (.ref p2), .val (.int (0 : Int32)), .unset] [(.int (1 : Int32)), (.int (0 : Int32)), (.ref en)])) (fun _ k => XS.iconst (g := (mkF m 25 #[.val (.ref a1), .val (.ref p2), .val (.int (0 : Int32)), .unset] [(.int (0 : Int32)), (.ref en)])) X4.here hx rfl (hb hby d6_25) k) ?_
    refine own_st (T' := T4) (g' := (mkF m 27 #[.val (.ref a1), .val (.ref p2), .val (.int (0 : Int32)), .unset] [(.int (1 : Int32)), (.ref en)])) (fun _ k => Jvm.Free.XS.iadd (g := (mkF m 26 #[.val (.ref a1), .val (.ref p2), .val (.int (0 : Int32)), .unset] [(.int (1 : Int32)), (.int (0 : Int32)), (.ref en)])) X4.here hx rfl (hb hby d6_26) rfl k) ?_
    obtain ⟨cl5, Ar5, -, Sz5, Nn5, Hs5, Gs5⟩ := id V_en
    have hin5 : ¬ ((1 : Int32) < 0 ∨ cl5.slots.size ≤ ((1 : Int32)).toNatClampNeg) := inb_of Sz5 ⟨by decide, by decide⟩
    have hat5 : cl5.slots[((1 : Int32)).toNatClampNeg]? = some r0 := Has.at Hs5 hin5 rfl
    refine own_st (T' := T4) (g' := (mkF m 28 #[.val (.ref a1), .val (.ref p2), .val (.int (0 : Int32)), .unset] [r0])) (fun _ k => (X4.aaload hx (j := (1 : Int32)) (v := r0) (by rw [e4]; exact Ar5.1) (State.isArrayOf_alike hZ.alike Ar5.2.1) rfl Ar5.2.2 hin5 hat5 (g := (mkF m 27 #[.val (.ref a1), .val (.ref p2), .val (.int (0 : Int32)), .unset] [(.int (1 : Int32)), (.ref en)])) rfl rfl (hb hby d6_27)) _ k) ?_
    refine own_st (T' := T4) (g' := (mkF m 29 #[.val (.ref a1), .val (.ref p2), .val (.int (0 : Int32)), .val r0] [])) (fun _ k => Jvm.Free.XS.astoreN (g := (mkF m 28 #[.val (.ref a1), .val (.ref p2), .val (.int (0 : Int32)), .unset] [r0])) X4.here hx rfl (hb hby d6_28) rfl ((R_r0.rf)).isRef (l' := #[.val (.ref a1), .val (.ref p2), .val (.int (0 : Int32)), .val r0]) (by rcases (R_r0.rf) with rfl | ⟨_, rfl⟩ <;> rfl) k) ?_
    refine own_st (T' := T4) (g' := (mkF m 30 #[.val (.ref a1), .val (.ref p2), .val (.int (0 : Int32)), .val r0] [r0])) (fun _ k => Jvm.Free.XS.aloadN (g := (mkF m 29 #[.val (.ref a1), .val (.ref p2), .val (.int (0 : Int32)), .val r0] [])) X4.here hx rfl (hb hby d6_29) rfl ((R_r0.rf)).isRef k) ?_
    exact own_end (Q := Q6_4 Z a1 p2 en ke k0 k1 k2 k3 r0 r1 r2 r3 h0 n0) (v := some r0) X4 (fun h => by rw [Bd.returns] at h; cases h) (fun fs hr => X4.areturnOut hx ((R_r0.rf)).isRef Bd.returns rfl (hb hby d6_30) hr) (⟨_, rfl, hf.symm, N0, e4⟩) (by decide) (by decide)
  · have hf := hf.trans (if_neg hc17)
    have ac17 := fun t => Jvm.RoadKit.acmp (target := t) (e := e) (g := (mkF m 17 #[.val (.ref a1), .val (.ref p2), .val (.int (0 : Int32)), .unset] [(.ref p2), (.ref k0)])) X2 hx rfl rfl rfl (pc0 := 17) (pc' := 31) (same := false) rfl (hb hby d6_17) rfl (decide_eq_false fun q => hc17 (Value.ref.inj q)) (by decide) (by decide)
    refine own_st (T' := T2) (g' := (mkF m 31 #[.val (.ref a1), .val (.ref p2), .val (.int (0 : Int32)), .unset] [])) (fun _ k => (ac17) _ k) ?_
    refine own_st (T' := T2) (g' := (mkF m 34 #[.val (.ref a1), .val (.ref p2), .val (.int (2 : Int32)), .unset] [])) (fun _ k => XS.iinc (g := (mkF m 31 #[.val (.ref a1), .val (.ref p2), .val (.int (0 : Int32)), .unset] [])) X2.here hx rfl (hb hby d6_31) rfl (l' := #[.val (.ref a1), .val (.ref p2), .val (.int (2 : Int32)), .unset]) rfl k) ?_
    refine own_st (T' := T2) (g' := (mkF m 2 #[.val (.ref a1), .val (.ref p2), .val (.int (2 : Int32)), .unset] [])) (fun _ k => XS.goto (g := (mkF m 34 #[.val (.ref a1), .val (.ref p2), .val (.int (2 : Int32)), .unset] [])) X2.here hx rfl (pc0 := 34) (pc' := 2) rfl (hb hby d6_34) (by decide) (by decide) k) ?_
    refine own_st (T' := T2) (g' := (mkF m 3 #[.val (.ref a1), .val (.ref p2), .val (.int (2 : Int32)), .unset] [(.int (2 : Int32))])) (fun _ k => Jvm.Free.XS.iloadN (g := (mkF m 2 #[.val (.ref a1), .val (.ref p2), .val (.int (2 : Int32)), .unset] [])) X2.here hx rfl (hb hby d6_2) rfl k) ?_
    refine own_st (T' := T2) (g' := (mkF m 4 #[.val (.ref a1), .val (.ref p2), .val (.int (2 : Int32)), .unset] [(.ref a1), (.int (2 : Int32))])) (fun _ k => Jvm.Free.XS.aloadN (g := (mkF m 3 #[.val (.ref a1), .val (.ref p2), .val (.int (2 : Int32)), .unset] [(.int (2 : Int32))])) X2.here hx rfl (hb hby d6_3) rfl rfl k) ?_
    obtain ⟨T6, X6, e6, st6⟩ := getF X2 hx hZ hown (host := "") (Or.inl (hw _ (List.mem_of_getElem? (i := 50) rfl))) Via.refl e2 F_s (g := (mkF m 4 #[.val (.ref a1), .val (.ref p2), .val (.int (2 : Int32)), .unset] [(.ref a1), (.int (2 : Int32))])) rfl rfl (hb hby d6_4)
    refine own_st (T' := T6) (g' := (mkF m 7 #[.val (.ref a1), .val (.ref p2), .val (.int (2 : Int32)), .unset] [(.int (8 : Int32)), (.int (2 : Int32))])) (fun _ k => (st6) _ k) ?_
    refine own_st (T' := T6) (g' := (mkF m 10 #[.val (.ref a1), .val (.ref p2), .val (.int (2 : Int32)), .unset] [])) (fun _ k => XS.icmpNo (g := (mkF m 7 #[.val (.ref a1), .val (.ref p2), .val (.int (2 : Int32)), .unset] [(.int (8 : Int32)), (.int (2 : Int32))])) X6.here hx rfl (hb hby d6_7) rfl (tlt (by decide : (2 : Int32) < (8 : Int32))).2.1 k) ?_
    refine own_st (T' := T6) (g' := (mkF m 11 #[.val (.ref a1), .val (.ref p2), .val (.int (2 : Int32)), .unset] [(.ref a1)])) (fun _ k => Jvm.Free.XS.aloadN (g := (mkF m 10 #[.val (.ref a1), .val (.ref p2), .val (.int (2 : Int32)), .unset] [])) X6.here hx rfl (hb hby d6_10) rfl rfl k) ?_
    obtain ⟨T7, X7, e7, st7⟩ := getF X6 hx hZ hown (host := "") (Or.inl (hw _ (List.mem_of_getElem? (i := 43) rfl))) Via.refl e6 F_e (g := (mkF m 11 #[.val (.ref a1), .val (.ref p2), .val (.int (2 : Int32)), .unset] [(.ref a1)])) rfl rfl (hb hby d6_11)
    refine own_st (T' := T7) (g' := (mkF m 14 #[.val (.ref a1), .val (.ref p2), .val (.int (2 : Int32)), .unset] [(.ref en)])) (fun _ k => (st7) _ k) ?_
    refine own_st (T' := T7) (g' := (mkF m 15 #[.val (.ref a1), .val (.ref p2), .val (.int (2 : Int32)), .unset] [(.int (2 : Int32)), (.ref en)])) (fun _ k => Jvm.Free.XS.iloadN (g := (mkF m 14 #[.val (.ref a1), .val (.ref p2), .val (.int (2 : Int32)), .unset] [(.ref en)])) X7.here hx rfl (hb hby d6_14) rfl k) ?_
    obtain ⟨cl8, Ar8, -, Sz8, Nn8, Hs8, Gs8⟩ := id V_en
    have hin8 : ¬ ((2 : Int32) < 0 ∨ cl8.slots.size ≤ ((2 : Int32)).toNatClampNeg) := inb_of Sz8 ⟨by decide, by decide⟩
    have hat8 : cl8.slots[((2 : Int32)).toNatClampNeg]? = some (.ref k1) := Has.at Hs8 hin8 rfl
    refine own_st (T' := T7) (g' := (mkF m 16 #[.val (.ref a1), .val (.ref p2), .val (.int (2 : Int32)), .unset] [(.ref k1)])) (fun _ k => (X7.aaload hx (j := (2 : Int32)) (v := (.ref k1)) (by rw [e7]; exact Ar8.1) (State.isArrayOf_alike hZ.alike Ar8.2.1) rfl Ar8.2.2 hin8 hat8 (g := (mkF m 15 #[.val (.ref a1), .val (.ref p2), .val (.int (2 : Int32)), .unset] [(.int (2 : Int32)), (.ref en)])) rfl rfl (hb hby d6_15)) _ k) ?_
    refine own_st (T' := T7) (g' := (mkF m 17 #[.val (.ref a1), .val (.ref p2), .val (.int (2 : Int32)), .unset] [(.ref p2), (.ref k1)])) (fun _ k => Jvm.Free.XS.aloadN (g := (mkF m 16 #[.val (.ref a1), .val (.ref p2), .val (.int (2 : Int32)), .unset] [(.ref k1)])) X7.here hx rfl (hb hby d6_16) rfl rfl k) ?_
    by_cases hc17 : k1 = p2
    · have hf := hf.trans (if_pos hc17)
      have ac17 := fun t => Jvm.RoadKit.acmp (target := t) (e := e) (g := (mkF m 17 #[.val (.ref a1), .val (.ref p2), .val (.int (2 : Int32)), .unset] [(.ref p2), (.ref k1)])) X7 hx rfl rfl rfl (pc0 := 17) (pc' := 20) (same := true) rfl (hb hby d6_17) rfl (decide_eq_true (congrArg Value.ref hc17)) (by decide) (by decide)
      refine own_st (T' := T7) (g' := (mkF m 20 #[.val (.ref a1), .val (.ref p2), .val (.int (2 : Int32)), .unset] [])) (fun _ k => (ac17) _ k) ?_
      refine own_st (T' := T7) (g' := (mkF m 21 #[.val (.ref a1), .val (.ref p2), .val (.int (2 : Int32)), .unset] [(.ref a1)])) (fun _ k => Jvm.Free.XS.aloadN (g := (mkF m 20 #[.val (.ref a1), .val (.ref p2), .val (.int (2 : Int32)), .unset] [])) X7.here hx rfl (hb hby d6_20) rfl rfl k) ?_
      obtain ⟨T9, X9, e9, st9⟩ := getF X7 hx hZ hown (host := "") (Or.inl (hw _ (List.mem_of_getElem? (i := 43) rfl))) Via.refl e7 F_e (g := (mkF m 21 #[.val (.ref a1), .val (.ref p2), .val (.int (2 : Int32)), .unset] [(.ref a1)])) rfl rfl (hb hby d6_21)
      refine own_st (T' := T9) (g' := (mkF m 24 #[.val (.ref a1), .val (.ref p2), .val (.int (2 : Int32)), .unset] [(.ref en)])) (fun _ k => (st9) _ k) ?_
      refine own_st (T' := T9) (g' := (mkF m 25 #[.val (.ref a1), .val (.ref p2), .val (.int (2 : Int32)), .unset] [(.int (2 : Int32)), (.ref en)])) (fun _ k => Jvm.Free.XS.iloadN (g := (mkF m 24 #[.val (.ref a1), .val (.ref p2), .val (.int (2 : Int32)), .unset] [(.ref en)])) X9.here hx rfl (hb hby d6_24) rfl k) ?_
      refine own_st (T' := T9) (g' := (mkF m 26 #[.val (.ref a1), .val (.ref p2), .val (.int (2 : Int32)), .unset] [(.int (1 : Int32)), (.int (2 : Int32)), (.ref en)])) (fun _ k => XS.iconst (g := (mkF m 25 #[.val (.ref a1), .val (.ref p2), .val (.int (2 : Int32)), .unset] [(.int (2 : Int32)), (.ref en)])) X9.here hx rfl (hb hby d6_25) k) ?_
      refine own_st (T' := T9) (g' := (mkF m 27 #[.val (.ref a1), .val (.ref p2), .val (.int (2 : Int32)), .unset] [(.int (3 : Int32)), (.ref en)])) (fun _ k => Jvm.Free.XS.iadd (g := (mkF m 26 #[.val (.ref a1), .val (.ref p2), .val (.int (2 : Int32)), .unset] [(.int (1 : Int32)), (.int (2 : Int32)), (.ref en)])) X9.here hx rfl (hb hby d6_26) rfl k) ?_
      obtain ⟨cl10, Ar10, -, Sz10, Nn10, Hs10, Gs10⟩ := id V_en
      have hin10 : ¬ ((3 : Int32) < 0 ∨ cl10.slots.size ≤ ((3 : Int32)).toNatClampNeg) := inb_of Sz10 ⟨by decide, by decide⟩
      have hat10 : cl10.slots[((3 : Int32)).toNatClampNeg]? = some r1 := Has.at Hs10 hin10 rfl
      refine own_st (T' := T9) (g' := (mkF m 28 #[.val (.ref a1), .val (.ref p2), .val (.int (2 : Int32)), .unset] [r1])) (fun _ k => (X9.aaload hx (j := (3 : Int32)) (v := r1) (by rw [e9]; exact Ar10.1) (State.isArrayOf_alike hZ.alike Ar10.2.1) rfl Ar10.2.2 hin10 hat10 (g := (mkF m 27 #[.val (.ref a1), .val (.ref p2), .val (.int (2 : Int32)), .unset] [(.int (3 : Int32)), (.ref en)])) rfl rfl (hb hby d6_27)) _ k) ?_
      refine own_st (T' := T9) (g' := (mkF m 29 #[.val (.ref a1), .val (.ref p2), .val (.int (2 : Int32)), .val r1] [])) (fun _ k => Jvm.Free.XS.astoreN (g := (mkF m 28 #[.val (.ref a1), .val (.ref p2), .val (.int (2 : Int32)), .unset] [r1])) X9.here hx rfl (hb hby d6_28) rfl ((R_r1.rf)).isRef (l' := #[.val (.ref a1), .val (.ref p2), .val (.int (2 : Int32)), .val r1]) (by rcases (R_r1.rf) with rfl | ⟨_, rfl⟩ <;> rfl) k) ?_
      refine own_st (T' := T9) (g' := (mkF m 30 #[.val (.ref a1), .val (.ref p2), .val (.int (2 : Int32)), .val r1] [r1])) (fun _ k => Jvm.Free.XS.aloadN (g := (mkF m 29 #[.val (.ref a1), .val (.ref p2), .val (.int (2 : Int32)), .val r1] [])) X9.here hx rfl (hb hby d6_29) rfl ((R_r1.rf)).isRef k) ?_
      exact own_end (Q := Q6_4 Z a1 p2 en ke k0 k1 k2 k3 r0 r1 r2 r3 h0 n0) (v := some r1) X9 (fun h => by rw [Bd.returns] at h; cases h) (fun fs hr => X9.areturnOut hx ((R_r1.rf)).isRef Bd.returns rfl (hb hby d6_30) hr) (⟨_, rfl, hf.symm, N0, e9⟩) (by decide) (by decide)
    · have hf := hf.trans (if_neg hc17)
      have ac17 := fun t => Jvm.RoadKit.acmp (target := t) (e := e) (g := (mkF m 17 #[.val (.ref a1), .val (.ref p2), .val (.int (2 : Int32)), .unset] [(.ref p2), (.ref k1)])) X7 hx rfl rfl rfl (pc0 := 17) (pc' := 31) (same := false) rfl (hb hby d6_17) rfl (decide_eq_false fun q => hc17 (Value.ref.inj q)) (by decide) (by decide)
      refine own_st (T' := T7) (g' := (mkF m 31 #[.val (.ref a1), .val (.ref p2), .val (.int (2 : Int32)), .unset] [])) (fun _ k => (ac17) _ k) ?_
      refine own_st (T' := T7) (g' := (mkF m 34 #[.val (.ref a1), .val (.ref p2), .val (.int (4 : Int32)), .unset] [])) (fun _ k => XS.iinc (g := (mkF m 31 #[.val (.ref a1), .val (.ref p2), .val (.int (2 : Int32)), .unset] [])) X7.here hx rfl (hb hby d6_31) rfl (l' := #[.val (.ref a1), .val (.ref p2), .val (.int (4 : Int32)), .unset]) rfl k) ?_
      refine own_st (T' := T7) (g' := (mkF m 2 #[.val (.ref a1), .val (.ref p2), .val (.int (4 : Int32)), .unset] [])) (fun _ k => XS.goto (g := (mkF m 34 #[.val (.ref a1), .val (.ref p2), .val (.int (4 : Int32)), .unset] [])) X7.here hx rfl (pc0 := 34) (pc' := 2) rfl (hb hby d6_34) (by decide) (by decide) k) ?_
      refine own_st (T' := T7) (g' := (mkF m 3 #[.val (.ref a1), .val (.ref p2), .val (.int (4 : Int32)), .unset] [(.int (4 : Int32))])) (fun _ k => Jvm.Free.XS.iloadN (g := (mkF m 2 #[.val (.ref a1), .val (.ref p2), .val (.int (4 : Int32)), .unset] [])) X7.here hx rfl (hb hby d6_2) rfl k) ?_
      refine own_st (T' := T7) (g' := (mkF m 4 #[.val (.ref a1), .val (.ref p2), .val (.int (4 : Int32)), .unset] [(.ref a1), (.int (4 : Int32))])) (fun _ k => Jvm.Free.XS.aloadN (g := (mkF m 3 #[.val (.ref a1), .val (.ref p2), .val (.int (4 : Int32)), .unset] [(.int (4 : Int32))])) X7.here hx rfl (hb hby d6_3) rfl rfl k) ?_
      obtain ⟨T11, X11, e11, st11⟩ := getF X7 hx hZ hown (host := "") (Or.inl (hw _ (List.mem_of_getElem? (i := 50) rfl))) Via.refl e7 F_s (g := (mkF m 4 #[.val (.ref a1), .val (.ref p2), .val (.int (4 : Int32)), .unset] [(.ref a1), (.int (4 : Int32))])) rfl rfl (hb hby d6_4)
      refine own_st (T' := T11) (g' := (mkF m 7 #[.val (.ref a1), .val (.ref p2), .val (.int (4 : Int32)), .unset] [(.int (8 : Int32)), (.int (4 : Int32))])) (fun _ k => (st11) _ k) ?_
      refine own_st (T' := T11) (g' := (mkF m 10 #[.val (.ref a1), .val (.ref p2), .val (.int (4 : Int32)), .unset] [])) (fun _ k => XS.icmpNo (g := (mkF m 7 #[.val (.ref a1), .val (.ref p2), .val (.int (4 : Int32)), .unset] [(.int (8 : Int32)), (.int (4 : Int32))])) X11.here hx rfl (hb hby d6_7) rfl (tlt (by decide : (4 : Int32) < (8 : Int32))).2.1 k) ?_
      refine own_st (T' := T11) (g' := (mkF m 11 #[.val (.ref a1), .val (.ref p2), .val (.int (4 : Int32)), .unset] [(.ref a1)])) (fun _ k => Jvm.Free.XS.aloadN (g := (mkF m 10 #[.val (.ref a1), .val (.ref p2), .val (.int (4 : Int32)), .unset] [])) X11.here hx rfl (hb hby d6_10) rfl rfl k) ?_
      obtain ⟨T12, X12, e12, st12⟩ := getF X11 hx hZ hown (host := "") (Or.inl (hw _ (List.mem_of_getElem? (i := 43) rfl))) Via.refl e11 F_e (g := (mkF m 11 #[.val (.ref a1), .val (.ref p2), .val (.int (4 : Int32)), .unset] [(.ref a1)])) rfl rfl (hb hby d6_11)
      refine own_st (T' := T12) (g' := (mkF m 14 #[.val (.ref a1), .val (.ref p2), .val (.int (4 : Int32)), .unset] [(.ref en)])) (fun _ k => (st12) _ k) ?_
      refine own_st (T' := T12) (g' := (mkF m 15 #[.val (.ref a1), .val (.ref p2), .val (.int (4 : Int32)), .unset] [(.int (4 : Int32)), (.ref en)])) (fun _ k => Jvm.Free.XS.iloadN (g := (mkF m 14 #[.val (.ref a1), .val (.ref p2), .val (.int (4 : Int32)), .unset] [(.ref en)])) X12.here hx rfl (hb hby d6_14) rfl k) ?_
      obtain ⟨cl13, Ar13, -, Sz13, Nn13, Hs13, Gs13⟩ := id V_en
      have hin13 : ¬ ((4 : Int32) < 0 ∨ cl13.slots.size ≤ ((4 : Int32)).toNatClampNeg) := inb_of Sz13 ⟨by decide, by decide⟩
      have hat13 : cl13.slots[((4 : Int32)).toNatClampNeg]? = some (.ref k2) := Has.at Hs13 hin13 rfl
      refine own_st (T' := T12) (g' := (mkF m 16 #[.val (.ref a1), .val (.ref p2), .val (.int (4 : Int32)), .unset] [(.ref k2)])) (fun _ k => (X12.aaload hx (j := (4 : Int32)) (v := (.ref k2)) (by rw [e12]; exact Ar13.1) (State.isArrayOf_alike hZ.alike Ar13.2.1) rfl Ar13.2.2 hin13 hat13 (g := (mkF m 15 #[.val (.ref a1), .val (.ref p2), .val (.int (4 : Int32)), .unset] [(.int (4 : Int32)), (.ref en)])) rfl rfl (hb hby d6_15)) _ k) ?_
      refine own_st (T' := T12) (g' := (mkF m 17 #[.val (.ref a1), .val (.ref p2), .val (.int (4 : Int32)), .unset] [(.ref p2), (.ref k2)])) (fun _ k => Jvm.Free.XS.aloadN (g := (mkF m 16 #[.val (.ref a1), .val (.ref p2), .val (.int (4 : Int32)), .unset] [(.ref k2)])) X12.here hx rfl (hb hby d6_16) rfl rfl k) ?_
      by_cases hc17 : k2 = p2
      · have hf := hf.trans (if_pos hc17)
        have ac17 := fun t => Jvm.RoadKit.acmp (target := t) (e := e) (g := (mkF m 17 #[.val (.ref a1), .val (.ref p2), .val (.int (4 : Int32)), .unset] [(.ref p2), (.ref k2)])) X12 hx rfl rfl rfl (pc0 := 17) (pc' := 20) (same := true) rfl (hb hby d6_17) rfl (decide_eq_true (congrArg Value.ref hc17)) (by decide) (by decide)
        refine own_st (T' := T12) (g' := (mkF m 20 #[.val (.ref a1), .val (.ref p2), .val (.int (4 : Int32)), .unset] [])) (fun _ k => (ac17) _ k) ?_
        refine own_st (T' := T12) (g' := (mkF m 21 #[.val (.ref a1), .val (.ref p2), .val (.int (4 : Int32)), .unset] [(.ref a1)])) (fun _ k => Jvm.Free.XS.aloadN (g := (mkF m 20 #[.val (.ref a1), .val (.ref p2), .val (.int (4 : Int32)), .unset] [])) X12.here hx rfl (hb hby d6_20) rfl rfl k) ?_
        obtain ⟨T14, X14, e14, st14⟩ := getF X12 hx hZ hown (host := "") (Or.inl (hw _ (List.mem_of_getElem? (i := 43) rfl))) Via.refl e12 F_e (g := (mkF m 21 #[.val (.ref a1), .val (.ref p2), .val (.int (4 : Int32)), .unset] [(.ref a1)])) rfl rfl (hb hby d6_21)
        refine own_st (T' := T14) (g' := (mkF m 24 #[.val (.ref a1), .val (.ref p2), .val (.int (4 : Int32)), .unset] [(.ref en)])) (fun _ k => (st14) _ k) ?_
        refine own_st (T' := T14) (g' := (mkF m 25 #[.val (.ref a1), .val (.ref p2), .val (.int (4 : Int32)), .unset] [(.int (4 : Int32)), (.ref en)])) (fun _ k => Jvm.Free.XS.iloadN (g := (mkF m 24 #[.val (.ref a1), .val (.ref p2), .val (.int (4 : Int32)), .unset] [(.ref en)])) X14.here hx rfl (hb hby d6_24) rfl k) ?_
        refine own_st (T' := T14) (g' := (mkF m 26 #[.val (.ref a1), .val (.ref p2), .val (.int (4 : Int32)), .unset] [(.int (1 : Int32)), (.int (4 : Int32)), (.ref en)])) (fun _ k => XS.iconst (g := (mkF m 25 #[.val (.ref a1), .val (.ref p2), .val (.int (4 : Int32)), .unset] [(.int (4 : Int32)), (.ref en)])) X14.here hx rfl (hb hby d6_25) k) ?_
        refine own_st (T' := T14) (g' := (mkF m 27 #[.val (.ref a1), .val (.ref p2), .val (.int (4 : Int32)), .unset] [(.int (5 : Int32)), (.ref en)])) (fun _ k => Jvm.Free.XS.iadd (g := (mkF m 26 #[.val (.ref a1), .val (.ref p2), .val (.int (4 : Int32)), .unset] [(.int (1 : Int32)), (.int (4 : Int32)), (.ref en)])) X14.here hx rfl (hb hby d6_26) rfl k) ?_
        obtain ⟨cl15, Ar15, -, Sz15, Nn15, Hs15, Gs15⟩ := id V_en
        have hin15 : ¬ ((5 : Int32) < 0 ∨ cl15.slots.size ≤ ((5 : Int32)).toNatClampNeg) := inb_of Sz15 ⟨by decide, by decide⟩
        have hat15 : cl15.slots[((5 : Int32)).toNatClampNeg]? = some r2 := Has.at Hs15 hin15 rfl
        refine own_st (T' := T14) (g' := (mkF m 28 #[.val (.ref a1), .val (.ref p2), .val (.int (4 : Int32)), .unset] [r2])) (fun _ k => (X14.aaload hx (j := (5 : Int32)) (v := r2) (by rw [e14]; exact Ar15.1) (State.isArrayOf_alike hZ.alike Ar15.2.1) rfl Ar15.2.2 hin15 hat15 (g := (mkF m 27 #[.val (.ref a1), .val (.ref p2), .val (.int (4 : Int32)), .unset] [(.int (5 : Int32)), (.ref en)])) rfl rfl (hb hby d6_27)) _ k) ?_
        refine own_st (T' := T14) (g' := (mkF m 29 #[.val (.ref a1), .val (.ref p2), .val (.int (4 : Int32)), .val r2] [])) (fun _ k => Jvm.Free.XS.astoreN (g := (mkF m 28 #[.val (.ref a1), .val (.ref p2), .val (.int (4 : Int32)), .unset] [r2])) X14.here hx rfl (hb hby d6_28) rfl ((R_r2.rf)).isRef (l' := #[.val (.ref a1), .val (.ref p2), .val (.int (4 : Int32)), .val r2]) (by rcases (R_r2.rf) with rfl | ⟨_, rfl⟩ <;> rfl) k) ?_
        refine own_st (T' := T14) (g' := (mkF m 30 #[.val (.ref a1), .val (.ref p2), .val (.int (4 : Int32)), .val r2] [r2])) (fun _ k => Jvm.Free.XS.aloadN (g := (mkF m 29 #[.val (.ref a1), .val (.ref p2), .val (.int (4 : Int32)), .val r2] [])) X14.here hx rfl (hb hby d6_29) rfl ((R_r2.rf)).isRef k) ?_
        exact own_end (Q := Q6_4 Z a1 p2 en ke k0 k1 k2 k3 r0 r1 r2 r3 h0 n0) (v := some r2) X14 (fun h => by rw [Bd.returns] at h; cases h) (fun fs hr => X14.areturnOut hx ((R_r2.rf)).isRef Bd.returns rfl (hb hby d6_30) hr) (⟨_, rfl, hf.symm, N0, e14⟩) (by decide) (by decide)
      · have hf := hf.trans (if_neg hc17)
        have ac17 := fun t => Jvm.RoadKit.acmp (target := t) (e := e) (g := (mkF m 17 #[.val (.ref a1), .val (.ref p2), .val (.int (4 : Int32)), .unset] [(.ref p2), (.ref k2)])) X12 hx rfl rfl rfl (pc0 := 17) (pc' := 31) (same := false) rfl (hb hby d6_17) rfl (decide_eq_false fun q => hc17 (Value.ref.inj q)) (by decide) (by decide)
        refine own_st (T' := T12) (g' := (mkF m 31 #[.val (.ref a1), .val (.ref p2), .val (.int (4 : Int32)), .unset] [])) (fun _ k => (ac17) _ k) ?_
        refine own_st (T' := T12) (g' := (mkF m 34 #[.val (.ref a1), .val (.ref p2), .val (.int (6 : Int32)), .unset] [])) (fun _ k => XS.iinc (g := (mkF m 31 #[.val (.ref a1), .val (.ref p2), .val (.int (4 : Int32)), .unset] [])) X12.here hx rfl (hb hby d6_31) rfl (l' := #[.val (.ref a1), .val (.ref p2), .val (.int (6 : Int32)), .unset]) rfl k) ?_
        refine own_st (T' := T12) (g' := (mkF m 2 #[.val (.ref a1), .val (.ref p2), .val (.int (6 : Int32)), .unset] [])) (fun _ k => XS.goto (g := (mkF m 34 #[.val (.ref a1), .val (.ref p2), .val (.int (6 : Int32)), .unset] [])) X12.here hx rfl (pc0 := 34) (pc' := 2) rfl (hb hby d6_34) (by decide) (by decide) k) ?_
        refine own_st (T' := T12) (g' := (mkF m 3 #[.val (.ref a1), .val (.ref p2), .val (.int (6 : Int32)), .unset] [(.int (6 : Int32))])) (fun _ k => Jvm.Free.XS.iloadN (g := (mkF m 2 #[.val (.ref a1), .val (.ref p2), .val (.int (6 : Int32)), .unset] [])) X12.here hx rfl (hb hby d6_2) rfl k) ?_
        refine own_st (T' := T12) (g' := (mkF m 4 #[.val (.ref a1), .val (.ref p2), .val (.int (6 : Int32)), .unset] [(.ref a1), (.int (6 : Int32))])) (fun _ k => Jvm.Free.XS.aloadN (g := (mkF m 3 #[.val (.ref a1), .val (.ref p2), .val (.int (6 : Int32)), .unset] [(.int (6 : Int32))])) X12.here hx rfl (hb hby d6_3) rfl rfl k) ?_
        obtain ⟨T16, X16, e16, st16⟩ := getF X12 hx hZ hown (host := "") (Or.inl (hw _ (List.mem_of_getElem? (i := 50) rfl))) Via.refl e12 F_s (g := (mkF m 4 #[.val (.ref a1), .val (.ref p2), .val (.int (6 : Int32)), .unset] [(.ref a1), (.int (6 : Int32))])) rfl rfl (hb hby d6_4)
        refine own_st (T' := T16) (g' := (mkF m 7 #[.val (.ref a1), .val (.ref p2), .val (.int (6 : Int32)), .unset] [(.int (8 : Int32)), (.int (6 : Int32))])) (fun _ k => (st16) _ k) ?_
        refine own_st (T' := T16) (g' := (mkF m 10 #[.val (.ref a1), .val (.ref p2), .val (.int (6 : Int32)), .unset] [])) (fun _ k => XS.icmpNo (g := (mkF m 7 #[.val (.ref a1), .val (.ref p2), .val (.int (6 : Int32)), .unset] [(.int (8 : Int32)), (.int (6 : Int32))])) X16.here hx rfl (hb hby d6_7) rfl (tlt (by decide : (6 : Int32) < (8 : Int32))).2.1 k) ?_
        refine own_st (T' := T16) (g' := (mkF m 11 #[.val (.ref a1), .val (.ref p2), .val (.int (6 : Int32)), .unset] [(.ref a1)])) (fun _ k => Jvm.Free.XS.aloadN (g := (mkF m 10 #[.val (.ref a1), .val (.ref p2), .val (.int (6 : Int32)), .unset] [])) X16.here hx rfl (hb hby d6_10) rfl rfl k) ?_
        obtain ⟨T17, X17, e17, st17⟩ := getF X16 hx hZ hown (host := "") (Or.inl (hw _ (List.mem_of_getElem? (i := 43) rfl))) Via.refl e16 F_e (g := (mkF m 11 #[.val (.ref a1), .val (.ref p2), .val (.int (6 : Int32)), .unset] [(.ref a1)])) rfl rfl (hb hby d6_11)
        refine own_st (T' := T17) (g' := (mkF m 14 #[.val (.ref a1), .val (.ref p2), .val (.int (6 : Int32)), .unset] [(.ref en)])) (fun _ k => (st17) _ k) ?_
        refine own_st (T' := T17) (g' := (mkF m 15 #[.val (.ref a1), .val (.ref p2), .val (.int (6 : Int32)), .unset] [(.int (6 : Int32)), (.ref en)])) (fun _ k => Jvm.Free.XS.iloadN (g := (mkF m 14 #[.val (.ref a1), .val (.ref p2), .val (.int (6 : Int32)), .unset] [(.ref en)])) X17.here hx rfl (hb hby d6_14) rfl k) ?_
        obtain ⟨cl18, Ar18, -, Sz18, Nn18, Hs18, Gs18⟩ := id V_en
        have hin18 : ¬ ((6 : Int32) < 0 ∨ cl18.slots.size ≤ ((6 : Int32)).toNatClampNeg) := inb_of Sz18 ⟨by decide, by decide⟩
        have hat18 : cl18.slots[((6 : Int32)).toNatClampNeg]? = some (.ref k3) := Has.at Hs18 hin18 rfl
        refine own_st (T' := T17) (g' := (mkF m 16 #[.val (.ref a1), .val (.ref p2), .val (.int (6 : Int32)), .unset] [(.ref k3)])) (fun _ k => (X17.aaload hx (j := (6 : Int32)) (v := (.ref k3)) (by rw [e17]; exact Ar18.1) (State.isArrayOf_alike hZ.alike Ar18.2.1) rfl Ar18.2.2 hin18 hat18 (g := (mkF m 15 #[.val (.ref a1), .val (.ref p2), .val (.int (6 : Int32)), .unset] [(.int (6 : Int32)), (.ref en)])) rfl rfl (hb hby d6_15)) _ k) ?_
        refine own_st (T' := T17) (g' := (mkF m 17 #[.val (.ref a1), .val (.ref p2), .val (.int (6 : Int32)), .unset] [(.ref p2), (.ref k3)])) (fun _ k => Jvm.Free.XS.aloadN (g := (mkF m 16 #[.val (.ref a1), .val (.ref p2), .val (.int (6 : Int32)), .unset] [(.ref k3)])) X17.here hx rfl (hb hby d6_16) rfl rfl k) ?_
        by_cases hc17 : k3 = p2
        · have hf := hf.trans (if_pos hc17)
          have ac17 := fun t => Jvm.RoadKit.acmp (target := t) (e := e) (g := (mkF m 17 #[.val (.ref a1), .val (.ref p2), .val (.int (6 : Int32)), .unset] [(.ref p2), (.ref k3)])) X17 hx rfl rfl rfl (pc0 := 17) (pc' := 20) (same := true) rfl (hb hby d6_17) rfl (decide_eq_true (congrArg Value.ref hc17)) (by decide) (by decide)
          refine own_st (T' := T17) (g' := (mkF m 20 #[.val (.ref a1), .val (.ref p2), .val (.int (6 : Int32)), .unset] [])) (fun _ k => (ac17) _ k) ?_
          refine own_st (T' := T17) (g' := (mkF m 21 #[.val (.ref a1), .val (.ref p2), .val (.int (6 : Int32)), .unset] [(.ref a1)])) (fun _ k => Jvm.Free.XS.aloadN (g := (mkF m 20 #[.val (.ref a1), .val (.ref p2), .val (.int (6 : Int32)), .unset] [])) X17.here hx rfl (hb hby d6_20) rfl rfl k) ?_
          obtain ⟨T19, X19, e19, st19⟩ := getF X17 hx hZ hown (host := "") (Or.inl (hw _ (List.mem_of_getElem? (i := 43) rfl))) Via.refl e17 F_e (g := (mkF m 21 #[.val (.ref a1), .val (.ref p2), .val (.int (6 : Int32)), .unset] [(.ref a1)])) rfl rfl (hb hby d6_21)
          refine own_st (T' := T19) (g' := (mkF m 24 #[.val (.ref a1), .val (.ref p2), .val (.int (6 : Int32)), .unset] [(.ref en)])) (fun _ k => (st19) _ k) ?_
          refine own_st (T' := T19) (g' := (mkF m 25 #[.val (.ref a1), .val (.ref p2), .val (.int (6 : Int32)), .unset] [(.int (6 : Int32)), (.ref en)])) (fun _ k => Jvm.Free.XS.iloadN (g := (mkF m 24 #[.val (.ref a1), .val (.ref p2), .val (.int (6 : Int32)), .unset] [(.ref en)])) X19.here hx rfl (hb hby d6_24) rfl k) ?_
          refine own_st (T' := T19) (g' := (mkF m 26 #[.val (.ref a1), .val (.ref p2), .val (.int (6 : Int32)), .unset] [(.int (1 : Int32)), (.int (6 : Int32)), (.ref en)])) (fun _ k => XS.iconst (g := (mkF m 25 #[.val (.ref a1), .val (.ref p2), .val (.int (6 : Int32)), .unset] [(.int (6 : Int32)), (.ref en)])) X19.here hx rfl (hb hby d6_25) k) ?_
          refine own_st (T' := T19) (g' := (mkF m 27 #[.val (.ref a1), .val (.ref p2), .val (.int (6 : Int32)), .unset] [(.int (7 : Int32)), (.ref en)])) (fun _ k => Jvm.Free.XS.iadd (g := (mkF m 26 #[.val (.ref a1), .val (.ref p2), .val (.int (6 : Int32)), .unset] [(.int (1 : Int32)), (.int (6 : Int32)), (.ref en)])) X19.here hx rfl (hb hby d6_26) rfl k) ?_
          obtain ⟨cl20, Ar20, -, Sz20, Nn20, Hs20, Gs20⟩ := id V_en
          have hin20 : ¬ ((7 : Int32) < 0 ∨ cl20.slots.size ≤ ((7 : Int32)).toNatClampNeg) := inb_of Sz20 ⟨by decide, by decide⟩
          have hat20 : cl20.slots[((7 : Int32)).toNatClampNeg]? = some r3 := Has.at Hs20 hin20 rfl
          refine own_st (T' := T19) (g' := (mkF m 28 #[.val (.ref a1), .val (.ref p2), .val (.int (6 : Int32)), .unset] [r3])) (fun _ k => (X19.aaload hx (j := (7 : Int32)) (v := r3) (by rw [e19]; exact Ar20.1) (State.isArrayOf_alike hZ.alike Ar20.2.1) rfl Ar20.2.2 hin20 hat20 (g := (mkF m 27 #[.val (.ref a1), .val (.ref p2), .val (.int (6 : Int32)), .unset] [(.int (7 : Int32)), (.ref en)])) rfl rfl (hb hby d6_27)) _ k) ?_
          refine own_st (T' := T19) (g' := (mkF m 29 #[.val (.ref a1), .val (.ref p2), .val (.int (6 : Int32)), .val r3] [])) (fun _ k => Jvm.Free.XS.astoreN (g := (mkF m 28 #[.val (.ref a1), .val (.ref p2), .val (.int (6 : Int32)), .unset] [r3])) X19.here hx rfl (hb hby d6_28) rfl ((R_r3.rf)).isRef (l' := #[.val (.ref a1), .val (.ref p2), .val (.int (6 : Int32)), .val r3]) (by rcases (R_r3.rf) with rfl | ⟨_, rfl⟩ <;> rfl) k) ?_
          refine own_st (T' := T19) (g' := (mkF m 30 #[.val (.ref a1), .val (.ref p2), .val (.int (6 : Int32)), .val r3] [r3])) (fun _ k => Jvm.Free.XS.aloadN (g := (mkF m 29 #[.val (.ref a1), .val (.ref p2), .val (.int (6 : Int32)), .val r3] [])) X19.here hx rfl (hb hby d6_29) rfl ((R_r3.rf)).isRef k) ?_
          exact own_end (Q := Q6_4 Z a1 p2 en ke k0 k1 k2 k3 r0 r1 r2 r3 h0 n0) (v := some r3) X19 (fun h => by rw [Bd.returns] at h; cases h) (fun fs hr => X19.areturnOut hx ((R_r3.rf)).isRef Bd.returns rfl (hb hby d6_30) hr) (⟨_, rfl, hf.symm, N0, e19⟩) (by decide) (by decide)
        · have hf := hf.trans (if_neg hc17)
          have ac17 := fun t => Jvm.RoadKit.acmp (target := t) (e := e) (g := (mkF m 17 #[.val (.ref a1), .val (.ref p2), .val (.int (6 : Int32)), .unset] [(.ref p2), (.ref k3)])) X17 hx rfl rfl rfl (pc0 := 17) (pc' := 31) (same := false) rfl (hb hby d6_17) rfl (decide_eq_false fun q => hc17 (Value.ref.inj q)) (by decide) (by decide)
          refine own_st (T' := T17) (g' := (mkF m 31 #[.val (.ref a1), .val (.ref p2), .val (.int (6 : Int32)), .unset] [])) (fun _ k => (ac17) _ k) ?_
          refine own_st (T' := T17) (g' := (mkF m 34 #[.val (.ref a1), .val (.ref p2), .val (.int (8 : Int32)), .unset] [])) (fun _ k => XS.iinc (g := (mkF m 31 #[.val (.ref a1), .val (.ref p2), .val (.int (6 : Int32)), .unset] [])) X17.here hx rfl (hb hby d6_31) rfl (l' := #[.val (.ref a1), .val (.ref p2), .val (.int (8 : Int32)), .unset]) rfl k) ?_
          refine own_st (T' := T17) (g' := (mkF m 2 #[.val (.ref a1), .val (.ref p2), .val (.int (8 : Int32)), .unset] [])) (fun _ k => XS.goto (g := (mkF m 34 #[.val (.ref a1), .val (.ref p2), .val (.int (8 : Int32)), .unset] [])) X17.here hx rfl (pc0 := 34) (pc' := 2) rfl (hb hby d6_34) (by decide) (by decide) k) ?_
          refine own_st (T' := T17) (g' := (mkF m 3 #[.val (.ref a1), .val (.ref p2), .val (.int (8 : Int32)), .unset] [(.int (8 : Int32))])) (fun _ k => Jvm.Free.XS.iloadN (g := (mkF m 2 #[.val (.ref a1), .val (.ref p2), .val (.int (8 : Int32)), .unset] [])) X17.here hx rfl (hb hby d6_2) rfl k) ?_
          refine own_st (T' := T17) (g' := (mkF m 4 #[.val (.ref a1), .val (.ref p2), .val (.int (8 : Int32)), .unset] [(.ref a1), (.int (8 : Int32))])) (fun _ k => Jvm.Free.XS.aloadN (g := (mkF m 3 #[.val (.ref a1), .val (.ref p2), .val (.int (8 : Int32)), .unset] [(.int (8 : Int32))])) X17.here hx rfl (hb hby d6_3) rfl rfl k) ?_
          obtain ⟨T21, X21, e21, st21⟩ := getF X17 hx hZ hown (host := "") (Or.inl (hw _ (List.mem_of_getElem? (i := 50) rfl))) Via.refl e17 F_s (g := (mkF m 4 #[.val (.ref a1), .val (.ref p2), .val (.int (8 : Int32)), .unset] [(.ref a1), (.int (8 : Int32))])) rfl rfl (hb hby d6_4)
          refine own_st (T' := T21) (g' := (mkF m 7 #[.val (.ref a1), .val (.ref p2), .val (.int (8 : Int32)), .unset] [(.int (8 : Int32)), (.int (8 : Int32))])) (fun _ k => (st21) _ k) ?_
          refine own_st (T' := T21) (g' := (mkF m 37 #[.val (.ref a1), .val (.ref p2), .val (.int (8 : Int32)), .unset] [])) (fun _ k => XS.icmpYes (g := (mkF m 7 #[.val (.ref a1), .val (.ref p2), .val (.int (8 : Int32)), .unset] [(.int (8 : Int32)), (.int (8 : Int32))])) X21.here hx rfl (pc0 := 7) (pc' := 37) rfl (hb hby d6_7) rfl (flt (by decide : ¬ ((8 : Int32) < (8 : Int32)))).2.1 (by decide) (by decide) k) ?_
          refine own_st (T' := T21) (g' := (mkF m 38 #[.val (.ref a1), .val (.ref p2), .val (.int (8 : Int32)), .unset] [.null])) (fun _ k => XS.aconstNull (g := (mkF m 37 #[.val (.ref a1), .val (.ref p2), .val (.int (8 : Int32)), .unset] [])) X21.here hx rfl (hb hby d6_37) k) ?_
          exact own_end (Q := Q6_4 Z a1 p2 en ke k0 k1 k2 k3 r0 r1 r2 r3 h0 n0) (v := some .null) X21 (fun h => by rw [Bd.returns] at h; cases h) (fun fs hr => X21.areturnOut hx rfl Bd.returns rfl (hb hby d6_38) hr) (⟨_, rfl, hf.symm, N0, e21⟩) (by decide) (by decide)
theorem d7_0 : decode method_2_code 0 = .ok (.iload_n 0, 1) := by decide +kernel
theorem d7_1 : decode method_2_code 1 = .ok (.iload_n 1, 1) := by decide +kernel
theorem d7_2 : decode method_2_code 2 = .ok (.if_icmp .ge 7, 3) := by decide +kernel
theorem d7_5 : decode method_2_code 5 = .ok (.aload_n 2, 1) := by decide +kernel
theorem d7_6 : decode method_2_code 6 = .ok (.iload_n 0, 1) := by decide +kernel
theorem d7_7 : decode method_2_code 7 = .ok (.aaload, 1) := by decide +kernel
theorem d7_8 : decode method_2_code 8 = .ok (.areturn, 1) := by decide +kernel
theorem d7_9 : decode method_2_code 9 = .ok (.aconst_null, 1) := by decide +kernel
theorem d7_10 : decode method_2_code 10 = .ok (.areturn, 1) := by decide +kernel
theorem own_pn7 : plainName "com/example/hollow_tree/hollowtree/query/IdentityTableGetPinLaw" = true := by first | (simp [plainName, overriddenIn]; done) | decide +kernel
theorem own_ef7 (m : MethodId) (x0 : Int32) (x1 : Int32) (x2 : Addr) : entryFrame m #[(.int x0), (.int x1), (.ref x2)] 3 = mkF m 0 #[.val (.int x0), .val (.int x1), .val (.ref x2)] [] := by first | (simp [entryFrame, mkF, argsToLocals, Value.category]; done) | rfl
def Q7 (Z : State) (p1 : Int32) (p2 : Int32) (a3 : Addr) (ka : ClassId) (r0 r1 r2 r3 : Value) (h0 : Heap) (n0 : Nat) (v : Option Value) (h : Heap) (L : List Loc) : Prop := ∃ r, v = some r ∧ r = own_ex p1 p2 [r0, r1, r2, r3] ∧ own_Rf r ∧ Fr n0 L ∧ h = h0
set_option maxRecDepth 65536 in
set_option maxHeartbeats 40000000 in
theorem rm7 (l : Launch) (Z : State) (a0 : Array Value) (hw : ∀ d ∈ tables_1, d.before a0 Z = true) (ws : List Jvm.Cond) (p1 : Int32) (p2 : Int32) (a3 : Addr) (ka : ClassId) (r0 r1 r2 r3 : Value) (h0 : Heap) (n0 : Nat) (Z0 : n0 ≤ h0.size) (V_a3 : Arv Z h0 a3 ka (.array .int) (4 : Int32) [r0, r1, r2, r3] .null)  (hall : ∀ v ∈ ([r0, r1, r2, r3] : List Value), own_Rf v) (hq : p1 < p2 → ¬ p1 < 0 ∧ p1 < 4) :
    MetFree l (⟨"com/example/hollow_tree/hollowtree/query/IdentityTableGetPinLaw", "expect", "(II[[I)[I"⟩ : MethodName) (head1 (Jvm.Cond.code (⟨"com/example/hollow_tree/hollowtree/query/IdentityTableGetPinLaw", "expect", "(II[[I)[I"⟩ : MethodName) method_2_code 3 (some (.array .int)) :: ws) ({ frames := 0, cells := 0, slots := 0, locals := 0 } : Room)) (fun a U => a = #[(.int p1), (.int p2), (.ref a3)] ∧ Z.Warmed39 U.vm ∧ U.heap = h0) (fun _ _ _ _ _ => True) (fun _ U o U' => ∃ v L, o = .returned v ∧ Q7 Z p1 p2 a3 ka r0 r1 r2 r3 h0 n0 v U'.heap L ∧ FrameEnd U o U' L ({ frames := 0, cells := 0, slots := 0, locals := 0 } : Room).cells ({ frames := 0, cells := 0, slots := 0, locals := 0 } : Room).slots) := by
  refine MetFree.of_bodySF (plainFor_of_name own_pn7) hisR ?_
  intro p e s m args below meth c s₁ Bd hml0 hP hK
  obtain ⟨rfl, hZ, hh⟩ := hP
  have hx := Bd.exec
  have hby := Bd.bytes
  have hml : c.maxLocals = 3 := hml0
  have hown : s.vm.findClass "com/example/hollow_tree/hollowtree/query/IdentityTableGetPinLaw" = some m.cls := findClass_of_methodNamed Bd.named
  have hnm := (name_of_methodNamed Bd.named Bd.method).1
  have hlk := Bd.notSynchronized
  have X0 : Stand p l e ({ frames := 0, cells := 0, slots := 0, locals := 0 } : Room) s m #[(.int p1), (.int p2), (.ref a3)] below meth c s₁ [] 0 0 := Stand.of_body Bd
  have e0 : s₁.heap = h0 := by rw [← hh, Bd.state]; rfl
  have N0 := Fr.nil n0
  show own_Goes p e below (fun o U' => ∃ v L, o = .returned v ∧ Q7 Z p1 p2 a3 ka r0 r1 r2 r3 h0 n0 v U'.heap L ∧ FrameEnd s o U' L ({ frames := 0, cells := 0, slots := 0, locals := 0 } : Room).cells ({ frames := 0, cells := 0, slots := 0, locals := 0 } : Room).slots) s₁ (entryFrame m #[(.int p1), (.int p2), (.ref a3)] 3)
  refine own_st (T' := s₁) (g' := mkF m 0 #[.val (.int p1), .val (.int p2), .val (.ref a3)] []) (fun _ k => castTop (own_ef7 m p1 p2 a3) k) ?_
  have hf : own_ex p1 p2 [r0, r1, r2, r3] = own_ex p1 p2 [r0, r1, r2, r3] := rfl
  refine own_st (T' := s₁) (g' := (mkF m 1 #[.val (.int p1), .val (.int p2), .val (.ref a3)] [(.int p1)])) (fun _ k => Jvm.Free.XS.iloadN (g := (mkF m 0 #[.val (.int p1), .val (.int p2), .val (.ref a3)] [])) X0.here hx rfl (hb hby d7_0) rfl k) ?_
  refine own_st (T' := s₁) (g' := (mkF m 2 #[.val (.int p1), .val (.int p2), .val (.ref a3)] [(.int p2), (.int p1)])) (fun _ k => Jvm.Free.XS.iloadN (g := (mkF m 1 #[.val (.int p1), .val (.int p2), .val (.ref a3)] [(.int p1)])) X0.here hx rfl (hb hby d7_1) rfl k) ?_
  by_cases hc2 : p1 < p2
  · have hf := hf.trans (if_pos hc2)
    refine own_st (T' := s₁) (g' := (mkF m 5 #[.val (.int p1), .val (.int p2), .val (.ref a3)] [])) (fun _ k => XS.icmpNo (g := (mkF m 2 #[.val (.int p1), .val (.int p2), .val (.ref a3)] [(.int p2), (.int p1)])) X0.here hx rfl (hb hby d7_2) rfl (tlt hc2).2.1 k) ?_
    refine own_st (T' := s₁) (g' := (mkF m 6 #[.val (.int p1), .val (.int p2), .val (.ref a3)] [(.ref a3)])) (fun _ k => Jvm.Free.XS.aloadN (g := (mkF m 5 #[.val (.int p1), .val (.int p2), .val (.ref a3)] [])) X0.here hx rfl (hb hby d7_5) rfl rfl k) ?_
    refine own_st (T' := s₁) (g' := (mkF m 7 #[.val (.int p1), .val (.int p2), .val (.ref a3)] [(.int p1), (.ref a3)])) (fun _ k => Jvm.Free.XS.iloadN (g := (mkF m 6 #[.val (.int p1), .val (.int p2), .val (.ref a3)] [(.ref a3)])) X0.here hx rfl (hb hby d7_6) rfl k) ?_
    obtain ⟨cl1, Ar1, -, Sz1, Nn1, Hs1, Gs1⟩ := id V_a3
    obtain ⟨rq, hrq⟩ : ∃ r, r = ([r0, r1, r2, r3] : List Value).getD p1.toNatClampNeg .null := ⟨_, rfl⟩
    have hrf : own_Rf rq := by rw [hrq]; exact own_getRf _ _ hall
    have hin1 : ¬ (p1 < 0 ∨ cl1.slots.size ≤ (p1).toNatClampNeg) := inb_of Sz1 (hq hc2)
    have hat1 : cl1.slots[(p1).toNatClampNeg]? = some rq := Has.at Hs1 hin1 hrq.symm
    refine own_st (T' := s₁) (g' := (mkF m 8 #[.val (.int p1), .val (.int p2), .val (.ref a3)] [rq])) (fun _ k => (X0.aaload hx (j := p1) (v := rq) (by rw [e0]; exact Ar1.1) (State.isArrayOf_alike hZ.alike Ar1.2.1) rfl Ar1.2.2 hin1 hat1 (g := (mkF m 7 #[.val (.int p1), .val (.int p2), .val (.ref a3)] [(.int p1), (.ref a3)])) rfl rfl (hb hby d7_7)) _ k) ?_
    exact own_end (Q := Q7 Z p1 p2 a3 ka r0 r1 r2 r3 h0 n0) (v := some rq) X0 (fun h => by rw [Bd.returns] at h; cases h) (fun fs hr => X0.areturnOut hx (hrf).isRef Bd.returns rfl (hb hby d7_8) hr) (⟨_, rfl, hrq.trans hf.symm, hrf, N0, e0⟩) (by decide) (by decide)
  · have hf := hf.trans (if_neg hc2)
    refine own_st (T' := s₁) (g' := (mkF m 9 #[.val (.int p1), .val (.int p2), .val (.ref a3)] [])) (fun _ k => XS.icmpYes (g := (mkF m 2 #[.val (.int p1), .val (.int p2), .val (.ref a3)] [(.int p2), (.int p1)])) X0.here hx rfl (pc0 := 2) (pc' := 9) rfl (hb hby d7_2) rfl (flt hc2).2.1 (by decide) (by decide) k) ?_
    refine own_st (T' := s₁) (g' := (mkF m 10 #[.val (.int p1), .val (.int p2), .val (.ref a3)] [.null])) (fun _ k => XS.aconstNull (g := (mkF m 9 #[.val (.int p1), .val (.int p2), .val (.ref a3)] [])) X0.here hx rfl (hb hby d7_9) k) ?_
    exact own_end (Q := Q7 Z p1 p2 a3 ka r0 r1 r2 r3 h0 n0) (v := some .null) X0 (fun h => by rw [Bd.returns] at h; cases h) (fun fs hr => X0.areturnOut hx rfl Bd.returns rfl (hb hby d7_10) hr) (⟨_, rfl, hf.symm, Or.inl rfl, N0, e0⟩) (by decide) (by decide)
theorem own_same0 (q : Int32) (hq : q = 0 ∨ q = 1 ∨ q = 2 ∨ q = 3 ∨ q = 4) (k0 k1 k2 k3 k4 : Addr) (r0 r1 r2 r3 : Value) (h01 : k0 ≠ k1) (h02 : k0 ≠ k2) (h03 : k0 ≠ k3) (h04 : k0 ≠ k4) (h12 : k1 ≠ k2) (h13 : k1 ≠ k3) (h14 : k1 ≠ k4) (h23 : k2 ≠ k3) (h24 : k2 ≠ k4) (h34 : k3 ≠ k4) : own_lk [] (([k0, k1, k2, k3, k4] : List Addr).getD q.toNatClampNeg 0) = own_ex q (0 : Int32) [r0, r1, r2, r3] := by
  rcases hq with rfl | rfl | rfl | rfl | rfl
  · exact (show own_lk ([] : List (Addr × Value)) k0 = .null from rfl).trans (show own_ex (0 : Int32) (0 : Int32) [r0, r1, r2, r3] = .null from (if_neg (by decide)).trans rfl).symm
  · exact (show own_lk ([] : List (Addr × Value)) k1 = .null from rfl).trans (show own_ex (1 : Int32) (0 : Int32) [r0, r1, r2, r3] = .null from (if_neg (by decide)).trans rfl).symm
  · exact (show own_lk ([] : List (Addr × Value)) k2 = .null from rfl).trans (show own_ex (2 : Int32) (0 : Int32) [r0, r1, r2, r3] = .null from (if_neg (by decide)).trans rfl).symm
  · exact (show own_lk ([] : List (Addr × Value)) k3 = .null from rfl).trans (show own_ex (3 : Int32) (0 : Int32) [r0, r1, r2, r3] = .null from (if_neg (by decide)).trans rfl).symm
  · exact (show own_lk ([] : List (Addr × Value)) k4 = .null from rfl).trans (show own_ex (4 : Int32) (0 : Int32) [r0, r1, r2, r3] = .null from (if_neg (by decide)).trans rfl).symm
theorem own_same1 (q : Int32) (hq : q = 0 ∨ q = 1 ∨ q = 2 ∨ q = 3 ∨ q = 4) (k0 k1 k2 k3 k4 : Addr) (r0 r1 r2 r3 : Value) (h01 : k0 ≠ k1) (h02 : k0 ≠ k2) (h03 : k0 ≠ k3) (h04 : k0 ≠ k4) (h12 : k1 ≠ k2) (h13 : k1 ≠ k3) (h14 : k1 ≠ k4) (h23 : k2 ≠ k3) (h24 : k2 ≠ k4) (h34 : k3 ≠ k4) : own_lk [(k0, r0)] (([k0, k1, k2, k3, k4] : List Addr).getD q.toNatClampNeg 0) = own_ex q (1 : Int32) [r0, r1, r2, r3] := by
  rcases hq with rfl | rfl | rfl | rfl | rfl
  · exact (show own_lk [(k0, r0)] k0 = r0 from (if_pos rfl).trans (rfl)).trans (show own_ex (0 : Int32) (1 : Int32) [r0, r1, r2, r3] = r0 from (if_pos (by decide)).trans rfl).symm
  · exact (show own_lk [(k0, r0)] k1 = .null from (if_neg h01).trans (rfl)).trans (show own_ex (1 : Int32) (1 : Int32) [r0, r1, r2, r3] = .null from (if_neg (by decide)).trans rfl).symm
  · exact (show own_lk [(k0, r0)] k2 = .null from (if_neg h02).trans (rfl)).trans (show own_ex (2 : Int32) (1 : Int32) [r0, r1, r2, r3] = .null from (if_neg (by decide)).trans rfl).symm
  · exact (show own_lk [(k0, r0)] k3 = .null from (if_neg h03).trans (rfl)).trans (show own_ex (3 : Int32) (1 : Int32) [r0, r1, r2, r3] = .null from (if_neg (by decide)).trans rfl).symm
  · exact (show own_lk [(k0, r0)] k4 = .null from (if_neg h04).trans (rfl)).trans (show own_ex (4 : Int32) (1 : Int32) [r0, r1, r2, r3] = .null from (if_neg (by decide)).trans rfl).symm
theorem own_same2 (q : Int32) (hq : q = 0 ∨ q = 1 ∨ q = 2 ∨ q = 3 ∨ q = 4) (k0 k1 k2 k3 k4 : Addr) (r0 r1 r2 r3 : Value) (h01 : k0 ≠ k1) (h02 : k0 ≠ k2) (h03 : k0 ≠ k3) (h04 : k0 ≠ k4) (h12 : k1 ≠ k2) (h13 : k1 ≠ k3) (h14 : k1 ≠ k4) (h23 : k2 ≠ k3) (h24 : k2 ≠ k4) (h34 : k3 ≠ k4) : own_lk [(k0, r0), (k1, r1)] (([k0, k1, k2, k3, k4] : List Addr).getD q.toNatClampNeg 0) = own_ex q (2 : Int32) [r0, r1, r2, r3] := by
  rcases hq with rfl | rfl | rfl | rfl | rfl
  · exact (show own_lk [(k0, r0), (k1, r1)] k0 = r0 from (if_pos rfl).trans (rfl)).trans (show own_ex (0 : Int32) (2 : Int32) [r0, r1, r2, r3] = r0 from (if_pos (by decide)).trans rfl).symm
  · exact (show own_lk [(k0, r0), (k1, r1)] k1 = r1 from (if_neg h01).trans ((if_pos rfl).trans (rfl))).trans (show own_ex (1 : Int32) (2 : Int32) [r0, r1, r2, r3] = r1 from (if_pos (by decide)).trans rfl).symm
  · exact (show own_lk [(k0, r0), (k1, r1)] k2 = .null from (if_neg h02).trans ((if_neg h12).trans (rfl))).trans (show own_ex (2 : Int32) (2 : Int32) [r0, r1, r2, r3] = .null from (if_neg (by decide)).trans rfl).symm
  · exact (show own_lk [(k0, r0), (k1, r1)] k3 = .null from (if_neg h03).trans ((if_neg h13).trans (rfl))).trans (show own_ex (3 : Int32) (2 : Int32) [r0, r1, r2, r3] = .null from (if_neg (by decide)).trans rfl).symm
  · exact (show own_lk [(k0, r0), (k1, r1)] k4 = .null from (if_neg h04).trans ((if_neg h14).trans (rfl))).trans (show own_ex (4 : Int32) (2 : Int32) [r0, r1, r2, r3] = .null from (if_neg (by decide)).trans rfl).symm
theorem own_same3 (q : Int32) (hq : q = 0 ∨ q = 1 ∨ q = 2 ∨ q = 3 ∨ q = 4) (k0 k1 k2 k3 k4 : Addr) (r0 r1 r2 r3 : Value) (h01 : k0 ≠ k1) (h02 : k0 ≠ k2) (h03 : k0 ≠ k3) (h04 : k0 ≠ k4) (h12 : k1 ≠ k2) (h13 : k1 ≠ k3) (h14 : k1 ≠ k4) (h23 : k2 ≠ k3) (h24 : k2 ≠ k4) (h34 : k3 ≠ k4) : own_lk [(k0, r0), (k1, r1), (k2, r2)] (([k0, k1, k2, k3, k4] : List Addr).getD q.toNatClampNeg 0) = own_ex q (3 : Int32) [r0, r1, r2, r3] := by
  rcases hq with rfl | rfl | rfl | rfl | rfl
  · exact (show own_lk [(k0, r0), (k1, r1), (k2, r2)] k0 = r0 from (if_pos rfl).trans (rfl)).trans (show own_ex (0 : Int32) (3 : Int32) [r0, r1, r2, r3] = r0 from (if_pos (by decide)).trans rfl).symm
  · exact (show own_lk [(k0, r0), (k1, r1), (k2, r2)] k1 = r1 from (if_neg h01).trans ((if_pos rfl).trans (rfl))).trans (show own_ex (1 : Int32) (3 : Int32) [r0, r1, r2, r3] = r1 from (if_pos (by decide)).trans rfl).symm
  · exact (show own_lk [(k0, r0), (k1, r1), (k2, r2)] k2 = r2 from (if_neg h02).trans ((if_neg h12).trans ((if_pos rfl).trans (rfl)))).trans (show own_ex (2 : Int32) (3 : Int32) [r0, r1, r2, r3] = r2 from (if_pos (by decide)).trans rfl).symm
  · exact (show own_lk [(k0, r0), (k1, r1), (k2, r2)] k3 = .null from (if_neg h03).trans ((if_neg h13).trans ((if_neg h23).trans (rfl)))).trans (show own_ex (3 : Int32) (3 : Int32) [r0, r1, r2, r3] = .null from (if_neg (by decide)).trans rfl).symm
  · exact (show own_lk [(k0, r0), (k1, r1), (k2, r2)] k4 = .null from (if_neg h04).trans ((if_neg h14).trans ((if_neg h24).trans (rfl)))).trans (show own_ex (4 : Int32) (3 : Int32) [r0, r1, r2, r3] = .null from (if_neg (by decide)).trans rfl).symm
theorem own_same4 (q : Int32) (hq : q = 0 ∨ q = 1 ∨ q = 2 ∨ q = 3 ∨ q = 4) (k0 k1 k2 k3 k4 : Addr) (r0 r1 r2 r3 : Value) (h01 : k0 ≠ k1) (h02 : k0 ≠ k2) (h03 : k0 ≠ k3) (h04 : k0 ≠ k4) (h12 : k1 ≠ k2) (h13 : k1 ≠ k3) (h14 : k1 ≠ k4) (h23 : k2 ≠ k3) (h24 : k2 ≠ k4) (h34 : k3 ≠ k4) : own_lk [(k0, r0), (k1, r1), (k2, r2), (k3, r3)] (([k0, k1, k2, k3, k4] : List Addr).getD q.toNatClampNeg 0) = own_ex q (4 : Int32) [r0, r1, r2, r3] := by
  rcases hq with rfl | rfl | rfl | rfl | rfl
  · exact (show own_lk [(k0, r0), (k1, r1), (k2, r2), (k3, r3)] k0 = r0 from (if_pos rfl).trans (rfl)).trans (show own_ex (0 : Int32) (4 : Int32) [r0, r1, r2, r3] = r0 from (if_pos (by decide)).trans rfl).symm
  · exact (show own_lk [(k0, r0), (k1, r1), (k2, r2), (k3, r3)] k1 = r1 from (if_neg h01).trans ((if_pos rfl).trans (rfl))).trans (show own_ex (1 : Int32) (4 : Int32) [r0, r1, r2, r3] = r1 from (if_pos (by decide)).trans rfl).symm
  · exact (show own_lk [(k0, r0), (k1, r1), (k2, r2), (k3, r3)] k2 = r2 from (if_neg h02).trans ((if_neg h12).trans ((if_pos rfl).trans (rfl)))).trans (show own_ex (2 : Int32) (4 : Int32) [r0, r1, r2, r3] = r2 from (if_pos (by decide)).trans rfl).symm
  · exact (show own_lk [(k0, r0), (k1, r1), (k2, r2), (k3, r3)] k3 = r3 from (if_neg h03).trans ((if_neg h13).trans ((if_neg h23).trans ((if_pos rfl).trans (rfl))))).trans (show own_ex (3 : Int32) (4 : Int32) [r0, r1, r2, r3] = r3 from (if_pos (by decide)).trans rfl).symm
  · exact (show own_lk [(k0, r0), (k1, r1), (k2, r2), (k3, r3)] k4 = .null from (if_neg h04).trans ((if_neg h14).trans ((if_neg h24).trans ((if_neg h34).trans (rfl))))).trans (show own_ex (4 : Int32) (4 : Int32) [r0, r1, r2, r3] = .null from (if_neg (by decide)).trans rfl).symm
theorem own_five (z : Int32) (h0 : 0 ≤ z.toInt) (h1 : z.toInt < 5) : z = 0 ∨ z = 1 ∨ z = 2 ∨ z = 3 ∨ z = 4 := by
  have e0 : (0 : Int32).toInt = 0 := rfl
  have e1 : (1 : Int32).toInt = 1 := rfl
  have e2 : (2 : Int32).toInt = 2 := rfl
  have e3 : (3 : Int32).toInt = 3 := rfl
  have e4 : (4 : Int32).toInt = 4 := rfl
  simp only [← Int32.toInt_inj, e0, e1, e2, e3, e4]
  omega
theorem own_rem5 (x m : Int32) (hm : 0 ≤ m.toInt) : 0 ≤ ((x &&& m) - ((x &&& m) / (5 : Int32)) * (5 : Int32)).toInt ∧ ((x &&& m) - ((x &&& m) / (5 : Int32)) * (5 : Int32)).toInt < 5 :=
  (own_rem _ (5 : Int32) (c_and x m hm).1 (by decide)).2
theorem own_q5 (z : Int32) (h : z = 0 ∨ z = 1 ∨ z = 2 ∨ z = 3 ∨ z = 4) : (¬ z < 0 ∧ z < 5) ∧ z.toNatClampNeg < 5 := by
  rcases h with rfl | rfl | rfl | rfl | rfl <;> decide
theorem own_qn (z n : Int32) (h : z = 0 ∨ z = 1 ∨ z = 2 ∨ z = 3 ∨ z = 4) (hn : n = 0 ∨ n = 1 ∨ n = 2 ∨ n = 3 ∨ n = 4) : z < n → ¬ z < 0 ∧ z < 4 := by
  rcases h with rfl | rfl | rfl | rfl | rfl <;> rcases hn with rfl | rfl | rfl | rfl | rfl <;> decide
theorem own_empty {args : Array Value} {s : State} {t : Term} {x : Addr} {c : Cell} {ty : FieldType} (hf : Fit s) (ev : t.eval args s none [] s = some (.ref x)) (A : Arr s s.heap x c ty) (h : (Jvm.Cond.eq (Term.length t) (Term.int (0 : Int32))).value args s none s [] = some true) : Arv s s.heap x c.cls ty (0 : Int32) [] .null := by
  have h1 := eqv_i (Term.int_eval (0 : Int32)) h
  have ha : s.arrayAt? x = some c := Arr.fin (Vm.Alike.refl _) A
  simp [Term.eval, ev, ha] at h1
  exact Arv.start hf A (by simpa using h1.1) h1.2 (by decide) rfl trivial
theorem own_pn0 : plainName "com/example/hollow_tree/hollowtree/query/IdentityTableGetPinLaw" = true := by first | (simp [plainName, overriddenIn]; done) | decide +kernel
theorem own_pd0_0 : parseMethodDescriptor "()V" = some ⟨[], none⟩ := by decide +kernel
theorem own_pd0_1 : parseMethodDescriptor "(Ljava/lang/Object;)Ljava/lang/Object;" = some ⟨[(.object "java/lang/Object")], some (.object "java/lang/Object")⟩ := by decide +kernel
theorem own_pd0_2 : parseMethodDescriptor "(II[[I)[I" = some ⟨[.int, .int, (.array (.array .int))], some (.array .int)⟩ := by decide +kernel
theorem own_pd0_3 : parseMethodDescriptor "(Ljava/lang/Object;Ljava/lang/Object;)V" = some ⟨[(.object "java/lang/Object"), (.object "java/lang/Object")], none⟩ := by decide +kernel
theorem own_ef0 (m : MethodId) (x0 : Int32) (x1 : Int32) (x2 : Int32) (x3 : Int32) : entryFrame m #[(.int x0), (.int x1), (.int x2), (.int x3)] maxLocals = mkF m 0 #[.val (.int x0), .val (.int x1), .val (.int x2), .val (.int x3), .unset, .unset, .unset, .unset, .unset, .unset, .unset, .unset, .unset, .unset, .unset, .unset, .unset] [] := by first | (simp [entryFrame, mkF, argsToLocals, Value.category, maxLocals]; done) | rfl
def Q0 (Z : State) (p1 : Int32) (p2 : Int32) (p3 : Int32) (p4 : Int32) (h0 : Heap) (n0 : Nat) (v : Option Value) (h : Heap) (L : List Loc) : Prop := v = some (.int 1) ∧ Fr n0 L
set_option maxRecDepth 65536 in
set_option maxHeartbeats 40000000 in
theorem rm0 (l : Launch) (Z : State) (a0 : Array Value) (hw : ∀ d ∈ tables_1, d.before a0 Z = true) (ws : List Jvm.Cond) (p1 : Int32) (p2 : Int32) (p3 : Int32) (p4 : Int32) (ed no mr : Addr) (kN : ClassId) (h0 : Heap) (n0 : Nat) (Z0 : n0 ≤ h0.size) (S_d : Sta Z h0 "java/util/ArrayList" "DEFAULTCAPACITY_EMPTY_ELEMENTDATA" "[Ljava/lang/Object;" (.ref ed)) (S_n : Sta Z h0 "com/example/hollow_tree/hollowtree/query/IdentityTable" "NONE" "[Ljava/lang/Object;" (.ref no)) (V_no : Arv Z h0 no kN (.object "java/lang/Object") (0 : Int32) [] .null) (E_no : Exa Z h0 no "[Ljava/lang/Object;") (Mm : own_Mm Z "[Ljava/lang/Object;" mr) :
    MetFree l x (head1 (Jvm.Cond.code x code maxLocals ret :: ws) room_1) (fun a U => a = #[(.int p1), (.int p2), (.int p3), (.int p4)] ∧ Z.Warmed39 U.vm ∧ U.heap = h0) (fun _ _ _ _ _ => True) (fun _ U o U' => ∃ v L, o = .returned v ∧ Q0 Z p1 p2 p3 p4 h0 n0 v U'.heap L ∧ FrameEnd U o U' L room_1.cells room_1.slots) := by
  refine MetFree.of_bodySF (plainFor_of_name own_pn0) hisR ?_
  intro p e s m args below meth c s₁ Bd hml0 hP hK
  obtain ⟨rfl, hZ, hh⟩ := hP
  have hx := Bd.exec
  have hby := Bd.bytes
  have hml : c.maxLocals = 17 := hml0
  have hown : s.vm.findClass "com/example/hollow_tree/hollowtree/query/IdentityTableGetPinLaw" = some m.cls := findClass_of_methodNamed Bd.named
  have hnm := (name_of_methodNamed Bd.named Bd.method).1
  have hlk := Bd.notSynchronized
  have X0 : Stand p l e room_1 s m #[(.int p1), (.int p2), (.int p3), (.int p4)] below meth c s₁ [] 0 0 := Stand.of_body Bd
  have e0 : s₁.heap = h0 := by rw [← hh, Bd.state]; rfl
  have N0 := Fr.nil n0
  show own_Goes p e below (fun o U' => ∃ v L, o = .returned v ∧ Q0 Z p1 p2 p3 p4 h0 n0 v U'.heap L ∧ FrameEnd s o U' L room_1.cells room_1.slots) s₁ (entryFrame m #[(.int p1), (.int p2), (.int p3), (.int p4)] maxLocals)
  refine own_st (T' := s₁) (g' := mkF m 0 #[.val (.int p1), .val (.int p2), .val (.int p3), .val (.int p4), .unset, .unset, .unset, .unset, .unset, .unset, .unset, .unset, .unset, .unset, .unset, .unset, .unset] []) (fun _ k => castTop (own_ef0 m p1 p2 p3 p4) k) ?_
  refine own_st (T' := s₁) (g' := (mkF m 1 #[.val (.int p1), .val (.int p2), .val (.int p3), .val (.int p4), .unset, .unset, .unset, .unset, .unset, .unset, .unset, .unset, .unset, .unset, .unset, .unset, .unset] [(.int p1)])) (fun _ k => Jvm.Free.XS.iloadN (g := (mkF m 0 #[.val (.int p1), .val (.int p2), .val (.int p3), .val (.int p4), .unset, .unset, .unset, .unset, .unset, .unset, .unset, .unset, .unset, .unset, .unset, .unset, .unset] [])) X0.here hx rfl (hb hby at_0) rfl k) ?_
  refine own_st (T' := s₁) (g' := (mkF m 3 #[.val (.int p1), .val (.int p2), .val (.int p3), .val (.int p4), .unset, .unset, .unset, .unset, .unset, .unset, .unset, .unset, .unset, .unset, .unset, .unset, .unset] [(.int (2147483647 : Int32)), (.int p1)])) (fun _ k => (X0.ldcInt hx hown (mvT hZ (hw _ (List.mem_of_getElem? (i := 0) rfl))) (g := (mkF m 1 #[.val (.int p1), .val (.int p2), .val (.int p3), .val (.int p4), .unset, .unset, .unset, .unset, .unset, .unset, .unset, .unset, .unset, .unset, .unset, .unset, .unset] [(.int p1)])) rfl (hb hby at_1)) _ k) ?_
  refine own_st (T' := s₁) (g' := (mkF m 4 #[.val (.int p1), .val (.int p2), .val (.int p3), .val (.int p4), .unset, .unset, .unset, .unset, .unset, .unset, .unset, .unset, .unset, .unset, .unset, .unset, .unset] [(.int (p1 &&& (2147483647 : Int32)))])) (fun _ k => Jvm.Free.XS.iand (g := (mkF m 3 #[.val (.int p1), .val (.int p2), .val (.int p3), .val (.int p4), .unset, .unset, .unset, .unset, .unset, .unset, .unset, .unset, .unset, .unset, .unset, .unset, .unset] [(.int (2147483647 : Int32)), (.int p1)])) X0.here hx rfl (hb hby at_3) rfl k) ?_
  refine own_st (T' := s₁) (g' := (mkF m 5 #[.val (.int p1), .val (.int p2), .val (.int p3), .val (.int p4), .unset, .unset, .unset, .unset, .unset, .unset, .unset, .unset, .unset, .unset, .unset, .unset, .unset] [(.int (5 : Int32)), (.int (p1 &&& (2147483647 : Int32)))])) (fun _ k => XS.iconst (g := (mkF m 4 #[.val (.int p1), .val (.int p2), .val (.int p3), .val (.int p4), .unset, .unset, .unset, .unset, .unset, .unset, .unset, .unset, .unset, .unset, .unset, .unset, .unset] [(.int (p1 &&& (2147483647 : Int32)))])) X0.here hx rfl (hb hby at_4) k) ?_
  refine own_st (T' := s₁) (g' := (mkF m 6 #[.val (.int p1), .val (.int p2), .val (.int p3), .val (.int p4), .unset, .unset, .unset, .unset, .unset, .unset, .unset, .unset, .unset, .unset, .unset, .unset, .unset] [(.int ((p1 &&& (2147483647 : Int32)) - ((p1 &&& (2147483647 : Int32)) / (5 : Int32)) * (5 : Int32)))])) (fun _ k => XS.irem (g := (mkF m 5 #[.val (.int p1), .val (.int p2), .val (.int p3), .val (.int p4), .unset, .unset, .unset, .unset, .unset, .unset, .unset, .unset, .unset, .unset, .unset, .unset, .unset] [(.int (5 : Int32)), (.int (p1 &&& (2147483647 : Int32)))])) X0.here hx rfl (hb hby at_5) rfl (by decide) k) ?_
  generalize hz6 : ((p1 &&& (2147483647 : Int32)) - ((p1 &&& (2147483647 : Int32)) / (5 : Int32)) * (5 : Int32)) = z6
  refine own_st (T' := s₁) (g' := (mkF m 8 #[.val (.int p1), .val (.int p2), .val (.int p3), .val (.int p4), .val (.int z6), .unset, .unset, .unset, .unset, .unset, .unset, .unset, .unset, .unset, .unset, .unset, .unset] [])) (fun _ k => Jvm.Free.XS.istore (g := (mkF m 6 #[.val (.int p1), .val (.int p2), .val (.int p3), .val (.int p4), .unset, .unset, .unset, .unset, .unset, .unset, .unset, .unset, .unset, .unset, .unset, .unset, .unset] [(.int z6)])) X0.here hx rfl (hb hby at_6) rfl (l' := #[.val (.int p1), .val (.int p2), .val (.int p3), .val (.int p4), .val (.int z6), .unset, .unset, .unset, .unset, .unset, .unset, .unset, .unset, .unset, .unset, .unset, .unset]) rfl k) ?_
  refine own_st (T' := s₁) (g' := (mkF m 9 #[.val (.int p1), .val (.int p2), .val (.int p3), .val (.int p4), .val (.int z6), .unset, .unset, .unset, .unset, .unset, .unset, .unset, .unset, .unset, .unset, .unset, .unset] [(.int p2)])) (fun _ k => Jvm.Free.XS.iloadN (g := (mkF m 8 #[.val (.int p1), .val (.int p2), .val (.int p3), .val (.int p4), .val (.int z6), .unset, .unset, .unset, .unset, .unset, .unset, .unset, .unset, .unset, .unset, .unset, .unset] [])) X0.here hx rfl (hb hby at_8) rfl k) ?_
  refine own_st (T' := s₁) (g' := (mkF m 12 #[.val (.int p1), .val (.int p2), .val (.int p3), .val (.int p4), .val (.int z6), .unset, .unset, .unset, .unset, .unset, .unset, .unset, .unset, .unset, .unset, .unset, .unset] [(.int (32767 : Int32)), (.int p2)])) (fun _ k => XS.sipush (g := (mkF m 9 #[.val (.int p1), .val (.int p2), .val (.int p3), .val (.int p4), .val (.int z6), .unset, .unset, .unset, .unset, .unset, .unset, .unset, .unset, .unset, .unset, .unset, .unset] [(.int p2)])) X0.here hx rfl (hb hby at_9) k) ?_
  refine own_st (T' := s₁) (g' := (mkF m 13 #[.val (.int p1), .val (.int p2), .val (.int p3), .val (.int p4), .val (.int z6), .unset, .unset, .unset, .unset, .unset, .unset, .unset, .unset, .unset, .unset, .unset, .unset] [(.int (p2 &&& (32767 : Int32)))])) (fun _ k => Jvm.Free.XS.iand (g := (mkF m 12 #[.val (.int p1), .val (.int p2), .val (.int p3), .val (.int p4), .val (.int z6), .unset, .unset, .unset, .unset, .unset, .unset, .unset, .unset, .unset, .unset, .unset, .unset] [(.int (32767 : Int32)), (.int p2)])) X0.here hx rfl (hb hby at_12) rfl k) ?_
  refine own_st (T' := s₁) (g' := (mkF m 14 #[.val (.int p1), .val (.int p2), .val (.int p3), .val (.int p4), .val (.int z6), .unset, .unset, .unset, .unset, .unset, .unset, .unset, .unset, .unset, .unset, .unset, .unset] [(.int (5 : Int32)), (.int (p2 &&& (32767 : Int32)))])) (fun _ k => XS.iconst (g := (mkF m 13 #[.val (.int p1), .val (.int p2), .val (.int p3), .val (.int p4), .val (.int z6), .unset, .unset, .unset, .unset, .unset, .unset, .unset, .unset, .unset, .unset, .unset, .unset] [(.int (p2 &&& (32767 : Int32)))])) X0.here hx rfl (hb hby at_13) k) ?_
  refine own_st (T' := s₁) (g' := (mkF m 15 #[.val (.int p1), .val (.int p2), .val (.int p3), .val (.int p4), .val (.int z6), .unset, .unset, .unset, .unset, .unset, .unset, .unset, .unset, .unset, .unset, .unset, .unset] [(.int ((p2 &&& (32767 : Int32)) - ((p2 &&& (32767 : Int32)) / (5 : Int32)) * (5 : Int32)))])) (fun _ k => XS.irem (g := (mkF m 14 #[.val (.int p1), .val (.int p2), .val (.int p3), .val (.int p4), .val (.int z6), .unset, .unset, .unset, .unset, .unset, .unset, .unset, .unset, .unset, .unset, .unset, .unset] [(.int (5 : Int32)), (.int (p2 &&& (32767 : Int32)))])) X0.here hx rfl (hb hby at_14) rfl (by decide) k) ?_
  generalize hz15 : ((p2 &&& (32767 : Int32)) - ((p2 &&& (32767 : Int32)) / (5 : Int32)) * (5 : Int32)) = z15
  refine own_st (T' := s₁) (g' := (mkF m 17 #[.val (.int p1), .val (.int p2), .val (.int p3), .val (.int p4), .val (.int z6), .val (.int z15), .unset, .unset, .unset, .unset, .unset, .unset, .unset, .unset, .unset, .unset, .unset] [])) (fun _ k => Jvm.Free.XS.istore (g := (mkF m 15 #[.val (.int p1), .val (.int p2), .val (.int p3), .val (.int p4), .val (.int z6), .unset, .unset, .unset, .unset, .unset, .unset, .unset, .unset, .unset, .unset, .unset, .unset] [(.int z15)])) X0.here hx rfl (hb hby at_15) rfl (l' := #[.val (.int p1), .val (.int p2), .val (.int p3), .val (.int p4), .val (.int z6), .val (.int z15), .unset, .unset, .unset, .unset, .unset, .unset, .unset, .unset, .unset, .unset, .unset]) rfl k) ?_
  refine own_st (T' := s₁) (g' := (mkF m 18 #[.val (.int p1), .val (.int p2), .val (.int p3), .val (.int p4), .val (.int z6), .val (.int z15), .unset, .unset, .unset, .unset, .unset, .unset, .unset, .unset, .unset, .unset, .unset] [(.int p2)])) (fun _ k => Jvm.Free.XS.iloadN (g := (mkF m 17 #[.val (.int p1), .val (.int p2), .val (.int p3), .val (.int p4), .val (.int z6), .val (.int z15), .unset, .unset, .unset, .unset, .unset, .unset, .unset, .unset, .unset, .unset, .unset] [])) X0.here hx rfl (hb hby at_17) rfl k) ?_
  refine own_st (T' := s₁) (g' := (mkF m 20 #[.val (.int p1), .val (.int p2), .val (.int p3), .val (.int p4), .val (.int z6), .val (.int z15), .unset, .unset, .unset, .unset, .unset, .unset, .unset, .unset, .unset, .unset, .unset] [(.int (16 : Int32)), (.int p2)])) (fun _ k => XS.bipush (g := (mkF m 18 #[.val (.int p1), .val (.int p2), .val (.int p3), .val (.int p4), .val (.int z6), .val (.int z15), .unset, .unset, .unset, .unset, .unset, .unset, .unset, .unset, .unset, .unset, .unset] [(.int p2)])) X0.here hx rfl (hb hby at_18) k) ?_
  refine own_st (T' := s₁) (g' := (mkF m 21 #[.val (.int p1), .val (.int p2), .val (.int p3), .val (.int p4), .val (.int z6), .val (.int z15), .unset, .unset, .unset, .unset, .unset, .unset, .unset, .unset, .unset, .unset, .unset] [(.int (((p2).toUInt32 >>> ((16 : Int32) &&& 31).toUInt32).toInt32))])) (fun _ k => Jvm.Free.XS.iushr (g := (mkF m 20 #[.val (.int p1), .val (.int p2), .val (.int p3), .val (.int p4), .val (.int z6), .val (.int z15), .unset, .unset, .unset, .unset, .unset, .unset, .unset, .unset, .unset, .unset, .unset] [(.int (16 : Int32)), (.int p2)])) X0.here hx rfl (hb hby at_20) rfl k) ?_
  refine own_st (T' := s₁) (g' := (mkF m 24 #[.val (.int p1), .val (.int p2), .val (.int p3), .val (.int p4), .val (.int z6), .val (.int z15), .unset, .unset, .unset, .unset, .unset, .unset, .unset, .unset, .unset, .unset, .unset] [(.int (32767 : Int32)), (.int (((p2).toUInt32 >>> ((16 : Int32) &&& 31).toUInt32).toInt32))])) (fun _ k => XS.sipush (g := (mkF m 21 #[.val (.int p1), .val (.int p2), .val (.int p3), .val (.int p4), .val (.int z6), .val (.int z15), .unset, .unset, .unset, .unset, .unset, .unset, .unset, .unset, .unset, .unset, .unset] [(.int (((p2).toUInt32 >>> ((16 : Int32) &&& 31).toUInt32).toInt32))])) X0.here hx rfl (hb hby at_21) k) ?_
  refine own_st (T' := s₁) (g' := (mkF m 25 #[.val (.int p1), .val (.int p2), .val (.int p3), .val (.int p4), .val (.int z6), .val (.int z15), .unset, .unset, .unset, .unset, .unset, .unset, .unset, .unset, .unset, .unset, .unset] [(.int ((((p2).toUInt32 >>> ((16 : Int32) &&& 31).toUInt32).toInt32) &&& (32767 : Int32)))])) (fun _ k => Jvm.Free.XS.iand (g := (mkF m 24 #[.val (.int p1), .val (.int p2), .val (.int p3), .val (.int p4), .val (.int z6), .val (.int z15), .unset, .unset, .unset, .unset, .unset, .unset, .unset, .unset, .unset, .unset, .unset] [(.int (32767 : Int32)), (.int (((p2).toUInt32 >>> ((16 : Int32) &&& 31).toUInt32).toInt32))])) X0.here hx rfl (hb hby at_24) rfl k) ?_
  refine own_st (T' := s₁) (g' := (mkF m 26 #[.val (.int p1), .val (.int p2), .val (.int p3), .val (.int p4), .val (.int z6), .val (.int z15), .unset, .unset, .unset, .unset, .unset, .unset, .unset, .unset, .unset, .unset, .unset] [(.int (5 : Int32)), (.int ((((p2).toUInt32 >>> ((16 : Int32) &&& 31).toUInt32).toInt32) &&& (32767 : Int32)))])) (fun _ k => XS.iconst (g := (mkF m 25 #[.val (.int p1), .val (.int p2), .val (.int p3), .val (.int p4), .val (.int z6), .val (.int z15), .unset, .unset, .unset, .unset, .unset, .unset, .unset, .unset, .unset, .unset, .unset] [(.int ((((p2).toUInt32 >>> ((16 : Int32) &&& 31).toUInt32).toInt32) &&& (32767 : Int32)))])) X0.here hx rfl (hb hby at_25) k) ?_
  refine own_st (T' := s₁) (g' := (mkF m 27 #[.val (.int p1), .val (.int p2), .val (.int p3), .val (.int p4), .val (.int z6), .val (.int z15), .unset, .unset, .unset, .unset, .unset, .unset, .unset, .unset, .unset, .unset, .unset] [(.int (((((p2).toUInt32 >>> ((16 : Int32) &&& 31).toUInt32).toInt32) &&& (32767 : Int32)) - (((((p2).toUInt32 >>> ((16 : Int32) &&& 31).toUInt32).toInt32) &&& (32767 : Int32)) / (5 : Int32)) * (5 : Int32)))])) (fun _ k => XS.irem (g := (mkF m 26 #[.val (.int p1), .val (.int p2), .val (.int p3), .val (.int p4), .val (.int z6), .val (.int z15), .unset, .unset, .unset, .unset, .unset, .unset, .unset, .unset, .unset, .unset, .unset] [(.int (5 : Int32)), (.int ((((p2).toUInt32 >>> ((16 : Int32) &&& 31).toUInt32).toInt32) &&& (32767 : Int32)))])) X0.here hx rfl (hb hby at_26) rfl (by decide) k) ?_
  generalize hz27 : (((((p2).toUInt32 >>> ((16 : Int32) &&& 31).toUInt32).toInt32) &&& (32767 : Int32)) - (((((p2).toUInt32 >>> ((16 : Int32) &&& 31).toUInt32).toInt32) &&& (32767 : Int32)) / (5 : Int32)) * (5 : Int32)) = z27
  refine own_st (T' := s₁) (g' := (mkF m 29 #[.val (.int p1), .val (.int p2), .val (.int p3), .val (.int p4), .val (.int z6), .val (.int z15), .val (.int z27), .unset, .unset, .unset, .unset, .unset, .unset, .unset, .unset, .unset, .unset] [])) (fun _ k => Jvm.Free.XS.istore (g := (mkF m 27 #[.val (.int p1), .val (.int p2), .val (.int p3), .val (.int p4), .val (.int z6), .val (.int z15), .unset, .unset, .unset, .unset, .unset, .unset, .unset, .unset, .unset, .unset, .unset] [(.int z27)])) X0.here hx rfl (hb hby at_27) rfl (l' := #[.val (.int p1), .val (.int p2), .val (.int p3), .val (.int p4), .val (.int z6), .val (.int z15), .val (.int z27), .unset, .unset, .unset, .unset, .unset, .unset, .unset, .unset, .unset, .unset]) rfl k) ?_
  have hzn : z6 = 0 ∨ z6 = 1 ∨ z6 = 2 ∨ z6 = 3 ∨ z6 = 4 := by rw [← hz6]; exact own_five _ (own_rem5 _ _ (by decide)).1 (own_rem5 _ _ (by decide)).2
  have hq1 : z15 = 0 ∨ z15 = 1 ∨ z15 = 2 ∨ z15 = 3 ∨ z15 = 4 := by rw [← hz15]; exact own_five _ (own_rem5 _ _ (by decide)).1 (own_rem5 _ _ (by decide)).2
  have hq2 : z27 = 0 ∨ z27 = 1 ∨ z27 = 2 ∨ z27 = 3 ∨ z27 = 4 := by rw [← hz27]; exact own_five _ (own_rem5 _ _ (by decide)).1 (own_rem5 _ _ (by decide)).2
  refine own_st (T' := s₁) (g' := (mkF m 30 #[.val (.int p1), .val (.int p2), .val (.int p3), .val (.int p4), .val (.int z6), .val (.int z15), .val (.int z27), .unset, .unset, .unset, .unset, .unset, .unset, .unset, .unset, .unset, .unset] [(.int (4 : Int32))])) (fun _ k => XS.iconst (g := (mkF m 29 #[.val (.int p1), .val (.int p2), .val (.int p3), .val (.int p4), .val (.int z6), .val (.int z15), .val (.int z27), .unset, .unset, .unset, .unset, .unset, .unset, .unset, .unset, .unset, .unset] [])) X0.here hx rfl (hb hby at_29) k) ?_
  obtain ⟨T1, h1, k1, X1, e1, E1, A1, Ex1, O1, st1⟩ := newRA X0 hx hZ hown (ty := .int) (by decide) (hw _ (List.mem_of_getElem? (i := 1) rfl)) (hw _ (List.mem_of_getElem? (i := 2) rfl)) e0 (g := (mkF m 30 #[.val (.int p1), .val (.int p2), .val (.int p3), .val (.int p4), .val (.int z6), .val (.int z15), .val (.int z27), .unset, .unset, .unset, .unset, .unset, .unset, .unset, .unset, .unset, .unset] [(.int (4 : Int32))])) rfl (hb hby at_30) rfl (by decide) (cap := 4) (by decide) (by decide) (by decide) (by decide) (ad := "[[I") (by decide)
  obtain ⟨b1, g1⟩ : ∃ z, z = h0.size := ⟨_, rfl⟩
  rw [← g1] at A1 st1 Ex1
  have ne_no_b1 : no ≠ b1 := Nat.ne_of_lt (Nat.lt_of_lt_of_le V_no.lt (Nat.le_of_eq g1.symm))
  have gn_b1 : n0 ≤ b1 := Nat.le_trans Z0 (Nat.le_of_eq g1.symm)
  have Zs1 : n0 ≤ h1.size := Nat.le_trans Z0 E1.1
  have Fa2 : Sta Z h1 "java/util/ArrayList" "DEFAULTCAPACITY_EMPTY_ELEMENTDATA" "[Ljava/lang/Object;" (.ref ed) := S_d.ext E1
  have Fa3 : Sta Z h1 "com/example/hollow_tree/hollowtree/query/IdentityTable" "NONE" "[Ljava/lang/Object;" (.ref no) := S_n.ext E1
  have Fa4 : Arv Z h1 no kN (.object "java/lang/Object") (0 : Int32) [] .null := V_no.ext E1
  have Fa5 : Exa Z h1 no "[Ljava/lang/Object;" := E_no.ext E1
  have V1 : Arv Z h1 b1 k1 (.array .int) (4 : Int32) [.null, .null, .null, .null] .null := (Arv.new A1 (by decide)).pad (pad_rep [] .null 4)
  refine own_st (T' := T1) (g' := (mkF m 33 #[.val (.int p1), .val (.int p2), .val (.int p3), .val (.int p4), .val (.int z6), .val (.int z15), .val (.int z27), .unset, .unset, .unset, .unset, .unset, .unset, .unset, .unset, .unset, .unset] [(.ref b1)])) (fun _ k => (st1) _ k) ?_
  refine own_st (T' := T1) (g' := (mkF m 35 #[.val (.int p1), .val (.int p2), .val (.int p3), .val (.int p4), .val (.int z6), .val (.int z15), .val (.int z27), .val (.ref b1), .unset, .unset, .unset, .unset, .unset, .unset, .unset, .unset, .unset] [])) (fun _ k => Jvm.Free.XS.astore (g := (mkF m 33 #[.val (.int p1), .val (.int p2), .val (.int p3), .val (.int p4), .val (.int z6), .val (.int z15), .val (.int z27), .unset, .unset, .unset, .unset, .unset, .unset, .unset, .unset, .unset, .unset] [(.ref b1)])) X1.here hx rfl (hb hby at_33) rfl rfl (l' := #[.val (.int p1), .val (.int p2), .val (.int p3), .val (.int p4), .val (.int z6), .val (.int z15), .val (.int z27), .val (.ref b1), .unset, .unset, .unset, .unset, .unset, .unset, .unset, .unset, .unset]) rfl k) ?_
  refine own_st (T' := T1) (g' := (mkF m 37 #[.val (.int p1), .val (.int p2), .val (.int p3), .val (.int p4), .val (.int z6), .val (.int z15), .val (.int z27), .val (.ref b1), .unset, .unset, .unset, .unset, .unset, .unset, .unset, .unset, .unset] [(.ref b1)])) (fun _ k => Jvm.Free.XS.aload (g := (mkF m 35 #[.val (.int p1), .val (.int p2), .val (.int p3), .val (.int p4), .val (.int z6), .val (.int z15), .val (.int z27), .val (.ref b1), .unset, .unset, .unset, .unset, .unset, .unset, .unset, .unset, .unset] [])) X1.here hx rfl (hb hby at_35) rfl rfl k) ?_
  suffices J6 : ∀ (T' : State) (h' : Heap) (lc' : List Loc) (r : Value) (X' : Stand p l e room_1 s m #[(.int p1), (.int p2), (.int p3), (.int p4)] below meth c T' lc' 2 5) (e' : T'.heap = h') (E' : Ext h1 h') (N' : Fr n0 lc') (R' : own_R Z h' r), own_Goes p e below (fun o U' => ∃ v L, o = .returned v ∧ Q0 Z p1 p2 p3 p4 h0 n0 v U'.heap L ∧ FrameEnd s o U' L room_1.cells room_1.slots) T' (mkF m 55 #[.val (.int p1), .val (.int p2), .val (.int p3), .val (.int p4), .val (.int z6), .val (.int z15), .val (.int z27), .val (.ref b1), .unset, .unset, .unset, .unset, .unset, .unset, .unset, .unset, .unset] [r, (.int (0 : Int32)), (.ref b1)]) by
    refine own_st (T' := T1) (g' := (mkF m 38 #[.val (.int p1), .val (.int p2), .val (.int p3), .val (.int p4), .val (.int z6), .val (.int z15), .val (.int z27), .val (.ref b1), .unset, .unset, .unset, .unset, .unset, .unset, .unset, .unset, .unset] [(.int (0 : Int32)), (.ref b1)])) (fun _ k => XS.iconst (g := (mkF m 37 #[.val (.int p1), .val (.int p2), .val (.int p3), .val (.int p4), .val (.int z6), .val (.int z15), .val (.int z27), .val (.ref b1), .unset, .unset, .unset, .unset, .unset, .unset, .unset, .unset, .unset] [(.ref b1)])) X1.here hx rfl (hb hby at_37) k) ?_
    refine own_st (T' := T1) (g' := (mkF m 39 #[.val (.int p1), .val (.int p2), .val (.int p3), .val (.int p4), .val (.int z6), .val (.int z15), .val (.int z27), .val (.ref b1), .unset, .unset, .unset, .unset, .unset, .unset, .unset, .unset, .unset] [(.int p3), (.int (0 : Int32)), (.ref b1)])) (fun _ k => Jvm.Free.XS.iloadN (g := (mkF m 38 #[.val (.int p1), .val (.int p2), .val (.int p3), .val (.int p4), .val (.int z6), .val (.int z15), .val (.int z27), .val (.ref b1), .unset, .unset, .unset, .unset, .unset, .unset, .unset, .unset, .unset] [(.int (0 : Int32)), (.ref b1)])) X1.here hx rfl (hb hby at_38) rfl k) ?_
    refine own_st (T' := T1) (g' := (mkF m 40 #[.val (.int p1), .val (.int p2), .val (.int p3), .val (.int p4), .val (.int z6), .val (.int z15), .val (.int z27), .val (.ref b1), .unset, .unset, .unset, .unset, .unset, .unset, .unset, .unset, .unset] [(.int (1 : Int32)), (.int p3), (.int (0 : Int32)), (.ref b1)])) (fun _ k => XS.iconst (g := (mkF m 39 #[.val (.int p1), .val (.int p2), .val (.int p3), .val (.int p4), .val (.int z6), .val (.int z15), .val (.int z27), .val (.ref b1), .unset, .unset, .unset, .unset, .unset, .unset, .unset, .unset, .unset] [(.int p3), (.int (0 : Int32)), (.ref b1)])) X1.here hx rfl (hb hby at_39) k) ?_
    refine own_st (T' := T1) (g' := (mkF m 41 #[.val (.int p1), .val (.int p2), .val (.int p3), .val (.int p4), .val (.int z6), .val (.int z15), .val (.int z27), .val (.ref b1), .unset, .unset, .unset, .unset, .unset, .unset, .unset, .unset, .unset] [(.int (p3 &&& (1 : Int32))), (.int (0 : Int32)), (.ref b1)])) (fun _ k => Jvm.Free.XS.iand (g := (mkF m 40 #[.val (.int p1), .val (.int p2), .val (.int p3), .val (.int p4), .val (.int z6), .val (.int z15), .val (.int z27), .val (.ref b1), .unset, .unset, .unset, .unset, .unset, .unset, .unset, .unset, .unset] [(.int (1 : Int32)), (.int p3), (.int (0 : Int32)), (.ref b1)])) X1.here hx rfl (hb hby at_40) rfl k) ?_
    by_cases hc41 : (p3 &&& (1 : Int32)) = (0 : Int32)
    · refine own_st (T' := T1) (g' := (mkF m 48 #[.val (.int p1), .val (.int p2), .val (.int p3), .val (.int p4), .val (.int z6), .val (.int z15), .val (.int z27), .val (.ref b1), .unset, .unset, .unset, .unset, .unset, .unset, .unset, .unset, .unset] [(.int (0 : Int32)), (.ref b1)])) (fun _ k => XS.ifYes (g := (mkF m 41 #[.val (.int p1), .val (.int p2), .val (.int p3), .val (.int p4), .val (.int z6), .val (.int z15), .val (.int z27), .val (.ref b1), .unset, .unset, .unset, .unset, .unset, .unset, .unset, .unset, .unset] [(.int (p3 &&& (1 : Int32))), (.int (0 : Int32)), (.ref b1)])) X1.here hx rfl (pc0 := 41) (pc' := 48) rfl (hb hby at_41) rfl ((if0 _ _).trans (teq hc41).1) (by decide) (by decide) k) ?_
      refine own_st (T' := T1) (g' := (mkF m 49 #[.val (.int p1), .val (.int p2), .val (.int p3), .val (.int p4), .val (.int z6), .val (.int z15), .val (.int z27), .val (.ref b1), .unset, .unset, .unset, .unset, .unset, .unset, .unset, .unset, .unset] [(.int (1 : Int32)), (.int (0 : Int32)), (.ref b1)])) (fun _ k => XS.iconst (g := (mkF m 48 #[.val (.int p1), .val (.int p2), .val (.int p3), .val (.int p4), .val (.int z6), .val (.int z15), .val (.int z27), .val (.ref b1), .unset, .unset, .unset, .unset, .unset, .unset, .unset, .unset, .unset] [(.int (0 : Int32)), (.ref b1)])) X1.here hx rfl (hb hby at_48) k) ?_
      obtain ⟨T7, h7, k7, X7, e7, E7, A7, Ex7, st7⟩ := newPE X1 hx hZ (hw _ (List.mem_of_getElem? (i := 3) rfl)) e1 (g := (mkF m 49 #[.val (.int p1), .val (.int p2), .val (.int p3), .val (.int p4), .val (.int z6), .val (.int z15), .val (.int z27), .val (.ref b1), .unset, .unset, .unset, .unset, .unset, .unset, .unset, .unset, .unset] [(.int (1 : Int32)), (.int (0 : Int32)), (.ref b1)])) rfl (hb hby at_49) rfl (by decide) (cap := 1) (by decide) (by decide) (by decide) (by decide) (ad := "[I") (by decide)
      obtain ⟨b7, g7⟩ : ∃ z, z = h1.size := ⟨_, rfl⟩
      rw [← g7] at A7 st7 Ex7
      have ne_no_b7 : no ≠ b7 := Nat.ne_of_lt (Nat.lt_of_lt_of_le Fa4.lt (Nat.le_of_eq g7.symm))
      have ne_b1_b7 : b1 ≠ b7 := Nat.ne_of_lt (Nat.lt_of_lt_of_le Ex1.lt (Nat.le_of_eq g7.symm))
      have gn_b7 : n0 ≤ b7 := Nat.le_trans Zs1 (Nat.le_of_eq g7.symm)
      have Zs7 : n0 ≤ h7.size := Nat.le_trans Zs1 E7.1
      have Fa8 : Sta Z h7 "java/util/ArrayList" "DEFAULTCAPACITY_EMPTY_ELEMENTDATA" "[Ljava/lang/Object;" (.ref ed) := Fa2.ext E7
      have Fa9 : Sta Z h7 "com/example/hollow_tree/hollowtree/query/IdentityTable" "NONE" "[Ljava/lang/Object;" (.ref no) := Fa3.ext E7
      have Fa10 : Arv Z h7 no kN (.object "java/lang/Object") (0 : Int32) [] .null := Fa4.ext E7
      have Fa11 : Exa Z h7 no "[Ljava/lang/Object;" := Fa5.ext E7
      have Fa12 : Exa Z h7 b1 "[[I" := Ex1.ext E7
      have Fa13 : Arv Z h7 b1 k1 (.array .int) (4 : Int32) [.null, .null, .null, .null] .null := V1.ext E7
      have V7 : Arv Z h7 b7 k7 .int (1 : Int32) [(.int (0 : Int32))] (.int (0 : Int32)) := (Arv.new A7 (by decide)).pad (pad_rep [] (.int (0 : Int32)) 1)
      refine own_st (T' := T7) (g' := (mkF m 51 #[.val (.int p1), .val (.int p2), .val (.int p3), .val (.int p4), .val (.int z6), .val (.int z15), .val (.int z27), .val (.ref b1), .unset, .unset, .unset, .unset, .unset, .unset, .unset, .unset, .unset] [(.ref b7), (.int (0 : Int32)), (.ref b1)])) (fun _ k => (st7) _ k) ?_
      refine own_st (T' := T7) (g' := (mkF m 52 #[.val (.int p1), .val (.int p2), .val (.int p3), .val (.int p4), .val (.int z6), .val (.int z15), .val (.int z27), .val (.ref b1), .unset, .unset, .unset, .unset, .unset, .unset, .unset, .unset, .unset] [(.ref b7), (.ref b7), (.int (0 : Int32)), (.ref b1)])) (fun _ k => XS.dup (g := (mkF m 51 #[.val (.int p1), .val (.int p2), .val (.int p3), .val (.int p4), .val (.int z6), .val (.int z15), .val (.int z27), .val (.ref b1), .unset, .unset, .unset, .unset, .unset, .unset, .unset, .unset, .unset] [(.ref b7), (.int (0 : Int32)), (.ref b1)])) X7.here hx rfl (hb hby at_51) rfl rfl k) ?_
      refine own_st (T' := T7) (g' := (mkF m 53 #[.val (.int p1), .val (.int p2), .val (.int p3), .val (.int p4), .val (.int z6), .val (.int z15), .val (.int z27), .val (.ref b1), .unset, .unset, .unset, .unset, .unset, .unset, .unset, .unset, .unset] [(.int (0 : Int32)), (.ref b7), (.ref b7), (.int (0 : Int32)), (.ref b1)])) (fun _ k => XS.iconst (g := (mkF m 52 #[.val (.int p1), .val (.int p2), .val (.int p3), .val (.int p4), .val (.int z6), .val (.int z15), .val (.int z27), .val (.ref b1), .unset, .unset, .unset, .unset, .unset, .unset, .unset, .unset, .unset] [(.ref b7), (.ref b7), (.int (0 : Int32)), (.ref b1)])) X7.here hx rfl (hb hby at_52) k) ?_
      refine own_st (T' := T7) (g' := (mkF m 54 #[.val (.int p1), .val (.int p2), .val (.int p3), .val (.int p4), .val (.int z6), .val (.int z15), .val (.int z27), .val (.ref b1), .unset, .unset, .unset, .unset, .unset, .unset, .unset, .unset, .unset] [(.int p4), (.int (0 : Int32)), (.ref b7), (.ref b7), (.int (0 : Int32)), (.ref b1)])) (fun _ k => Jvm.Free.XS.iloadN (g := (mkF m 53 #[.val (.int p1), .val (.int p2), .val (.int p3), .val (.int p4), .val (.int z6), .val (.int z15), .val (.int z27), .val (.ref b1), .unset, .unset, .unset, .unset, .unset, .unset, .unset, .unset, .unset] [(.int (0 : Int32)), (.ref b7), (.ref b7), (.int (0 : Int32)), (.ref b1)])) X7.here hx rfl (hb hby at_53) rfl k) ?_
      obtain ⟨cl14, Ar14, qk14, Sz14, Nn14, Hs14, Gs14⟩ := V7
      have hin14 : ¬ ((0 : Int32) < 0 ∨ cl14.slots.size ≤ ((0 : Int32)).toNatClampNeg) := inb_of Sz14 ⟨by decide, by decide⟩
      obtain ⟨T14, h14, X14, e14, W14, st14⟩ := stI X7 hx hZ e7 Ar14 (j := (0 : Int32)) hin14 (g := (mkF m 54 #[.val (.int p1), .val (.int p2), .val (.int p3), .val (.int p4), .val (.int z6), .val (.int z15), .val (.int z27), .val (.ref b1), .unset, .unset, .unset, .unset, .unset, .unset, .unset, .unset, .unset] [(.int p4), (.int (0 : Int32)), (.ref b7), (.ref b7), (.int (0 : Int32)), (.ref b1)])) rfl rfl (hb hby at_54)
      have V14 : Arv Z h14 b7 k7 .int (1 : Int32) [(.int p4)] (.int (0 : Int32)) := Arv.set Ar14 qk14 Sz14 Nn14 Hs14 Gs14 rfl W14 0 rfl (Nat.le_of_ble_eq_true rfl)
      have Zs14 : n0 ≤ h14.size := Nat.le_trans Zs7 (Keep.of_wr W14).1
      obtain ⟨lc14, X14, N14⟩ := own_loc X14 (Fr.snoc X14 N0 gn_b7)
      have Fa15 : Sta Z h14 "java/util/ArrayList" "DEFAULTCAPACITY_EMPTY_ELEMENTDATA" "[Ljava/lang/Object;" (.ref ed) := Fa8.wr W14
      have Fa16 : Sta Z h14 "com/example/hollow_tree/hollowtree/query/IdentityTable" "NONE" "[Ljava/lang/Object;" (.ref no) := Fa9.wr W14
      have Fa17 : Arv Z h14 no kN (.object "java/lang/Object") (0 : Int32) [] .null := Fa10.other W14 ne_no_b7
      have Fa18 : Exa Z h14 no "[Ljava/lang/Object;" := Fa11.wr W14
      have Fa19 : Exa Z h14 b1 "[[I" := Fa12.wr W14
      have Fa20 : Arv Z h14 b1 k1 (.array .int) (4 : Int32) [.null, .null, .null, .null] .null := Fa13.other W14 ne_b1_b7
      have Fa21 : Exa Z h14 b7 "[I" := Ex7.wr W14
      refine own_st (T' := T14) (g' := (mkF m 55 #[.val (.int p1), .val (.int p2), .val (.int p3), .val (.int p4), .val (.int z6), .val (.int z15), .val (.int z27), .val (.ref b1), .unset, .unset, .unset, .unset, .unset, .unset, .unset, .unset, .unset] [(.ref b7), (.int (0 : Int32)), (.ref b1)])) (fun _ k => (st14) _ k) ?_
      exact J6 _ _ _ _ X14 e14 (own_ext_wr E7 W14 (Nat.le_of_eq g7.symm)) N14 (Or.inr ⟨b7, rfl, Fa21⟩)
    · refine own_st (T' := T1) (g' := (mkF m 44 #[.val (.int p1), .val (.int p2), .val (.int p3), .val (.int p4), .val (.int z6), .val (.int z15), .val (.int z27), .val (.ref b1), .unset, .unset, .unset, .unset, .unset, .unset, .unset, .unset, .unset] [(.int (0 : Int32)), (.ref b1)])) (fun _ k => XS.ifNo (g := (mkF m 41 #[.val (.int p1), .val (.int p2), .val (.int p3), .val (.int p4), .val (.int z6), .val (.int z15), .val (.int z27), .val (.ref b1), .unset, .unset, .unset, .unset, .unset, .unset, .unset, .unset, .unset] [(.int (p3 &&& (1 : Int32))), (.int (0 : Int32)), (.ref b1)])) X1.here hx rfl (hb hby at_41) rfl ((if0 _ _).trans (feq hc41).1) k) ?_
      refine own_st (T' := T1) (g' := (mkF m 45 #[.val (.int p1), .val (.int p2), .val (.int p3), .val (.int p4), .val (.int z6), .val (.int z15), .val (.int z27), .val (.ref b1), .unset, .unset, .unset, .unset, .unset, .unset, .unset, .unset, .unset] [.null, (.int (0 : Int32)), (.ref b1)])) (fun _ k => XS.aconstNull (g := (mkF m 44 #[.val (.int p1), .val (.int p2), .val (.int p3), .val (.int p4), .val (.int z6), .val (.int z15), .val (.int z27), .val (.ref b1), .unset, .unset, .unset, .unset, .unset, .unset, .unset, .unset, .unset] [(.int (0 : Int32)), (.ref b1)])) X1.here hx rfl (hb hby at_44) k) ?_
      refine own_st (T' := T1) (g' := (mkF m 55 #[.val (.int p1), .val (.int p2), .val (.int p3), .val (.int p4), .val (.int z6), .val (.int z15), .val (.int z27), .val (.ref b1), .unset, .unset, .unset, .unset, .unset, .unset, .unset, .unset, .unset] [.null, (.int (0 : Int32)), (.ref b1)])) (fun _ k => XS.goto (g := (mkF m 45 #[.val (.int p1), .val (.int p2), .val (.int p3), .val (.int p4), .val (.int z6), .val (.int z15), .val (.int z27), .val (.ref b1), .unset, .unset, .unset, .unset, .unset, .unset, .unset, .unset, .unset] [.null, (.int (0 : Int32)), (.ref b1)])) X1.here hx rfl (pc0 := 45) (pc' := 55) rfl (hb hby at_45) (by decide) (by decide) k) ?_
      exact J6 _ _ _ _ (X1.more (by decide) (by decide)) e1 (own_ext_refl _) N0 (Or.inl rfl)
  intro T6 h6 lc6 r0 X6 e6 E6 N6 R6
  have Zs6 : n0 ≤ h6.size := Nat.le_trans Zs1 E6.1
  have Fa22 : Sta Z h6 "java/util/ArrayList" "DEFAULTCAPACITY_EMPTY_ELEMENTDATA" "[Ljava/lang/Object;" (.ref ed) := Fa2.ext E6
  have Fa23 : Sta Z h6 "com/example/hollow_tree/hollowtree/query/IdentityTable" "NONE" "[Ljava/lang/Object;" (.ref no) := Fa3.ext E6
  have Fa24 : Arv Z h6 no kN (.object "java/lang/Object") (0 : Int32) [] .null := Fa4.ext E6
  have Fa25 : Exa Z h6 no "[Ljava/lang/Object;" := Fa5.ext E6
  have Fa26 : Exa Z h6 b1 "[[I" := Ex1.ext E6
  have Fa27 : Arv Z h6 b1 k1 (.array .int) (4 : Int32) [.null, .null, .null, .null] .null := V1.ext E6
  obtain ⟨cl28, Ar28, qk28, Sz28, Nn28, Hs28, Gs28⟩ := Fa27
  have hin28 : ¬ ((0 : Int32) < 0 ∨ cl28.slots.size ≤ ((0 : Int32)).toNatClampNeg) := inb_of Sz28 ⟨by decide, by decide⟩
  obtain ⟨T28, h28, X28, e28, W28, st28⟩ := stR X6 hx hZ e6 Ar28 (j := (0 : Int32)) hin28 rfl (R6.stoA Ar28 qk28 O1) (g := (mkF m 55 #[.val (.int p1), .val (.int p2), .val (.int p3), .val (.int p4), .val (.int z6), .val (.int z15), .val (.int z27), .val (.ref b1), .unset, .unset, .unset, .unset, .unset, .unset, .unset, .unset, .unset] [r0, (.int (0 : Int32)), (.ref b1)])) rfl rfl (hb hby at_55)
  have V28 : Arv Z h28 b1 k1 (.array .int) (4 : Int32) [r0, .null, .null, .null] .null := Arv.set Ar28 qk28 Sz28 Nn28 Hs28 Gs28 (own_fitsA (R6.rf)) W28 0 rfl (Nat.le_of_ble_eq_true rfl)
  have Zs28 : n0 ≤ h28.size := Nat.le_trans Zs6 (Keep.of_wr W28).1
  obtain ⟨lc28, X28, N28⟩ := own_loc X28 (Fr.snoc X28 N6 gn_b1)
  have Fa29 : Sta Z h28 "java/util/ArrayList" "DEFAULTCAPACITY_EMPTY_ELEMENTDATA" "[Ljava/lang/Object;" (.ref ed) := Fa22.wr W28
  have Fa30 : Sta Z h28 "com/example/hollow_tree/hollowtree/query/IdentityTable" "NONE" "[Ljava/lang/Object;" (.ref no) := Fa23.wr W28
  have Fa31 : Arv Z h28 no kN (.object "java/lang/Object") (0 : Int32) [] .null := Fa24.other W28 ne_no_b1
  have Fa32 : Exa Z h28 no "[Ljava/lang/Object;" := Fa25.wr W28
  have Fa33 : Exa Z h28 b1 "[[I" := Fa26.wr W28
  have Fa34 : own_R Z h28 r0 := R6.wr W28
  refine own_st (T' := T28) (g' := (mkF m 56 #[.val (.int p1), .val (.int p2), .val (.int p3), .val (.int p4), .val (.int z6), .val (.int z15), .val (.int z27), .val (.ref b1), .unset, .unset, .unset, .unset, .unset, .unset, .unset, .unset, .unset] [])) (fun _ k => (st28) _ k) ?_
  refine own_st (T' := T28) (g' := (mkF m 58 #[.val (.int p1), .val (.int p2), .val (.int p3), .val (.int p4), .val (.int z6), .val (.int z15), .val (.int z27), .val (.ref b1), .unset, .unset, .unset, .unset, .unset, .unset, .unset, .unset, .unset] [(.ref b1)])) (fun _ k => Jvm.Free.XS.aload (g := (mkF m 56 #[.val (.int p1), .val (.int p2), .val (.int p3), .val (.int p4), .val (.int z6), .val (.int z15), .val (.int z27), .val (.ref b1), .unset, .unset, .unset, .unset, .unset, .unset, .unset, .unset, .unset] [])) X28.here hx rfl (hb hby at_56) rfl rfl k) ?_
  suffices J35 : ∀ (T' : State) (h' : Heap) (lc' : List Loc) (r : Value) (X' : Stand p l e room_1 s m #[(.int p1), (.int p2), (.int p3), (.int p4)] below meth c T' lc' 3 6) (e' : T'.heap = h') (E' : Ext h28 h') (N' : Fr n0 lc') (R' : own_R Z h' r), own_Goes p e below (fun o U' => ∃ v L, o = .returned v ∧ Q0 Z p1 p2 p3 p4 h0 n0 v U'.heap L ∧ FrameEnd s o U' L room_1.cells room_1.slots) T' (mkF m 76 #[.val (.int p1), .val (.int p2), .val (.int p3), .val (.int p4), .val (.int z6), .val (.int z15), .val (.int z27), .val (.ref b1), .unset, .unset, .unset, .unset, .unset, .unset, .unset, .unset, .unset] [r, (.int (1 : Int32)), (.ref b1)]) by
    refine own_st (T' := T28) (g' := (mkF m 59 #[.val (.int p1), .val (.int p2), .val (.int p3), .val (.int p4), .val (.int z6), .val (.int z15), .val (.int z27), .val (.ref b1), .unset, .unset, .unset, .unset, .unset, .unset, .unset, .unset, .unset] [(.int (1 : Int32)), (.ref b1)])) (fun _ k => XS.iconst (g := (mkF m 58 #[.val (.int p1), .val (.int p2), .val (.int p3), .val (.int p4), .val (.int z6), .val (.int z15), .val (.int z27), .val (.ref b1), .unset, .unset, .unset, .unset, .unset, .unset, .unset, .unset, .unset] [(.ref b1)])) X28.here hx rfl (hb hby at_58) k) ?_
    refine own_st (T' := T28) (g' := (mkF m 60 #[.val (.int p1), .val (.int p2), .val (.int p3), .val (.int p4), .val (.int z6), .val (.int z15), .val (.int z27), .val (.ref b1), .unset, .unset, .unset, .unset, .unset, .unset, .unset, .unset, .unset] [(.int p3), (.int (1 : Int32)), (.ref b1)])) (fun _ k => Jvm.Free.XS.iloadN (g := (mkF m 59 #[.val (.int p1), .val (.int p2), .val (.int p3), .val (.int p4), .val (.int z6), .val (.int z15), .val (.int z27), .val (.ref b1), .unset, .unset, .unset, .unset, .unset, .unset, .unset, .unset, .unset] [(.int (1 : Int32)), (.ref b1)])) X28.here hx rfl (hb hby at_59) rfl k) ?_
    refine own_st (T' := T28) (g' := (mkF m 61 #[.val (.int p1), .val (.int p2), .val (.int p3), .val (.int p4), .val (.int z6), .val (.int z15), .val (.int z27), .val (.ref b1), .unset, .unset, .unset, .unset, .unset, .unset, .unset, .unset, .unset] [(.int (2 : Int32)), (.int p3), (.int (1 : Int32)), (.ref b1)])) (fun _ k => XS.iconst (g := (mkF m 60 #[.val (.int p1), .val (.int p2), .val (.int p3), .val (.int p4), .val (.int z6), .val (.int z15), .val (.int z27), .val (.ref b1), .unset, .unset, .unset, .unset, .unset, .unset, .unset, .unset, .unset] [(.int p3), (.int (1 : Int32)), (.ref b1)])) X28.here hx rfl (hb hby at_60) k) ?_
    refine own_st (T' := T28) (g' := (mkF m 62 #[.val (.int p1), .val (.int p2), .val (.int p3), .val (.int p4), .val (.int z6), .val (.int z15), .val (.int z27), .val (.ref b1), .unset, .unset, .unset, .unset, .unset, .unset, .unset, .unset, .unset] [(.int (p3 &&& (2 : Int32))), (.int (1 : Int32)), (.ref b1)])) (fun _ k => Jvm.Free.XS.iand (g := (mkF m 61 #[.val (.int p1), .val (.int p2), .val (.int p3), .val (.int p4), .val (.int z6), .val (.int z15), .val (.int z27), .val (.ref b1), .unset, .unset, .unset, .unset, .unset, .unset, .unset, .unset, .unset] [(.int (2 : Int32)), (.int p3), (.int (1 : Int32)), (.ref b1)])) X28.here hx rfl (hb hby at_61) rfl k) ?_
    by_cases hc62 : (p3 &&& (2 : Int32)) = (0 : Int32)
    · refine own_st (T' := T28) (g' := (mkF m 69 #[.val (.int p1), .val (.int p2), .val (.int p3), .val (.int p4), .val (.int z6), .val (.int z15), .val (.int z27), .val (.ref b1), .unset, .unset, .unset, .unset, .unset, .unset, .unset, .unset, .unset] [(.int (1 : Int32)), (.ref b1)])) (fun _ k => XS.ifYes (g := (mkF m 62 #[.val (.int p1), .val (.int p2), .val (.int p3), .val (.int p4), .val (.int z6), .val (.int z15), .val (.int z27), .val (.ref b1), .unset, .unset, .unset, .unset, .unset, .unset, .unset, .unset, .unset] [(.int (p3 &&& (2 : Int32))), (.int (1 : Int32)), (.ref b1)])) X28.here hx rfl (pc0 := 62) (pc' := 69) rfl (hb hby at_62) rfl ((if0 _ _).trans (teq hc62).1) (by decide) (by decide) k) ?_
      refine own_st (T' := T28) (g' := (mkF m 70 #[.val (.int p1), .val (.int p2), .val (.int p3), .val (.int p4), .val (.int z6), .val (.int z15), .val (.int z27), .val (.ref b1), .unset, .unset, .unset, .unset, .unset, .unset, .unset, .unset, .unset] [(.int (1 : Int32)), (.int (1 : Int32)), (.ref b1)])) (fun _ k => XS.iconst (g := (mkF m 69 #[.val (.int p1), .val (.int p2), .val (.int p3), .val (.int p4), .val (.int z6), .val (.int z15), .val (.int z27), .val (.ref b1), .unset, .unset, .unset, .unset, .unset, .unset, .unset, .unset, .unset] [(.int (1 : Int32)), (.ref b1)])) X28.here hx rfl (hb hby at_69) k) ?_
      obtain ⟨T36, h36, k36, X36, e36, E36, A36, Ex36, st36⟩ := newPE X28 hx hZ (hw _ (List.mem_of_getElem? (i := 3) rfl)) e28 (g := (mkF m 70 #[.val (.int p1), .val (.int p2), .val (.int p3), .val (.int p4), .val (.int z6), .val (.int z15), .val (.int z27), .val (.ref b1), .unset, .unset, .unset, .unset, .unset, .unset, .unset, .unset, .unset] [(.int (1 : Int32)), (.int (1 : Int32)), (.ref b1)])) rfl (hb hby at_70) rfl (by decide) (cap := 1) (by decide) (by decide) (by decide) (by decide) (ad := "[I") (by decide)
      obtain ⟨b36, g36⟩ : ∃ z, z = h28.size := ⟨_, rfl⟩
      rw [← g36] at A36 st36 Ex36
      have ne_no_b36 : no ≠ b36 := Nat.ne_of_lt (Nat.lt_of_lt_of_le Fa31.lt (Nat.le_of_eq g36.symm))
      have ne_b1_b36 : b1 ≠ b36 := Nat.ne_of_lt (Nat.lt_of_lt_of_le Fa33.lt (Nat.le_of_eq g36.symm))
      have gn_b36 : n0 ≤ b36 := Nat.le_trans Zs28 (Nat.le_of_eq g36.symm)
      have Zs36 : n0 ≤ h36.size := Nat.le_trans Zs28 E36.1
      have Fa37 : Sta Z h36 "java/util/ArrayList" "DEFAULTCAPACITY_EMPTY_ELEMENTDATA" "[Ljava/lang/Object;" (.ref ed) := Fa29.ext E36
      have Fa38 : Sta Z h36 "com/example/hollow_tree/hollowtree/query/IdentityTable" "NONE" "[Ljava/lang/Object;" (.ref no) := Fa30.ext E36
      have Fa39 : Arv Z h36 no kN (.object "java/lang/Object") (0 : Int32) [] .null := Fa31.ext E36
      have Fa40 : Exa Z h36 no "[Ljava/lang/Object;" := Fa32.ext E36
      have Fa41 : Exa Z h36 b1 "[[I" := Fa33.ext E36
      have Fa42 : own_R Z h36 r0 := Fa34.ext E36
      have Fa43 : Arv Z h36 b1 k1 (.array .int) (4 : Int32) [r0, .null, .null, .null] .null := V28.ext E36
      have V36 : Arv Z h36 b36 k36 .int (1 : Int32) [(.int (0 : Int32))] (.int (0 : Int32)) := (Arv.new A36 (by decide)).pad (pad_rep [] (.int (0 : Int32)) 1)
      refine own_st (T' := T36) (g' := (mkF m 72 #[.val (.int p1), .val (.int p2), .val (.int p3), .val (.int p4), .val (.int z6), .val (.int z15), .val (.int z27), .val (.ref b1), .unset, .unset, .unset, .unset, .unset, .unset, .unset, .unset, .unset] [(.ref b36), (.int (1 : Int32)), (.ref b1)])) (fun _ k => (st36) _ k) ?_
      refine own_st (T' := T36) (g' := (mkF m 73 #[.val (.int p1), .val (.int p2), .val (.int p3), .val (.int p4), .val (.int z6), .val (.int z15), .val (.int z27), .val (.ref b1), .unset, .unset, .unset, .unset, .unset, .unset, .unset, .unset, .unset] [(.ref b36), (.ref b36), (.int (1 : Int32)), (.ref b1)])) (fun _ k => XS.dup (g := (mkF m 72 #[.val (.int p1), .val (.int p2), .val (.int p3), .val (.int p4), .val (.int z6), .val (.int z15), .val (.int z27), .val (.ref b1), .unset, .unset, .unset, .unset, .unset, .unset, .unset, .unset, .unset] [(.ref b36), (.int (1 : Int32)), (.ref b1)])) X36.here hx rfl (hb hby at_72) rfl rfl k) ?_
      refine own_st (T' := T36) (g' := (mkF m 74 #[.val (.int p1), .val (.int p2), .val (.int p3), .val (.int p4), .val (.int z6), .val (.int z15), .val (.int z27), .val (.ref b1), .unset, .unset, .unset, .unset, .unset, .unset, .unset, .unset, .unset] [(.int (0 : Int32)), (.ref b36), (.ref b36), (.int (1 : Int32)), (.ref b1)])) (fun _ k => XS.iconst (g := (mkF m 73 #[.val (.int p1), .val (.int p2), .val (.int p3), .val (.int p4), .val (.int z6), .val (.int z15), .val (.int z27), .val (.ref b1), .unset, .unset, .unset, .unset, .unset, .unset, .unset, .unset, .unset] [(.ref b36), (.ref b36), (.int (1 : Int32)), (.ref b1)])) X36.here hx rfl (hb hby at_73) k) ?_
      refine own_st (T' := T36) (g' := (mkF m 75 #[.val (.int p1), .val (.int p2), .val (.int p3), .val (.int p4), .val (.int z6), .val (.int z15), .val (.int z27), .val (.ref b1), .unset, .unset, .unset, .unset, .unset, .unset, .unset, .unset, .unset] [(.int p4), (.int (0 : Int32)), (.ref b36), (.ref b36), (.int (1 : Int32)), (.ref b1)])) (fun _ k => Jvm.Free.XS.iloadN (g := (mkF m 74 #[.val (.int p1), .val (.int p2), .val (.int p3), .val (.int p4), .val (.int z6), .val (.int z15), .val (.int z27), .val (.ref b1), .unset, .unset, .unset, .unset, .unset, .unset, .unset, .unset, .unset] [(.int (0 : Int32)), (.ref b36), (.ref b36), (.int (1 : Int32)), (.ref b1)])) X36.here hx rfl (hb hby at_74) rfl k) ?_
      obtain ⟨cl44, Ar44, qk44, Sz44, Nn44, Hs44, Gs44⟩ := V36
      have hin44 : ¬ ((0 : Int32) < 0 ∨ cl44.slots.size ≤ ((0 : Int32)).toNatClampNeg) := inb_of Sz44 ⟨by decide, by decide⟩
      obtain ⟨T44, h44, X44, e44, W44, st44⟩ := stI X36 hx hZ e36 Ar44 (j := (0 : Int32)) hin44 (g := (mkF m 75 #[.val (.int p1), .val (.int p2), .val (.int p3), .val (.int p4), .val (.int z6), .val (.int z15), .val (.int z27), .val (.ref b1), .unset, .unset, .unset, .unset, .unset, .unset, .unset, .unset, .unset] [(.int p4), (.int (0 : Int32)), (.ref b36), (.ref b36), (.int (1 : Int32)), (.ref b1)])) rfl rfl (hb hby at_75)
      have V44 : Arv Z h44 b36 k36 .int (1 : Int32) [(.int p4)] (.int (0 : Int32)) := Arv.set Ar44 qk44 Sz44 Nn44 Hs44 Gs44 rfl W44 0 rfl (Nat.le_of_ble_eq_true rfl)
      have Zs44 : n0 ≤ h44.size := Nat.le_trans Zs36 (Keep.of_wr W44).1
      obtain ⟨lc44, X44, N44⟩ := own_loc X44 (Fr.snoc X44 N28 gn_b36)
      have Fa45 : Sta Z h44 "java/util/ArrayList" "DEFAULTCAPACITY_EMPTY_ELEMENTDATA" "[Ljava/lang/Object;" (.ref ed) := Fa37.wr W44
      have Fa46 : Sta Z h44 "com/example/hollow_tree/hollowtree/query/IdentityTable" "NONE" "[Ljava/lang/Object;" (.ref no) := Fa38.wr W44
      have Fa47 : Arv Z h44 no kN (.object "java/lang/Object") (0 : Int32) [] .null := Fa39.other W44 ne_no_b36
      have Fa48 : Exa Z h44 no "[Ljava/lang/Object;" := Fa40.wr W44
      have Fa49 : Exa Z h44 b1 "[[I" := Fa41.wr W44
      have Fa50 : own_R Z h44 r0 := Fa42.wr W44
      have Fa51 : Arv Z h44 b1 k1 (.array .int) (4 : Int32) [r0, .null, .null, .null] .null := Fa43.other W44 ne_b1_b36
      have Fa52 : Exa Z h44 b36 "[I" := Ex36.wr W44
      refine own_st (T' := T44) (g' := (mkF m 76 #[.val (.int p1), .val (.int p2), .val (.int p3), .val (.int p4), .val (.int z6), .val (.int z15), .val (.int z27), .val (.ref b1), .unset, .unset, .unset, .unset, .unset, .unset, .unset, .unset, .unset] [(.ref b36), (.int (1 : Int32)), (.ref b1)])) (fun _ k => (st44) _ k) ?_
      exact J35 _ _ _ _ X44 e44 (own_ext_wr E36 W44 (Nat.le_of_eq g36.symm)) N44 (Or.inr ⟨b36, rfl, Fa52⟩)
    · refine own_st (T' := T28) (g' := (mkF m 65 #[.val (.int p1), .val (.int p2), .val (.int p3), .val (.int p4), .val (.int z6), .val (.int z15), .val (.int z27), .val (.ref b1), .unset, .unset, .unset, .unset, .unset, .unset, .unset, .unset, .unset] [(.int (1 : Int32)), (.ref b1)])) (fun _ k => XS.ifNo (g := (mkF m 62 #[.val (.int p1), .val (.int p2), .val (.int p3), .val (.int p4), .val (.int z6), .val (.int z15), .val (.int z27), .val (.ref b1), .unset, .unset, .unset, .unset, .unset, .unset, .unset, .unset, .unset] [(.int (p3 &&& (2 : Int32))), (.int (1 : Int32)), (.ref b1)])) X28.here hx rfl (hb hby at_62) rfl ((if0 _ _).trans (feq hc62).1) k) ?_
      refine own_st (T' := T28) (g' := (mkF m 66 #[.val (.int p1), .val (.int p2), .val (.int p3), .val (.int p4), .val (.int z6), .val (.int z15), .val (.int z27), .val (.ref b1), .unset, .unset, .unset, .unset, .unset, .unset, .unset, .unset, .unset] [.null, (.int (1 : Int32)), (.ref b1)])) (fun _ k => XS.aconstNull (g := (mkF m 65 #[.val (.int p1), .val (.int p2), .val (.int p3), .val (.int p4), .val (.int z6), .val (.int z15), .val (.int z27), .val (.ref b1), .unset, .unset, .unset, .unset, .unset, .unset, .unset, .unset, .unset] [(.int (1 : Int32)), (.ref b1)])) X28.here hx rfl (hb hby at_65) k) ?_
      refine own_st (T' := T28) (g' := (mkF m 76 #[.val (.int p1), .val (.int p2), .val (.int p3), .val (.int p4), .val (.int z6), .val (.int z15), .val (.int z27), .val (.ref b1), .unset, .unset, .unset, .unset, .unset, .unset, .unset, .unset, .unset] [.null, (.int (1 : Int32)), (.ref b1)])) (fun _ k => XS.goto (g := (mkF m 66 #[.val (.int p1), .val (.int p2), .val (.int p3), .val (.int p4), .val (.int z6), .val (.int z15), .val (.int z27), .val (.ref b1), .unset, .unset, .unset, .unset, .unset, .unset, .unset, .unset, .unset] [.null, (.int (1 : Int32)), (.ref b1)])) X28.here hx rfl (pc0 := 66) (pc' := 76) rfl (hb hby at_66) (by decide) (by decide) k) ?_
      exact J35 _ _ _ _ (X28.more (by decide) (by decide)) e28 (own_ext_refl _) N28 (Or.inl rfl)
  intro T35 h35 lc35 r1 X35 e35 E35 N35 R35
  have Zs35 : n0 ≤ h35.size := Nat.le_trans Zs28 E35.1
  have Fa53 : Sta Z h35 "java/util/ArrayList" "DEFAULTCAPACITY_EMPTY_ELEMENTDATA" "[Ljava/lang/Object;" (.ref ed) := Fa29.ext E35
  have Fa54 : Sta Z h35 "com/example/hollow_tree/hollowtree/query/IdentityTable" "NONE" "[Ljava/lang/Object;" (.ref no) := Fa30.ext E35
  have Fa55 : Arv Z h35 no kN (.object "java/lang/Object") (0 : Int32) [] .null := Fa31.ext E35
  have Fa56 : Exa Z h35 no "[Ljava/lang/Object;" := Fa32.ext E35
  have Fa57 : Exa Z h35 b1 "[[I" := Fa33.ext E35
  have Fa58 : own_R Z h35 r0 := Fa34.ext E35
  have Fa59 : Arv Z h35 b1 k1 (.array .int) (4 : Int32) [r0, .null, .null, .null] .null := V28.ext E35
  obtain ⟨cl60, Ar60, qk60, Sz60, Nn60, Hs60, Gs60⟩ := Fa59
  have hin60 : ¬ ((1 : Int32) < 0 ∨ cl60.slots.size ≤ ((1 : Int32)).toNatClampNeg) := inb_of Sz60 ⟨by decide, by decide⟩
  obtain ⟨T60, h60, X60, e60, W60, st60⟩ := stR X35 hx hZ e35 Ar60 (j := (1 : Int32)) hin60 rfl (R35.stoA Ar60 qk60 O1) (g := (mkF m 76 #[.val (.int p1), .val (.int p2), .val (.int p3), .val (.int p4), .val (.int z6), .val (.int z15), .val (.int z27), .val (.ref b1), .unset, .unset, .unset, .unset, .unset, .unset, .unset, .unset, .unset] [r1, (.int (1 : Int32)), (.ref b1)])) rfl rfl (hb hby at_76)
  have V60 : Arv Z h60 b1 k1 (.array .int) (4 : Int32) [r0, r1, .null, .null] .null := Arv.set Ar60 qk60 Sz60 Nn60 Hs60 Gs60 (own_fitsA (R35.rf)) W60 1 rfl (Nat.le_of_ble_eq_true rfl)
  have Zs60 : n0 ≤ h60.size := Nat.le_trans Zs35 (Keep.of_wr W60).1
  obtain ⟨lc60, X60, N60⟩ := own_loc X60 (Fr.snoc X60 N35 gn_b1)
  have Fa61 : Sta Z h60 "java/util/ArrayList" "DEFAULTCAPACITY_EMPTY_ELEMENTDATA" "[Ljava/lang/Object;" (.ref ed) := Fa53.wr W60
  have Fa62 : Sta Z h60 "com/example/hollow_tree/hollowtree/query/IdentityTable" "NONE" "[Ljava/lang/Object;" (.ref no) := Fa54.wr W60
  have Fa63 : Arv Z h60 no kN (.object "java/lang/Object") (0 : Int32) [] .null := Fa55.other W60 ne_no_b1
  have Fa64 : Exa Z h60 no "[Ljava/lang/Object;" := Fa56.wr W60
  have Fa65 : Exa Z h60 b1 "[[I" := Fa57.wr W60
  have Fa66 : own_R Z h60 r0 := Fa58.wr W60
  have Fa67 : own_R Z h60 r1 := R35.wr W60
  refine own_st (T' := T60) (g' := (mkF m 77 #[.val (.int p1), .val (.int p2), .val (.int p3), .val (.int p4), .val (.int z6), .val (.int z15), .val (.int z27), .val (.ref b1), .unset, .unset, .unset, .unset, .unset, .unset, .unset, .unset, .unset] [])) (fun _ k => (st60) _ k) ?_
  refine own_st (T' := T60) (g' := (mkF m 79 #[.val (.int p1), .val (.int p2), .val (.int p3), .val (.int p4), .val (.int z6), .val (.int z15), .val (.int z27), .val (.ref b1), .unset, .unset, .unset, .unset, .unset, .unset, .unset, .unset, .unset] [(.ref b1)])) (fun _ k => Jvm.Free.XS.aload (g := (mkF m 77 #[.val (.int p1), .val (.int p2), .val (.int p3), .val (.int p4), .val (.int z6), .val (.int z15), .val (.int z27), .val (.ref b1), .unset, .unset, .unset, .unset, .unset, .unset, .unset, .unset, .unset] [])) X60.here hx rfl (hb hby at_77) rfl rfl k) ?_
  suffices J68 : ∀ (T' : State) (h' : Heap) (lc' : List Loc) (r : Value) (X' : Stand p l e room_1 s m #[(.int p1), (.int p2), (.int p3), (.int p4)] below meth c T' lc' 4 7) (e' : T'.heap = h') (E' : Ext h60 h') (N' : Fr n0 lc') (R' : own_R Z h' r), own_Goes p e below (fun o U' => ∃ v L, o = .returned v ∧ Q0 Z p1 p2 p3 p4 h0 n0 v U'.heap L ∧ FrameEnd s o U' L room_1.cells room_1.slots) T' (mkF m 97 #[.val (.int p1), .val (.int p2), .val (.int p3), .val (.int p4), .val (.int z6), .val (.int z15), .val (.int z27), .val (.ref b1), .unset, .unset, .unset, .unset, .unset, .unset, .unset, .unset, .unset] [r, (.int (2 : Int32)), (.ref b1)]) by
    refine own_st (T' := T60) (g' := (mkF m 80 #[.val (.int p1), .val (.int p2), .val (.int p3), .val (.int p4), .val (.int z6), .val (.int z15), .val (.int z27), .val (.ref b1), .unset, .unset, .unset, .unset, .unset, .unset, .unset, .unset, .unset] [(.int (2 : Int32)), (.ref b1)])) (fun _ k => XS.iconst (g := (mkF m 79 #[.val (.int p1), .val (.int p2), .val (.int p3), .val (.int p4), .val (.int z6), .val (.int z15), .val (.int z27), .val (.ref b1), .unset, .unset, .unset, .unset, .unset, .unset, .unset, .unset, .unset] [(.ref b1)])) X60.here hx rfl (hb hby at_79) k) ?_
    refine own_st (T' := T60) (g' := (mkF m 81 #[.val (.int p1), .val (.int p2), .val (.int p3), .val (.int p4), .val (.int z6), .val (.int z15), .val (.int z27), .val (.ref b1), .unset, .unset, .unset, .unset, .unset, .unset, .unset, .unset, .unset] [(.int p3), (.int (2 : Int32)), (.ref b1)])) (fun _ k => Jvm.Free.XS.iloadN (g := (mkF m 80 #[.val (.int p1), .val (.int p2), .val (.int p3), .val (.int p4), .val (.int z6), .val (.int z15), .val (.int z27), .val (.ref b1), .unset, .unset, .unset, .unset, .unset, .unset, .unset, .unset, .unset] [(.int (2 : Int32)), (.ref b1)])) X60.here hx rfl (hb hby at_80) rfl k) ?_
    refine own_st (T' := T60) (g' := (mkF m 82 #[.val (.int p1), .val (.int p2), .val (.int p3), .val (.int p4), .val (.int z6), .val (.int z15), .val (.int z27), .val (.ref b1), .unset, .unset, .unset, .unset, .unset, .unset, .unset, .unset, .unset] [(.int (4 : Int32)), (.int p3), (.int (2 : Int32)), (.ref b1)])) (fun _ k => XS.iconst (g := (mkF m 81 #[.val (.int p1), .val (.int p2), .val (.int p3), .val (.int p4), .val (.int z6), .val (.int z15), .val (.int z27), .val (.ref b1), .unset, .unset, .unset, .unset, .unset, .unset, .unset, .unset, .unset] [(.int p3), (.int (2 : Int32)), (.ref b1)])) X60.here hx rfl (hb hby at_81) k) ?_
    refine own_st (T' := T60) (g' := (mkF m 83 #[.val (.int p1), .val (.int p2), .val (.int p3), .val (.int p4), .val (.int z6), .val (.int z15), .val (.int z27), .val (.ref b1), .unset, .unset, .unset, .unset, .unset, .unset, .unset, .unset, .unset] [(.int (p3 &&& (4 : Int32))), (.int (2 : Int32)), (.ref b1)])) (fun _ k => Jvm.Free.XS.iand (g := (mkF m 82 #[.val (.int p1), .val (.int p2), .val (.int p3), .val (.int p4), .val (.int z6), .val (.int z15), .val (.int z27), .val (.ref b1), .unset, .unset, .unset, .unset, .unset, .unset, .unset, .unset, .unset] [(.int (4 : Int32)), (.int p3), (.int (2 : Int32)), (.ref b1)])) X60.here hx rfl (hb hby at_82) rfl k) ?_
    by_cases hc83 : (p3 &&& (4 : Int32)) = (0 : Int32)
    · refine own_st (T' := T60) (g' := (mkF m 90 #[.val (.int p1), .val (.int p2), .val (.int p3), .val (.int p4), .val (.int z6), .val (.int z15), .val (.int z27), .val (.ref b1), .unset, .unset, .unset, .unset, .unset, .unset, .unset, .unset, .unset] [(.int (2 : Int32)), (.ref b1)])) (fun _ k => XS.ifYes (g := (mkF m 83 #[.val (.int p1), .val (.int p2), .val (.int p3), .val (.int p4), .val (.int z6), .val (.int z15), .val (.int z27), .val (.ref b1), .unset, .unset, .unset, .unset, .unset, .unset, .unset, .unset, .unset] [(.int (p3 &&& (4 : Int32))), (.int (2 : Int32)), (.ref b1)])) X60.here hx rfl (pc0 := 83) (pc' := 90) rfl (hb hby at_83) rfl ((if0 _ _).trans (teq hc83).1) (by decide) (by decide) k) ?_
      refine own_st (T' := T60) (g' := (mkF m 91 #[.val (.int p1), .val (.int p2), .val (.int p3), .val (.int p4), .val (.int z6), .val (.int z15), .val (.int z27), .val (.ref b1), .unset, .unset, .unset, .unset, .unset, .unset, .unset, .unset, .unset] [(.int (1 : Int32)), (.int (2 : Int32)), (.ref b1)])) (fun _ k => XS.iconst (g := (mkF m 90 #[.val (.int p1), .val (.int p2), .val (.int p3), .val (.int p4), .val (.int z6), .val (.int z15), .val (.int z27), .val (.ref b1), .unset, .unset, .unset, .unset, .unset, .unset, .unset, .unset, .unset] [(.int (2 : Int32)), (.ref b1)])) X60.here hx rfl (hb hby at_90) k) ?_
      obtain ⟨T69, h69, k69, X69, e69, E69, A69, Ex69, st69⟩ := newPE X60 hx hZ (hw _ (List.mem_of_getElem? (i := 3) rfl)) e60 (g := (mkF m 91 #[.val (.int p1), .val (.int p2), .val (.int p3), .val (.int p4), .val (.int z6), .val (.int z15), .val (.int z27), .val (.ref b1), .unset, .unset, .unset, .unset, .unset, .unset, .unset, .unset, .unset] [(.int (1 : Int32)), (.int (2 : Int32)), (.ref b1)])) rfl (hb hby at_91) rfl (by decide) (cap := 1) (by decide) (by decide) (by decide) (by decide) (ad := "[I") (by decide)
      obtain ⟨b69, g69⟩ : ∃ z, z = h60.size := ⟨_, rfl⟩
      rw [← g69] at A69 st69 Ex69
      have ne_no_b69 : no ≠ b69 := Nat.ne_of_lt (Nat.lt_of_lt_of_le Fa63.lt (Nat.le_of_eq g69.symm))
      have ne_b1_b69 : b1 ≠ b69 := Nat.ne_of_lt (Nat.lt_of_lt_of_le Fa65.lt (Nat.le_of_eq g69.symm))
      have gn_b69 : n0 ≤ b69 := Nat.le_trans Zs60 (Nat.le_of_eq g69.symm)
      have Zs69 : n0 ≤ h69.size := Nat.le_trans Zs60 E69.1
      have Fa70 : Sta Z h69 "java/util/ArrayList" "DEFAULTCAPACITY_EMPTY_ELEMENTDATA" "[Ljava/lang/Object;" (.ref ed) := Fa61.ext E69
      have Fa71 : Sta Z h69 "com/example/hollow_tree/hollowtree/query/IdentityTable" "NONE" "[Ljava/lang/Object;" (.ref no) := Fa62.ext E69
      have Fa72 : Arv Z h69 no kN (.object "java/lang/Object") (0 : Int32) [] .null := Fa63.ext E69
      have Fa73 : Exa Z h69 no "[Ljava/lang/Object;" := Fa64.ext E69
      have Fa74 : Exa Z h69 b1 "[[I" := Fa65.ext E69
      have Fa75 : own_R Z h69 r0 := Fa66.ext E69
      have Fa76 : own_R Z h69 r1 := Fa67.ext E69
      have Fa77 : Arv Z h69 b1 k1 (.array .int) (4 : Int32) [r0, r1, .null, .null] .null := V60.ext E69
      have V69 : Arv Z h69 b69 k69 .int (1 : Int32) [(.int (0 : Int32))] (.int (0 : Int32)) := (Arv.new A69 (by decide)).pad (pad_rep [] (.int (0 : Int32)) 1)
      refine own_st (T' := T69) (g' := (mkF m 93 #[.val (.int p1), .val (.int p2), .val (.int p3), .val (.int p4), .val (.int z6), .val (.int z15), .val (.int z27), .val (.ref b1), .unset, .unset, .unset, .unset, .unset, .unset, .unset, .unset, .unset] [(.ref b69), (.int (2 : Int32)), (.ref b1)])) (fun _ k => (st69) _ k) ?_
      refine own_st (T' := T69) (g' := (mkF m 94 #[.val (.int p1), .val (.int p2), .val (.int p3), .val (.int p4), .val (.int z6), .val (.int z15), .val (.int z27), .val (.ref b1), .unset, .unset, .unset, .unset, .unset, .unset, .unset, .unset, .unset] [(.ref b69), (.ref b69), (.int (2 : Int32)), (.ref b1)])) (fun _ k => XS.dup (g := (mkF m 93 #[.val (.int p1), .val (.int p2), .val (.int p3), .val (.int p4), .val (.int z6), .val (.int z15), .val (.int z27), .val (.ref b1), .unset, .unset, .unset, .unset, .unset, .unset, .unset, .unset, .unset] [(.ref b69), (.int (2 : Int32)), (.ref b1)])) X69.here hx rfl (hb hby at_93) rfl rfl k) ?_
      refine own_st (T' := T69) (g' := (mkF m 95 #[.val (.int p1), .val (.int p2), .val (.int p3), .val (.int p4), .val (.int z6), .val (.int z15), .val (.int z27), .val (.ref b1), .unset, .unset, .unset, .unset, .unset, .unset, .unset, .unset, .unset] [(.int (0 : Int32)), (.ref b69), (.ref b69), (.int (2 : Int32)), (.ref b1)])) (fun _ k => XS.iconst (g := (mkF m 94 #[.val (.int p1), .val (.int p2), .val (.int p3), .val (.int p4), .val (.int z6), .val (.int z15), .val (.int z27), .val (.ref b1), .unset, .unset, .unset, .unset, .unset, .unset, .unset, .unset, .unset] [(.ref b69), (.ref b69), (.int (2 : Int32)), (.ref b1)])) X69.here hx rfl (hb hby at_94) k) ?_
      refine own_st (T' := T69) (g' := (mkF m 96 #[.val (.int p1), .val (.int p2), .val (.int p3), .val (.int p4), .val (.int z6), .val (.int z15), .val (.int z27), .val (.ref b1), .unset, .unset, .unset, .unset, .unset, .unset, .unset, .unset, .unset] [(.int p4), (.int (0 : Int32)), (.ref b69), (.ref b69), (.int (2 : Int32)), (.ref b1)])) (fun _ k => Jvm.Free.XS.iloadN (g := (mkF m 95 #[.val (.int p1), .val (.int p2), .val (.int p3), .val (.int p4), .val (.int z6), .val (.int z15), .val (.int z27), .val (.ref b1), .unset, .unset, .unset, .unset, .unset, .unset, .unset, .unset, .unset] [(.int (0 : Int32)), (.ref b69), (.ref b69), (.int (2 : Int32)), (.ref b1)])) X69.here hx rfl (hb hby at_95) rfl k) ?_
      obtain ⟨cl78, Ar78, qk78, Sz78, Nn78, Hs78, Gs78⟩ := V69
      have hin78 : ¬ ((0 : Int32) < 0 ∨ cl78.slots.size ≤ ((0 : Int32)).toNatClampNeg) := inb_of Sz78 ⟨by decide, by decide⟩
      obtain ⟨T78, h78, X78, e78, W78, st78⟩ := stI X69 hx hZ e69 Ar78 (j := (0 : Int32)) hin78 (g := (mkF m 96 #[.val (.int p1), .val (.int p2), .val (.int p3), .val (.int p4), .val (.int z6), .val (.int z15), .val (.int z27), .val (.ref b1), .unset, .unset, .unset, .unset, .unset, .unset, .unset, .unset, .unset] [(.int p4), (.int (0 : Int32)), (.ref b69), (.ref b69), (.int (2 : Int32)), (.ref b1)])) rfl rfl (hb hby at_96)
      have V78 : Arv Z h78 b69 k69 .int (1 : Int32) [(.int p4)] (.int (0 : Int32)) := Arv.set Ar78 qk78 Sz78 Nn78 Hs78 Gs78 rfl W78 0 rfl (Nat.le_of_ble_eq_true rfl)
      have Zs78 : n0 ≤ h78.size := Nat.le_trans Zs69 (Keep.of_wr W78).1
      obtain ⟨lc78, X78, N78⟩ := own_loc X78 (Fr.snoc X78 N60 gn_b69)
      have Fa79 : Sta Z h78 "java/util/ArrayList" "DEFAULTCAPACITY_EMPTY_ELEMENTDATA" "[Ljava/lang/Object;" (.ref ed) := Fa70.wr W78
      have Fa80 : Sta Z h78 "com/example/hollow_tree/hollowtree/query/IdentityTable" "NONE" "[Ljava/lang/Object;" (.ref no) := Fa71.wr W78
      have Fa81 : Arv Z h78 no kN (.object "java/lang/Object") (0 : Int32) [] .null := Fa72.other W78 ne_no_b69
      have Fa82 : Exa Z h78 no "[Ljava/lang/Object;" := Fa73.wr W78
      have Fa83 : Exa Z h78 b1 "[[I" := Fa74.wr W78
      have Fa84 : own_R Z h78 r0 := Fa75.wr W78
      have Fa85 : own_R Z h78 r1 := Fa76.wr W78
      have Fa86 : Arv Z h78 b1 k1 (.array .int) (4 : Int32) [r0, r1, .null, .null] .null := Fa77.other W78 ne_b1_b69
      have Fa87 : Exa Z h78 b69 "[I" := Ex69.wr W78
      refine own_st (T' := T78) (g' := (mkF m 97 #[.val (.int p1), .val (.int p2), .val (.int p3), .val (.int p4), .val (.int z6), .val (.int z15), .val (.int z27), .val (.ref b1), .unset, .unset, .unset, .unset, .unset, .unset, .unset, .unset, .unset] [(.ref b69), (.int (2 : Int32)), (.ref b1)])) (fun _ k => (st78) _ k) ?_
      exact J68 _ _ _ _ X78 e78 (own_ext_wr E69 W78 (Nat.le_of_eq g69.symm)) N78 (Or.inr ⟨b69, rfl, Fa87⟩)
    · refine own_st (T' := T60) (g' := (mkF m 86 #[.val (.int p1), .val (.int p2), .val (.int p3), .val (.int p4), .val (.int z6), .val (.int z15), .val (.int z27), .val (.ref b1), .unset, .unset, .unset, .unset, .unset, .unset, .unset, .unset, .unset] [(.int (2 : Int32)), (.ref b1)])) (fun _ k => XS.ifNo (g := (mkF m 83 #[.val (.int p1), .val (.int p2), .val (.int p3), .val (.int p4), .val (.int z6), .val (.int z15), .val (.int z27), .val (.ref b1), .unset, .unset, .unset, .unset, .unset, .unset, .unset, .unset, .unset] [(.int (p3 &&& (4 : Int32))), (.int (2 : Int32)), (.ref b1)])) X60.here hx rfl (hb hby at_83) rfl ((if0 _ _).trans (feq hc83).1) k) ?_
      refine own_st (T' := T60) (g' := (mkF m 87 #[.val (.int p1), .val (.int p2), .val (.int p3), .val (.int p4), .val (.int z6), .val (.int z15), .val (.int z27), .val (.ref b1), .unset, .unset, .unset, .unset, .unset, .unset, .unset, .unset, .unset] [.null, (.int (2 : Int32)), (.ref b1)])) (fun _ k => XS.aconstNull (g := (mkF m 86 #[.val (.int p1), .val (.int p2), .val (.int p3), .val (.int p4), .val (.int z6), .val (.int z15), .val (.int z27), .val (.ref b1), .unset, .unset, .unset, .unset, .unset, .unset, .unset, .unset, .unset] [(.int (2 : Int32)), (.ref b1)])) X60.here hx rfl (hb hby at_86) k) ?_
      refine own_st (T' := T60) (g' := (mkF m 97 #[.val (.int p1), .val (.int p2), .val (.int p3), .val (.int p4), .val (.int z6), .val (.int z15), .val (.int z27), .val (.ref b1), .unset, .unset, .unset, .unset, .unset, .unset, .unset, .unset, .unset] [.null, (.int (2 : Int32)), (.ref b1)])) (fun _ k => XS.goto (g := (mkF m 87 #[.val (.int p1), .val (.int p2), .val (.int p3), .val (.int p4), .val (.int z6), .val (.int z15), .val (.int z27), .val (.ref b1), .unset, .unset, .unset, .unset, .unset, .unset, .unset, .unset, .unset] [.null, (.int (2 : Int32)), (.ref b1)])) X60.here hx rfl (pc0 := 87) (pc' := 97) rfl (hb hby at_87) (by decide) (by decide) k) ?_
      exact J68 _ _ _ _ (X60.more (by decide) (by decide)) e60 (own_ext_refl _) N60 (Or.inl rfl)
  intro T68 h68 lc68 r2 X68 e68 E68 N68 R68
  have Zs68 : n0 ≤ h68.size := Nat.le_trans Zs60 E68.1
  have Fa88 : Sta Z h68 "java/util/ArrayList" "DEFAULTCAPACITY_EMPTY_ELEMENTDATA" "[Ljava/lang/Object;" (.ref ed) := Fa61.ext E68
  have Fa89 : Sta Z h68 "com/example/hollow_tree/hollowtree/query/IdentityTable" "NONE" "[Ljava/lang/Object;" (.ref no) := Fa62.ext E68
  have Fa90 : Arv Z h68 no kN (.object "java/lang/Object") (0 : Int32) [] .null := Fa63.ext E68
  have Fa91 : Exa Z h68 no "[Ljava/lang/Object;" := Fa64.ext E68
  have Fa92 : Exa Z h68 b1 "[[I" := Fa65.ext E68
  have Fa93 : own_R Z h68 r0 := Fa66.ext E68
  have Fa94 : own_R Z h68 r1 := Fa67.ext E68
  have Fa95 : Arv Z h68 b1 k1 (.array .int) (4 : Int32) [r0, r1, .null, .null] .null := V60.ext E68
  obtain ⟨cl96, Ar96, qk96, Sz96, Nn96, Hs96, Gs96⟩ := Fa95
  have hin96 : ¬ ((2 : Int32) < 0 ∨ cl96.slots.size ≤ ((2 : Int32)).toNatClampNeg) := inb_of Sz96 ⟨by decide, by decide⟩
  obtain ⟨T96, h96, X96, e96, W96, st96⟩ := stR X68 hx hZ e68 Ar96 (j := (2 : Int32)) hin96 rfl (R68.stoA Ar96 qk96 O1) (g := (mkF m 97 #[.val (.int p1), .val (.int p2), .val (.int p3), .val (.int p4), .val (.int z6), .val (.int z15), .val (.int z27), .val (.ref b1), .unset, .unset, .unset, .unset, .unset, .unset, .unset, .unset, .unset] [r2, (.int (2 : Int32)), (.ref b1)])) rfl rfl (hb hby at_97)
  have V96 : Arv Z h96 b1 k1 (.array .int) (4 : Int32) [r0, r1, r2, .null] .null := Arv.set Ar96 qk96 Sz96 Nn96 Hs96 Gs96 (own_fitsA (R68.rf)) W96 2 rfl (Nat.le_of_ble_eq_true rfl)
  have Zs96 : n0 ≤ h96.size := Nat.le_trans Zs68 (Keep.of_wr W96).1
  obtain ⟨lc96, X96, N96⟩ := own_loc X96 (Fr.snoc X96 N68 gn_b1)
  have Fa97 : Sta Z h96 "java/util/ArrayList" "DEFAULTCAPACITY_EMPTY_ELEMENTDATA" "[Ljava/lang/Object;" (.ref ed) := Fa88.wr W96
  have Fa98 : Sta Z h96 "com/example/hollow_tree/hollowtree/query/IdentityTable" "NONE" "[Ljava/lang/Object;" (.ref no) := Fa89.wr W96
  have Fa99 : Arv Z h96 no kN (.object "java/lang/Object") (0 : Int32) [] .null := Fa90.other W96 ne_no_b1
  have Fa100 : Exa Z h96 no "[Ljava/lang/Object;" := Fa91.wr W96
  have Fa101 : Exa Z h96 b1 "[[I" := Fa92.wr W96
  have Fa102 : own_R Z h96 r0 := Fa93.wr W96
  have Fa103 : own_R Z h96 r1 := Fa94.wr W96
  have Fa104 : own_R Z h96 r2 := R68.wr W96
  refine own_st (T' := T96) (g' := (mkF m 98 #[.val (.int p1), .val (.int p2), .val (.int p3), .val (.int p4), .val (.int z6), .val (.int z15), .val (.int z27), .val (.ref b1), .unset, .unset, .unset, .unset, .unset, .unset, .unset, .unset, .unset] [])) (fun _ k => (st96) _ k) ?_
  refine own_st (T' := T96) (g' := (mkF m 100 #[.val (.int p1), .val (.int p2), .val (.int p3), .val (.int p4), .val (.int z6), .val (.int z15), .val (.int z27), .val (.ref b1), .unset, .unset, .unset, .unset, .unset, .unset, .unset, .unset, .unset] [(.ref b1)])) (fun _ k => Jvm.Free.XS.aload (g := (mkF m 98 #[.val (.int p1), .val (.int p2), .val (.int p3), .val (.int p4), .val (.int z6), .val (.int z15), .val (.int z27), .val (.ref b1), .unset, .unset, .unset, .unset, .unset, .unset, .unset, .unset, .unset] [])) X96.here hx rfl (hb hby at_98) rfl rfl k) ?_
  suffices J105 : ∀ (T' : State) (h' : Heap) (lc' : List Loc) (r : Value) (X' : Stand p l e room_1 s m #[(.int p1), (.int p2), (.int p3), (.int p4)] below meth c T' lc' 5 8) (e' : T'.heap = h') (E' : Ext h96 h') (N' : Fr n0 lc') (R' : own_R Z h' r), own_Goes p e below (fun o U' => ∃ v L, o = .returned v ∧ Q0 Z p1 p2 p3 p4 h0 n0 v U'.heap L ∧ FrameEnd s o U' L room_1.cells room_1.slots) T' (mkF m 119 #[.val (.int p1), .val (.int p2), .val (.int p3), .val (.int p4), .val (.int z6), .val (.int z15), .val (.int z27), .val (.ref b1), .unset, .unset, .unset, .unset, .unset, .unset, .unset, .unset, .unset] [r, (.int (3 : Int32)), (.ref b1)]) by
    refine own_st (T' := T96) (g' := (mkF m 101 #[.val (.int p1), .val (.int p2), .val (.int p3), .val (.int p4), .val (.int z6), .val (.int z15), .val (.int z27), .val (.ref b1), .unset, .unset, .unset, .unset, .unset, .unset, .unset, .unset, .unset] [(.int (3 : Int32)), (.ref b1)])) (fun _ k => XS.iconst (g := (mkF m 100 #[.val (.int p1), .val (.int p2), .val (.int p3), .val (.int p4), .val (.int z6), .val (.int z15), .val (.int z27), .val (.ref b1), .unset, .unset, .unset, .unset, .unset, .unset, .unset, .unset, .unset] [(.ref b1)])) X96.here hx rfl (hb hby at_100) k) ?_
    refine own_st (T' := T96) (g' := (mkF m 102 #[.val (.int p1), .val (.int p2), .val (.int p3), .val (.int p4), .val (.int z6), .val (.int z15), .val (.int z27), .val (.ref b1), .unset, .unset, .unset, .unset, .unset, .unset, .unset, .unset, .unset] [(.int p3), (.int (3 : Int32)), (.ref b1)])) (fun _ k => Jvm.Free.XS.iloadN (g := (mkF m 101 #[.val (.int p1), .val (.int p2), .val (.int p3), .val (.int p4), .val (.int z6), .val (.int z15), .val (.int z27), .val (.ref b1), .unset, .unset, .unset, .unset, .unset, .unset, .unset, .unset, .unset] [(.int (3 : Int32)), (.ref b1)])) X96.here hx rfl (hb hby at_101) rfl k) ?_
    refine own_st (T' := T96) (g' := (mkF m 104 #[.val (.int p1), .val (.int p2), .val (.int p3), .val (.int p4), .val (.int z6), .val (.int z15), .val (.int z27), .val (.ref b1), .unset, .unset, .unset, .unset, .unset, .unset, .unset, .unset, .unset] [(.int (8 : Int32)), (.int p3), (.int (3 : Int32)), (.ref b1)])) (fun _ k => XS.bipush (g := (mkF m 102 #[.val (.int p1), .val (.int p2), .val (.int p3), .val (.int p4), .val (.int z6), .val (.int z15), .val (.int z27), .val (.ref b1), .unset, .unset, .unset, .unset, .unset, .unset, .unset, .unset, .unset] [(.int p3), (.int (3 : Int32)), (.ref b1)])) X96.here hx rfl (hb hby at_102) k) ?_
    refine own_st (T' := T96) (g' := (mkF m 105 #[.val (.int p1), .val (.int p2), .val (.int p3), .val (.int p4), .val (.int z6), .val (.int z15), .val (.int z27), .val (.ref b1), .unset, .unset, .unset, .unset, .unset, .unset, .unset, .unset, .unset] [(.int (p3 &&& (8 : Int32))), (.int (3 : Int32)), (.ref b1)])) (fun _ k => Jvm.Free.XS.iand (g := (mkF m 104 #[.val (.int p1), .val (.int p2), .val (.int p3), .val (.int p4), .val (.int z6), .val (.int z15), .val (.int z27), .val (.ref b1), .unset, .unset, .unset, .unset, .unset, .unset, .unset, .unset, .unset] [(.int (8 : Int32)), (.int p3), (.int (3 : Int32)), (.ref b1)])) X96.here hx rfl (hb hby at_104) rfl k) ?_
    by_cases hc105 : (p3 &&& (8 : Int32)) = (0 : Int32)
    · refine own_st (T' := T96) (g' := (mkF m 112 #[.val (.int p1), .val (.int p2), .val (.int p3), .val (.int p4), .val (.int z6), .val (.int z15), .val (.int z27), .val (.ref b1), .unset, .unset, .unset, .unset, .unset, .unset, .unset, .unset, .unset] [(.int (3 : Int32)), (.ref b1)])) (fun _ k => XS.ifYes (g := (mkF m 105 #[.val (.int p1), .val (.int p2), .val (.int p3), .val (.int p4), .val (.int z6), .val (.int z15), .val (.int z27), .val (.ref b1), .unset, .unset, .unset, .unset, .unset, .unset, .unset, .unset, .unset] [(.int (p3 &&& (8 : Int32))), (.int (3 : Int32)), (.ref b1)])) X96.here hx rfl (pc0 := 105) (pc' := 112) rfl (hb hby at_105) rfl ((if0 _ _).trans (teq hc105).1) (by decide) (by decide) k) ?_
      refine own_st (T' := T96) (g' := (mkF m 113 #[.val (.int p1), .val (.int p2), .val (.int p3), .val (.int p4), .val (.int z6), .val (.int z15), .val (.int z27), .val (.ref b1), .unset, .unset, .unset, .unset, .unset, .unset, .unset, .unset, .unset] [(.int (1 : Int32)), (.int (3 : Int32)), (.ref b1)])) (fun _ k => XS.iconst (g := (mkF m 112 #[.val (.int p1), .val (.int p2), .val (.int p3), .val (.int p4), .val (.int z6), .val (.int z15), .val (.int z27), .val (.ref b1), .unset, .unset, .unset, .unset, .unset, .unset, .unset, .unset, .unset] [(.int (3 : Int32)), (.ref b1)])) X96.here hx rfl (hb hby at_112) k) ?_
      obtain ⟨T106, h106, k106, X106, e106, E106, A106, Ex106, st106⟩ := newPE X96 hx hZ (hw _ (List.mem_of_getElem? (i := 3) rfl)) e96 (g := (mkF m 113 #[.val (.int p1), .val (.int p2), .val (.int p3), .val (.int p4), .val (.int z6), .val (.int z15), .val (.int z27), .val (.ref b1), .unset, .unset, .unset, .unset, .unset, .unset, .unset, .unset, .unset] [(.int (1 : Int32)), (.int (3 : Int32)), (.ref b1)])) rfl (hb hby at_113) rfl (by decide) (cap := 1) (by decide) (by decide) (by decide) (by decide) (ad := "[I") (by decide)
      obtain ⟨b106, g106⟩ : ∃ z, z = h96.size := ⟨_, rfl⟩
      rw [← g106] at A106 st106 Ex106
      have ne_no_b106 : no ≠ b106 := Nat.ne_of_lt (Nat.lt_of_lt_of_le Fa99.lt (Nat.le_of_eq g106.symm))
      have ne_b1_b106 : b1 ≠ b106 := Nat.ne_of_lt (Nat.lt_of_lt_of_le Fa101.lt (Nat.le_of_eq g106.symm))
      have gn_b106 : n0 ≤ b106 := Nat.le_trans Zs96 (Nat.le_of_eq g106.symm)
      have Zs106 : n0 ≤ h106.size := Nat.le_trans Zs96 E106.1
      have Fa107 : Sta Z h106 "java/util/ArrayList" "DEFAULTCAPACITY_EMPTY_ELEMENTDATA" "[Ljava/lang/Object;" (.ref ed) := Fa97.ext E106
      have Fa108 : Sta Z h106 "com/example/hollow_tree/hollowtree/query/IdentityTable" "NONE" "[Ljava/lang/Object;" (.ref no) := Fa98.ext E106
      have Fa109 : Arv Z h106 no kN (.object "java/lang/Object") (0 : Int32) [] .null := Fa99.ext E106
      have Fa110 : Exa Z h106 no "[Ljava/lang/Object;" := Fa100.ext E106
      have Fa111 : Exa Z h106 b1 "[[I" := Fa101.ext E106
      have Fa112 : own_R Z h106 r0 := Fa102.ext E106
      have Fa113 : own_R Z h106 r1 := Fa103.ext E106
      have Fa114 : own_R Z h106 r2 := Fa104.ext E106
      have Fa115 : Arv Z h106 b1 k1 (.array .int) (4 : Int32) [r0, r1, r2, .null] .null := V96.ext E106
      have V106 : Arv Z h106 b106 k106 .int (1 : Int32) [(.int (0 : Int32))] (.int (0 : Int32)) := (Arv.new A106 (by decide)).pad (pad_rep [] (.int (0 : Int32)) 1)
      refine own_st (T' := T106) (g' := (mkF m 115 #[.val (.int p1), .val (.int p2), .val (.int p3), .val (.int p4), .val (.int z6), .val (.int z15), .val (.int z27), .val (.ref b1), .unset, .unset, .unset, .unset, .unset, .unset, .unset, .unset, .unset] [(.ref b106), (.int (3 : Int32)), (.ref b1)])) (fun _ k => (st106) _ k) ?_
      refine own_st (T' := T106) (g' := (mkF m 116 #[.val (.int p1), .val (.int p2), .val (.int p3), .val (.int p4), .val (.int z6), .val (.int z15), .val (.int z27), .val (.ref b1), .unset, .unset, .unset, .unset, .unset, .unset, .unset, .unset, .unset] [(.ref b106), (.ref b106), (.int (3 : Int32)), (.ref b1)])) (fun _ k => XS.dup (g := (mkF m 115 #[.val (.int p1), .val (.int p2), .val (.int p3), .val (.int p4), .val (.int z6), .val (.int z15), .val (.int z27), .val (.ref b1), .unset, .unset, .unset, .unset, .unset, .unset, .unset, .unset, .unset] [(.ref b106), (.int (3 : Int32)), (.ref b1)])) X106.here hx rfl (hb hby at_115) rfl rfl k) ?_
      refine own_st (T' := T106) (g' := (mkF m 117 #[.val (.int p1), .val (.int p2), .val (.int p3), .val (.int p4), .val (.int z6), .val (.int z15), .val (.int z27), .val (.ref b1), .unset, .unset, .unset, .unset, .unset, .unset, .unset, .unset, .unset] [(.int (0 : Int32)), (.ref b106), (.ref b106), (.int (3 : Int32)), (.ref b1)])) (fun _ k => XS.iconst (g := (mkF m 116 #[.val (.int p1), .val (.int p2), .val (.int p3), .val (.int p4), .val (.int z6), .val (.int z15), .val (.int z27), .val (.ref b1), .unset, .unset, .unset, .unset, .unset, .unset, .unset, .unset, .unset] [(.ref b106), (.ref b106), (.int (3 : Int32)), (.ref b1)])) X106.here hx rfl (hb hby at_116) k) ?_
      refine own_st (T' := T106) (g' := (mkF m 118 #[.val (.int p1), .val (.int p2), .val (.int p3), .val (.int p4), .val (.int z6), .val (.int z15), .val (.int z27), .val (.ref b1), .unset, .unset, .unset, .unset, .unset, .unset, .unset, .unset, .unset] [(.int p4), (.int (0 : Int32)), (.ref b106), (.ref b106), (.int (3 : Int32)), (.ref b1)])) (fun _ k => Jvm.Free.XS.iloadN (g := (mkF m 117 #[.val (.int p1), .val (.int p2), .val (.int p3), .val (.int p4), .val (.int z6), .val (.int z15), .val (.int z27), .val (.ref b1), .unset, .unset, .unset, .unset, .unset, .unset, .unset, .unset, .unset] [(.int (0 : Int32)), (.ref b106), (.ref b106), (.int (3 : Int32)), (.ref b1)])) X106.here hx rfl (hb hby at_117) rfl k) ?_
      obtain ⟨cl116, Ar116, qk116, Sz116, Nn116, Hs116, Gs116⟩ := V106
      have hin116 : ¬ ((0 : Int32) < 0 ∨ cl116.slots.size ≤ ((0 : Int32)).toNatClampNeg) := inb_of Sz116 ⟨by decide, by decide⟩
      obtain ⟨T116, h116, X116, e116, W116, st116⟩ := stI X106 hx hZ e106 Ar116 (j := (0 : Int32)) hin116 (g := (mkF m 118 #[.val (.int p1), .val (.int p2), .val (.int p3), .val (.int p4), .val (.int z6), .val (.int z15), .val (.int z27), .val (.ref b1), .unset, .unset, .unset, .unset, .unset, .unset, .unset, .unset, .unset] [(.int p4), (.int (0 : Int32)), (.ref b106), (.ref b106), (.int (3 : Int32)), (.ref b1)])) rfl rfl (hb hby at_118)
      have V116 : Arv Z h116 b106 k106 .int (1 : Int32) [(.int p4)] (.int (0 : Int32)) := Arv.set Ar116 qk116 Sz116 Nn116 Hs116 Gs116 rfl W116 0 rfl (Nat.le_of_ble_eq_true rfl)
      have Zs116 : n0 ≤ h116.size := Nat.le_trans Zs106 (Keep.of_wr W116).1
      obtain ⟨lc116, X116, N116⟩ := own_loc X116 (Fr.snoc X116 N96 gn_b106)
      have Fa117 : Sta Z h116 "java/util/ArrayList" "DEFAULTCAPACITY_EMPTY_ELEMENTDATA" "[Ljava/lang/Object;" (.ref ed) := Fa107.wr W116
      have Fa118 : Sta Z h116 "com/example/hollow_tree/hollowtree/query/IdentityTable" "NONE" "[Ljava/lang/Object;" (.ref no) := Fa108.wr W116
      have Fa119 : Arv Z h116 no kN (.object "java/lang/Object") (0 : Int32) [] .null := Fa109.other W116 ne_no_b106
      have Fa120 : Exa Z h116 no "[Ljava/lang/Object;" := Fa110.wr W116
      have Fa121 : Exa Z h116 b1 "[[I" := Fa111.wr W116
      have Fa122 : own_R Z h116 r0 := Fa112.wr W116
      have Fa123 : own_R Z h116 r1 := Fa113.wr W116
      have Fa124 : own_R Z h116 r2 := Fa114.wr W116
      have Fa125 : Arv Z h116 b1 k1 (.array .int) (4 : Int32) [r0, r1, r2, .null] .null := Fa115.other W116 ne_b1_b106
      have Fa126 : Exa Z h116 b106 "[I" := Ex106.wr W116
      refine own_st (T' := T116) (g' := (mkF m 119 #[.val (.int p1), .val (.int p2), .val (.int p3), .val (.int p4), .val (.int z6), .val (.int z15), .val (.int z27), .val (.ref b1), .unset, .unset, .unset, .unset, .unset, .unset, .unset, .unset, .unset] [(.ref b106), (.int (3 : Int32)), (.ref b1)])) (fun _ k => (st116) _ k) ?_
      exact J105 _ _ _ _ X116 e116 (own_ext_wr E106 W116 (Nat.le_of_eq g106.symm)) N116 (Or.inr ⟨b106, rfl, Fa126⟩)
    · refine own_st (T' := T96) (g' := (mkF m 108 #[.val (.int p1), .val (.int p2), .val (.int p3), .val (.int p4), .val (.int z6), .val (.int z15), .val (.int z27), .val (.ref b1), .unset, .unset, .unset, .unset, .unset, .unset, .unset, .unset, .unset] [(.int (3 : Int32)), (.ref b1)])) (fun _ k => XS.ifNo (g := (mkF m 105 #[.val (.int p1), .val (.int p2), .val (.int p3), .val (.int p4), .val (.int z6), .val (.int z15), .val (.int z27), .val (.ref b1), .unset, .unset, .unset, .unset, .unset, .unset, .unset, .unset, .unset] [(.int (p3 &&& (8 : Int32))), (.int (3 : Int32)), (.ref b1)])) X96.here hx rfl (hb hby at_105) rfl ((if0 _ _).trans (feq hc105).1) k) ?_
      refine own_st (T' := T96) (g' := (mkF m 109 #[.val (.int p1), .val (.int p2), .val (.int p3), .val (.int p4), .val (.int z6), .val (.int z15), .val (.int z27), .val (.ref b1), .unset, .unset, .unset, .unset, .unset, .unset, .unset, .unset, .unset] [.null, (.int (3 : Int32)), (.ref b1)])) (fun _ k => XS.aconstNull (g := (mkF m 108 #[.val (.int p1), .val (.int p2), .val (.int p3), .val (.int p4), .val (.int z6), .val (.int z15), .val (.int z27), .val (.ref b1), .unset, .unset, .unset, .unset, .unset, .unset, .unset, .unset, .unset] [(.int (3 : Int32)), (.ref b1)])) X96.here hx rfl (hb hby at_108) k) ?_
      refine own_st (T' := T96) (g' := (mkF m 119 #[.val (.int p1), .val (.int p2), .val (.int p3), .val (.int p4), .val (.int z6), .val (.int z15), .val (.int z27), .val (.ref b1), .unset, .unset, .unset, .unset, .unset, .unset, .unset, .unset, .unset] [.null, (.int (3 : Int32)), (.ref b1)])) (fun _ k => XS.goto (g := (mkF m 109 #[.val (.int p1), .val (.int p2), .val (.int p3), .val (.int p4), .val (.int z6), .val (.int z15), .val (.int z27), .val (.ref b1), .unset, .unset, .unset, .unset, .unset, .unset, .unset, .unset, .unset] [.null, (.int (3 : Int32)), (.ref b1)])) X96.here hx rfl (pc0 := 109) (pc' := 119) rfl (hb hby at_109) (by decide) (by decide) k) ?_
      exact J105 _ _ _ _ (X96.more (by decide) (by decide)) e96 (own_ext_refl _) N96 (Or.inl rfl)
  intro T105 h105 lc105 r3 X105 e105 E105 N105 R105
  have Zs105 : n0 ≤ h105.size := Nat.le_trans Zs96 E105.1
  have Fa127 : Sta Z h105 "java/util/ArrayList" "DEFAULTCAPACITY_EMPTY_ELEMENTDATA" "[Ljava/lang/Object;" (.ref ed) := Fa97.ext E105
  have Fa128 : Sta Z h105 "com/example/hollow_tree/hollowtree/query/IdentityTable" "NONE" "[Ljava/lang/Object;" (.ref no) := Fa98.ext E105
  have Fa129 : Arv Z h105 no kN (.object "java/lang/Object") (0 : Int32) [] .null := Fa99.ext E105
  have Fa130 : Exa Z h105 no "[Ljava/lang/Object;" := Fa100.ext E105
  have Fa131 : Exa Z h105 b1 "[[I" := Fa101.ext E105
  have Fa132 : own_R Z h105 r0 := Fa102.ext E105
  have Fa133 : own_R Z h105 r1 := Fa103.ext E105
  have Fa134 : own_R Z h105 r2 := Fa104.ext E105
  have Fa135 : Arv Z h105 b1 k1 (.array .int) (4 : Int32) [r0, r1, r2, .null] .null := V96.ext E105
  obtain ⟨cl136, Ar136, qk136, Sz136, Nn136, Hs136, Gs136⟩ := Fa135
  have hin136 : ¬ ((3 : Int32) < 0 ∨ cl136.slots.size ≤ ((3 : Int32)).toNatClampNeg) := inb_of Sz136 ⟨by decide, by decide⟩
  obtain ⟨T136, h136, X136, e136, W136, st136⟩ := stR X105 hx hZ e105 Ar136 (j := (3 : Int32)) hin136 rfl (R105.stoA Ar136 qk136 O1) (g := (mkF m 119 #[.val (.int p1), .val (.int p2), .val (.int p3), .val (.int p4), .val (.int z6), .val (.int z15), .val (.int z27), .val (.ref b1), .unset, .unset, .unset, .unset, .unset, .unset, .unset, .unset, .unset] [r3, (.int (3 : Int32)), (.ref b1)])) rfl rfl (hb hby at_119)
  have V136 : Arv Z h136 b1 k1 (.array .int) (4 : Int32) [r0, r1, r2, r3] .null := Arv.set Ar136 qk136 Sz136 Nn136 Hs136 Gs136 (own_fitsA (R105.rf)) W136 3 rfl (Nat.le_of_ble_eq_true rfl)
  have Zs136 : n0 ≤ h136.size := Nat.le_trans Zs105 (Keep.of_wr W136).1
  obtain ⟨lc136, X136, N136⟩ := own_loc X136 (Fr.snoc X136 N105 gn_b1)
  have Fa137 : Sta Z h136 "java/util/ArrayList" "DEFAULTCAPACITY_EMPTY_ELEMENTDATA" "[Ljava/lang/Object;" (.ref ed) := Fa127.wr W136
  have Fa138 : Sta Z h136 "com/example/hollow_tree/hollowtree/query/IdentityTable" "NONE" "[Ljava/lang/Object;" (.ref no) := Fa128.wr W136
  have Fa139 : Arv Z h136 no kN (.object "java/lang/Object") (0 : Int32) [] .null := Fa129.other W136 ne_no_b1
  have Fa140 : Exa Z h136 no "[Ljava/lang/Object;" := Fa130.wr W136
  have Fa141 : Exa Z h136 b1 "[[I" := Fa131.wr W136
  have Fa142 : own_R Z h136 r0 := Fa132.wr W136
  have Fa143 : own_R Z h136 r1 := Fa133.wr W136
  have Fa144 : own_R Z h136 r2 := Fa134.wr W136
  have Fa145 : own_R Z h136 r3 := R105.wr W136
  refine own_st (T' := T136) (g' := (mkF m 120 #[.val (.int p1), .val (.int p2), .val (.int p3), .val (.int p4), .val (.int z6), .val (.int z15), .val (.int z27), .val (.ref b1), .unset, .unset, .unset, .unset, .unset, .unset, .unset, .unset, .unset] [])) (fun _ k => (st136) _ k) ?_
  obtain ⟨T146, h146, X146, e146, E146, A146, D146, -, st146⟩ := newO X136 hx hZ hown (hw _ (List.mem_of_getElem? (i := 5) rfl)) (hw _ (List.mem_of_getElem? (i := 6) rfl)) (hw _ (List.mem_of_getElem? (i := 7) rfl)) e136 (g := (mkF m 120 #[.val (.int p1), .val (.int p2), .val (.int p3), .val (.int p4), .val (.int z6), .val (.int z15), .val (.int z27), .val (.ref b1), .unset, .unset, .unset, .unset, .unset, .unset, .unset, .unset, .unset] [])) rfl (hb hby at_120) (by decide) (by decide)
  obtain ⟨b146, g146⟩ : ∃ z, z = h136.size := ⟨_, rfl⟩
  rw [← g146] at A146 D146 st146
  have ne_no_b146 : no ≠ b146 := Nat.ne_of_lt (Nat.lt_of_lt_of_le Fa139.lt (Nat.le_of_eq g146.symm))
  have ne_b1_b146 : b1 ≠ b146 := Nat.ne_of_lt (Nat.lt_of_lt_of_le Fa141.lt (Nat.le_of_eq g146.symm))
  have gn_b146 : n0 ≤ b146 := Nat.le_trans Zs136 (Nat.le_of_eq g146.symm)
  have Zs146 : n0 ≤ h146.size := Nat.le_trans Zs136 E146.1
  have Fa147 : Sta Z h146 "java/util/ArrayList" "DEFAULTCAPACITY_EMPTY_ELEMENTDATA" "[Ljava/lang/Object;" (.ref ed) := Fa137.ext E146
  have Fa148 : Sta Z h146 "com/example/hollow_tree/hollowtree/query/IdentityTable" "NONE" "[Ljava/lang/Object;" (.ref no) := Fa138.ext E146
  have Fa149 : Arv Z h146 no kN (.object "java/lang/Object") (0 : Int32) [] .null := Fa139.ext E146
  have Fa150 : Exa Z h146 no "[Ljava/lang/Object;" := Fa140.ext E146
  have Fa151 : Exa Z h146 b1 "[[I" := Fa141.ext E146
  have Fa152 : own_R Z h146 r0 := Fa142.ext E146
  have Fa153 : own_R Z h146 r1 := Fa143.ext E146
  have Fa154 : own_R Z h146 r2 := Fa144.ext E146
  have Fa155 : own_R Z h146 r3 := Fa145.ext E146
  have Fa156 : Arv Z h146 b1 k1 (.array .int) (4 : Int32) [r0, r1, r2, r3] .null := V136.ext E146
  have F146_modCount : Fld Z h146 b146 "java/util/AbstractList" "modCount" "I" (.int (0 : Int32)) := D146 (Or.inl (hw _ (List.mem_of_getElem? (i := 27) rfl))) (ty := .int) (by decide)
  have F146_elementData : Fld Z h146 b146 "java/util/ArrayList" "elementData" "[Ljava/lang/Object;" .null := D146 (Or.inl (hw _ (List.mem_of_getElem? (i := 30) rfl))) (ty := (.array (.object "java/lang/Object"))) (by decide)
  refine own_st (T' := T146) (g' := (mkF m 123 #[.val (.int p1), .val (.int p2), .val (.int p3), .val (.int p4), .val (.int z6), .val (.int z15), .val (.int z27), .val (.ref b1), .unset, .unset, .unset, .unset, .unset, .unset, .unset, .unset, .unset] [(.ref b146)])) (fun _ k => (st146) _ k) ?_
  refine own_st (T' := T146) (g' := (mkF m 124 #[.val (.int p1), .val (.int p2), .val (.int p3), .val (.int p4), .val (.int z6), .val (.int z15), .val (.int z27), .val (.ref b1), .unset, .unset, .unset, .unset, .unset, .unset, .unset, .unset, .unset] [(.ref b146), (.ref b146)])) (fun _ k => XS.dup (g := (mkF m 123 #[.val (.int p1), .val (.int p2), .val (.int p3), .val (.int p4), .val (.int z6), .val (.int z15), .val (.int z27), .val (.ref b1), .unset, .unset, .unset, .unset, .unset, .unset, .unset, .unset, .unset] [(.ref b146)])) X146.here hx rfl (hb hby at_123) rfl rfl k) ?_
  obtain ⟨v157, T157, L157, X157, hQ157, st157⟩ := own_packV (X146.specialBack hx (y := (⟨"java/util/ArrayList", "<init>", "()V"⟩ : MethodName)) rfl hown (mvT hZ (hw _ (List.mem_of_getElem? (i := 8) rfl))) (mvT hZ (hw _ (List.mem_of_getElem? (i := 9) rfl))) (mvT hZ (hw _ (List.mem_of_getElem? (i := 10) rfl))) (by decide) (backOf (W := 1) (rm1 l Z a0 hw [] b146 ed h146 n0 Zs146 A146 F146_modCount F146_elementData Fa147 gn_b146) hZ (hw _ (List.mem_of_getElem? (i := 10) rfl)) (hw _ (List.mem_of_getElem? (i := 7) rfl)) (by decide) (by decide)) (g := (mkF m 124 #[.val (.int p1), .val (.int p2), .val (.int p3), .val (.int p4), .val (.int z6), .val (.int z15), .val (.int z27), .val (.ref b1), .unset, .unset, .unset, .unset, .unset, .unset, .unset, .unset, .unset] [(.ref b146), (.ref b146)])) rfl (by rw [hml]; rfl) (Steps.refl _) (a := b146) (argsL := []) (rest := [(.ref b146)]) (lenOf own_pd0_0 rfl) rfl (by show 2 * 0 + _ ≤ _; exact Nat.le_of_eq rfl) (hb hby at_124) (fun _ _ => ⟨rfl, e146, (by decide : 6 + 0 ≤ _), (by decide : 11 + 0 ≤ _)⟩))
  obtain ⟨rfl, N157q, Kq157, Fq157_0⟩ := hQ157
  obtain ⟨lc157, X157, N157⟩ := own_loc X157 (Fr.app N136 N157q)
  have Zs157 : n0 ≤ T157.heap.size := Nat.le_trans Zs146 Kq157.1
  have Fa158 : Sta Z T157.heap "java/util/ArrayList" "DEFAULTCAPACITY_EMPTY_ELEMENTDATA" "[Ljava/lang/Object;" (.ref ed) := own_sta_keep Fa147 Kq157 (nsS A146.nostat ns0)
  have Fa159 : Sta Z T157.heap "com/example/hollow_tree/hollowtree/query/IdentityTable" "NONE" "[Ljava/lang/Object;" (.ref no) := own_sta_keep Fa148 Kq157 (nsS A146.nostat ns0)
  have Fa160 : Arv Z T157.heap no kN (.object "java/lang/Object") (0 : Int32) [] .null := Fa149.keep Kq157 (ninS ne_no_b146 nin0)
  have Fa161 : Exa Z T157.heap no "[Ljava/lang/Object;" := Fa150.keep Kq157
  have Fa162 : Exa Z T157.heap b1 "[[I" := Fa151.keep Kq157
  have Fa163 : own_R Z T157.heap r0 := Fa152.keep Kq157
  have Fa164 : own_R Z T157.heap r1 := Fa153.keep Kq157
  have Fa165 : own_R Z T157.heap r2 := Fa154.keep Kq157
  have Fa166 : own_R Z T157.heap r3 := Fa155.keep Kq157
  have Fa167 : Arv Z T157.heap b1 k1 (.array .int) (4 : Int32) [r0, r1, r2, r3] .null := Fa156.keep Kq157 (ninS ne_b1_b146 nin0)
  refine own_st (T' := T157) (g' := (mkF m 127 #[.val (.int p1), .val (.int p2), .val (.int p3), .val (.int p4), .val (.int z6), .val (.int z15), .val (.int z27), .val (.ref b1), .unset, .unset, .unset, .unset, .unset, .unset, .unset, .unset, .unset] [(.ref b146)])) (fun _ k => (st157) _ k) ?_
  refine own_st (T' := T157) (g' := (mkF m 129 #[.val (.int p1), .val (.int p2), .val (.int p3), .val (.int p4), .val (.int z6), .val (.int z15), .val (.int z27), .val (.ref b1), .val (.ref b146), .unset, .unset, .unset, .unset, .unset, .unset, .unset, .unset] [])) (fun _ k => Jvm.Free.XS.astore (g := (mkF m 127 #[.val (.int p1), .val (.int p2), .val (.int p3), .val (.int p4), .val (.int z6), .val (.int z15), .val (.int z27), .val (.ref b1), .unset, .unset, .unset, .unset, .unset, .unset, .unset, .unset, .unset] [(.ref b146)])) X157.here hx rfl (hb hby at_127) rfl rfl (l' := #[.val (.int p1), .val (.int p2), .val (.int p3), .val (.int p4), .val (.int z6), .val (.int z15), .val (.int z27), .val (.ref b1), .val (.ref b146), .unset, .unset, .unset, .unset, .unset, .unset, .unset, .unset]) rfl k) ?_
  obtain ⟨T168, h168, X168, e168, E168, A168, D168, -, st168⟩ := newO X157 hx hZ hown (hw _ (List.mem_of_getElem? (i := 5) rfl)) (hw _ (List.mem_of_getElem? (i := 6) rfl)) (hw _ (List.mem_of_getElem? (i := 7) rfl)) rfl (g := (mkF m 129 #[.val (.int p1), .val (.int p2), .val (.int p3), .val (.int p4), .val (.int z6), .val (.int z15), .val (.int z27), .val (.ref b1), .val (.ref b146), .unset, .unset, .unset, .unset, .unset, .unset, .unset, .unset] [])) rfl (hb hby at_129) (by decide) (by decide)
  obtain ⟨b168, g168⟩ : ∃ z, z = T157.heap.size := ⟨_, rfl⟩
  rw [← g168] at A168 D168 st168
  have ne_no_b168 : no ≠ b168 := Nat.ne_of_lt (Nat.lt_of_lt_of_le Fa160.lt (Nat.le_of_eq g168.symm))
  have ne_b1_b168 : b1 ≠ b168 := Nat.ne_of_lt (Nat.lt_of_lt_of_le Fa162.lt (Nat.le_of_eq g168.symm))
  have ne_b146_b168 : b146 ≠ b168 := Nat.ne_of_lt (Nat.lt_of_lt_of_le Fq157_0.lt (Nat.le_of_eq g168.symm))
  have gn_b168 : n0 ≤ b168 := Nat.le_trans Zs157 (Nat.le_of_eq g168.symm)
  have Zs168 : n0 ≤ h168.size := Nat.le_trans Zs157 E168.1
  have Fa169 : Sta Z h168 "java/util/ArrayList" "DEFAULTCAPACITY_EMPTY_ELEMENTDATA" "[Ljava/lang/Object;" (.ref ed) := Fa158.ext E168
  have Fa170 : Sta Z h168 "com/example/hollow_tree/hollowtree/query/IdentityTable" "NONE" "[Ljava/lang/Object;" (.ref no) := Fa159.ext E168
  have Fa171 : Arv Z h168 no kN (.object "java/lang/Object") (0 : Int32) [] .null := Fa160.ext E168
  have Fa172 : Exa Z h168 no "[Ljava/lang/Object;" := Fa161.ext E168
  have Fa173 : Exa Z h168 b1 "[[I" := Fa162.ext E168
  have Fa174 : own_R Z h168 r0 := Fa163.ext E168
  have Fa175 : own_R Z h168 r1 := Fa164.ext E168
  have Fa176 : own_R Z h168 r2 := Fa165.ext E168
  have Fa177 : own_R Z h168 r3 := Fa166.ext E168
  have Fa178 : Arv Z h168 b1 k1 (.array .int) (4 : Int32) [r0, r1, r2, r3] .null := Fa167.ext E168
  have Fa179 : Exa Z h168 b146 "java/util/ArrayList" := Fq157_0.ext E168
  have F168_modCount : Fld Z h168 b168 "java/util/AbstractList" "modCount" "I" (.int (0 : Int32)) := D168 (Or.inl (hw _ (List.mem_of_getElem? (i := 27) rfl))) (ty := .int) (by decide)
  have F168_elementData : Fld Z h168 b168 "java/util/ArrayList" "elementData" "[Ljava/lang/Object;" .null := D168 (Or.inl (hw _ (List.mem_of_getElem? (i := 30) rfl))) (ty := (.array (.object "java/lang/Object"))) (by decide)
  refine own_st (T' := T168) (g' := (mkF m 132 #[.val (.int p1), .val (.int p2), .val (.int p3), .val (.int p4), .val (.int z6), .val (.int z15), .val (.int z27), .val (.ref b1), .val (.ref b146), .unset, .unset, .unset, .unset, .unset, .unset, .unset, .unset] [(.ref b168)])) (fun _ k => (st168) _ k) ?_
  refine own_st (T' := T168) (g' := (mkF m 133 #[.val (.int p1), .val (.int p2), .val (.int p3), .val (.int p4), .val (.int z6), .val (.int z15), .val (.int z27), .val (.ref b1), .val (.ref b146), .unset, .unset, .unset, .unset, .unset, .unset, .unset, .unset] [(.ref b168), (.ref b168)])) (fun _ k => XS.dup (g := (mkF m 132 #[.val (.int p1), .val (.int p2), .val (.int p3), .val (.int p4), .val (.int z6), .val (.int z15), .val (.int z27), .val (.ref b1), .val (.ref b146), .unset, .unset, .unset, .unset, .unset, .unset, .unset, .unset] [(.ref b168)])) X168.here hx rfl (hb hby at_132) rfl rfl k) ?_
  obtain ⟨v180, T180, L180, X180, hQ180, st180⟩ := own_packV (X168.specialBack hx (y := (⟨"java/util/ArrayList", "<init>", "()V"⟩ : MethodName)) rfl hown (mvT hZ (hw _ (List.mem_of_getElem? (i := 8) rfl))) (mvT hZ (hw _ (List.mem_of_getElem? (i := 9) rfl))) (mvT hZ (hw _ (List.mem_of_getElem? (i := 10) rfl))) (by decide) (backOf (W := 1) (rm1 l Z a0 hw [] b168 ed h168 n0 Zs168 A168 F168_modCount F168_elementData Fa169 gn_b168) hZ (hw _ (List.mem_of_getElem? (i := 10) rfl)) (hw _ (List.mem_of_getElem? (i := 7) rfl)) (by decide) (by decide)) (g := (mkF m 133 #[.val (.int p1), .val (.int p2), .val (.int p3), .val (.int p4), .val (.int z6), .val (.int z15), .val (.int z27), .val (.ref b1), .val (.ref b146), .unset, .unset, .unset, .unset, .unset, .unset, .unset, .unset] [(.ref b168), (.ref b168)])) rfl (by rw [hml]; rfl) (Steps.refl _) (a := b168) (argsL := []) (rest := [(.ref b168)]) (lenOf own_pd0_0 rfl) rfl (by show 2 * 0 + _ ≤ _; exact Nat.le_of_eq rfl) (hb hby at_133) (fun _ _ => ⟨rfl, e168, (by decide : 7 + 0 ≤ _), (by decide : 14 + 0 ≤ _)⟩))
  obtain ⟨rfl, N180q, Kq180, Fq180_0⟩ := hQ180
  obtain ⟨lc180, X180, N180⟩ := own_loc X180 (Fr.app N157 N180q)
  have Zs180 : n0 ≤ T180.heap.size := Nat.le_trans Zs168 Kq180.1
  have Fa181 : Sta Z T180.heap "java/util/ArrayList" "DEFAULTCAPACITY_EMPTY_ELEMENTDATA" "[Ljava/lang/Object;" (.ref ed) := own_sta_keep Fa169 Kq180 (nsS A168.nostat ns0)
  have Fa182 : Sta Z T180.heap "com/example/hollow_tree/hollowtree/query/IdentityTable" "NONE" "[Ljava/lang/Object;" (.ref no) := own_sta_keep Fa170 Kq180 (nsS A168.nostat ns0)
  have Fa183 : Arv Z T180.heap no kN (.object "java/lang/Object") (0 : Int32) [] .null := Fa171.keep Kq180 (ninS ne_no_b168 nin0)
  have Fa184 : Exa Z T180.heap no "[Ljava/lang/Object;" := Fa172.keep Kq180
  have Fa185 : Exa Z T180.heap b1 "[[I" := Fa173.keep Kq180
  have Fa186 : own_R Z T180.heap r0 := Fa174.keep Kq180
  have Fa187 : own_R Z T180.heap r1 := Fa175.keep Kq180
  have Fa188 : own_R Z T180.heap r2 := Fa176.keep Kq180
  have Fa189 : own_R Z T180.heap r3 := Fa177.keep Kq180
  have Fa190 : Arv Z T180.heap b1 k1 (.array .int) (4 : Int32) [r0, r1, r2, r3] .null := Fa178.keep Kq180 (ninS ne_b1_b168 nin0)
  have Fa191 : Exa Z T180.heap b146 "java/util/ArrayList" := Fa179.keep Kq180
  refine own_st (T' := T180) (g' := (mkF m 136 #[.val (.int p1), .val (.int p2), .val (.int p3), .val (.int p4), .val (.int z6), .val (.int z15), .val (.int z27), .val (.ref b1), .val (.ref b146), .unset, .unset, .unset, .unset, .unset, .unset, .unset, .unset] [(.ref b168)])) (fun _ k => (st180) _ k) ?_
  refine own_st (T' := T180) (g' := (mkF m 138 #[.val (.int p1), .val (.int p2), .val (.int p3), .val (.int p4), .val (.int z6), .val (.int z15), .val (.int z27), .val (.ref b1), .val (.ref b146), .val (.ref b168), .unset, .unset, .unset, .unset, .unset, .unset, .unset] [])) (fun _ k => Jvm.Free.XS.astore (g := (mkF m 136 #[.val (.int p1), .val (.int p2), .val (.int p3), .val (.int p4), .val (.int z6), .val (.int z15), .val (.int z27), .val (.ref b1), .val (.ref b146), .unset, .unset, .unset, .unset, .unset, .unset, .unset, .unset] [(.ref b168)])) X180.here hx rfl (hb hby at_136) rfl rfl (l' := #[.val (.int p1), .val (.int p2), .val (.int p3), .val (.int p4), .val (.int z6), .val (.int z15), .val (.int z27), .val (.ref b1), .val (.ref b146), .val (.ref b168), .unset, .unset, .unset, .unset, .unset, .unset, .unset]) rfl k) ?_
  obtain ⟨T192, h192, X192, e192, E192, A192, D192, -, st192⟩ := newO X180 hx hZ hown (hw _ (List.mem_of_getElem? (i := 5) rfl)) (hw _ (List.mem_of_getElem? (i := 6) rfl)) (hw _ (List.mem_of_getElem? (i := 7) rfl)) rfl (g := (mkF m 138 #[.val (.int p1), .val (.int p2), .val (.int p3), .val (.int p4), .val (.int z6), .val (.int z15), .val (.int z27), .val (.ref b1), .val (.ref b146), .val (.ref b168), .unset, .unset, .unset, .unset, .unset, .unset, .unset] [])) rfl (hb hby at_138) (by decide) (by decide)
  obtain ⟨b192, g192⟩ : ∃ z, z = T180.heap.size := ⟨_, rfl⟩
  rw [← g192] at A192 D192 st192
  have ne_no_b192 : no ≠ b192 := Nat.ne_of_lt (Nat.lt_of_lt_of_le Fa183.lt (Nat.le_of_eq g192.symm))
  have ne_b1_b192 : b1 ≠ b192 := Nat.ne_of_lt (Nat.lt_of_lt_of_le Fa185.lt (Nat.le_of_eq g192.symm))
  have ne_b146_b192 : b146 ≠ b192 := Nat.ne_of_lt (Nat.lt_of_lt_of_le Fa191.lt (Nat.le_of_eq g192.symm))
  have ne_b168_b192 : b168 ≠ b192 := Nat.ne_of_lt (Nat.lt_of_lt_of_le Fq180_0.lt (Nat.le_of_eq g192.symm))
  have gn_b192 : n0 ≤ b192 := Nat.le_trans Zs180 (Nat.le_of_eq g192.symm)
  have Zs192 : n0 ≤ h192.size := Nat.le_trans Zs180 E192.1
  have Fa193 : Sta Z h192 "java/util/ArrayList" "DEFAULTCAPACITY_EMPTY_ELEMENTDATA" "[Ljava/lang/Object;" (.ref ed) := Fa181.ext E192
  have Fa194 : Sta Z h192 "com/example/hollow_tree/hollowtree/query/IdentityTable" "NONE" "[Ljava/lang/Object;" (.ref no) := Fa182.ext E192
  have Fa195 : Arv Z h192 no kN (.object "java/lang/Object") (0 : Int32) [] .null := Fa183.ext E192
  have Fa196 : Exa Z h192 no "[Ljava/lang/Object;" := Fa184.ext E192
  have Fa197 : Exa Z h192 b1 "[[I" := Fa185.ext E192
  have Fa198 : own_R Z h192 r0 := Fa186.ext E192
  have Fa199 : own_R Z h192 r1 := Fa187.ext E192
  have Fa200 : own_R Z h192 r2 := Fa188.ext E192
  have Fa201 : own_R Z h192 r3 := Fa189.ext E192
  have Fa202 : Arv Z h192 b1 k1 (.array .int) (4 : Int32) [r0, r1, r2, r3] .null := Fa190.ext E192
  have Fa203 : Exa Z h192 b146 "java/util/ArrayList" := Fa191.ext E192
  have Fa204 : Exa Z h192 b168 "java/util/ArrayList" := Fq180_0.ext E192
  have F192_modCount : Fld Z h192 b192 "java/util/AbstractList" "modCount" "I" (.int (0 : Int32)) := D192 (Or.inl (hw _ (List.mem_of_getElem? (i := 27) rfl))) (ty := .int) (by decide)
  have F192_elementData : Fld Z h192 b192 "java/util/ArrayList" "elementData" "[Ljava/lang/Object;" .null := D192 (Or.inl (hw _ (List.mem_of_getElem? (i := 30) rfl))) (ty := (.array (.object "java/lang/Object"))) (by decide)
  refine own_st (T' := T192) (g' := (mkF m 141 #[.val (.int p1), .val (.int p2), .val (.int p3), .val (.int p4), .val (.int z6), .val (.int z15), .val (.int z27), .val (.ref b1), .val (.ref b146), .val (.ref b168), .unset, .unset, .unset, .unset, .unset, .unset, .unset] [(.ref b192)])) (fun _ k => (st192) _ k) ?_
  refine own_st (T' := T192) (g' := (mkF m 142 #[.val (.int p1), .val (.int p2), .val (.int p3), .val (.int p4), .val (.int z6), .val (.int z15), .val (.int z27), .val (.ref b1), .val (.ref b146), .val (.ref b168), .unset, .unset, .unset, .unset, .unset, .unset, .unset] [(.ref b192), (.ref b192)])) (fun _ k => XS.dup (g := (mkF m 141 #[.val (.int p1), .val (.int p2), .val (.int p3), .val (.int p4), .val (.int z6), .val (.int z15), .val (.int z27), .val (.ref b1), .val (.ref b146), .val (.ref b168), .unset, .unset, .unset, .unset, .unset, .unset, .unset] [(.ref b192)])) X192.here hx rfl (hb hby at_141) rfl rfl k) ?_
  obtain ⟨v205, T205, L205, X205, hQ205, st205⟩ := own_packV (X192.specialBack hx (y := (⟨"java/util/ArrayList", "<init>", "()V"⟩ : MethodName)) rfl hown (mvT hZ (hw _ (List.mem_of_getElem? (i := 8) rfl))) (mvT hZ (hw _ (List.mem_of_getElem? (i := 9) rfl))) (mvT hZ (hw _ (List.mem_of_getElem? (i := 10) rfl))) (by decide) (backOf (W := 1) (rm1 l Z a0 hw [] b192 ed h192 n0 Zs192 A192 F192_modCount F192_elementData Fa193 gn_b192) hZ (hw _ (List.mem_of_getElem? (i := 10) rfl)) (hw _ (List.mem_of_getElem? (i := 7) rfl)) (by decide) (by decide)) (g := (mkF m 142 #[.val (.int p1), .val (.int p2), .val (.int p3), .val (.int p4), .val (.int z6), .val (.int z15), .val (.int z27), .val (.ref b1), .val (.ref b146), .val (.ref b168), .unset, .unset, .unset, .unset, .unset, .unset, .unset] [(.ref b192), (.ref b192)])) rfl (by rw [hml]; rfl) (Steps.refl _) (a := b192) (argsL := []) (rest := [(.ref b192)]) (lenOf own_pd0_0 rfl) rfl (by show 2 * 0 + _ ≤ _; exact Nat.le_of_eq rfl) (hb hby at_142) (fun _ _ => ⟨rfl, e192, (by decide : 8 + 0 ≤ _), (by decide : 17 + 0 ≤ _)⟩))
  obtain ⟨rfl, N205q, Kq205, Fq205_0⟩ := hQ205
  obtain ⟨lc205, X205, N205⟩ := own_loc X205 (Fr.app N180 N205q)
  have Zs205 : n0 ≤ T205.heap.size := Nat.le_trans Zs192 Kq205.1
  have Fa206 : Sta Z T205.heap "java/util/ArrayList" "DEFAULTCAPACITY_EMPTY_ELEMENTDATA" "[Ljava/lang/Object;" (.ref ed) := own_sta_keep Fa193 Kq205 (nsS A192.nostat ns0)
  have Fa207 : Sta Z T205.heap "com/example/hollow_tree/hollowtree/query/IdentityTable" "NONE" "[Ljava/lang/Object;" (.ref no) := own_sta_keep Fa194 Kq205 (nsS A192.nostat ns0)
  have Fa208 : Arv Z T205.heap no kN (.object "java/lang/Object") (0 : Int32) [] .null := Fa195.keep Kq205 (ninS ne_no_b192 nin0)
  have Fa209 : Exa Z T205.heap no "[Ljava/lang/Object;" := Fa196.keep Kq205
  have Fa210 : Exa Z T205.heap b1 "[[I" := Fa197.keep Kq205
  have Fa211 : own_R Z T205.heap r0 := Fa198.keep Kq205
  have Fa212 : own_R Z T205.heap r1 := Fa199.keep Kq205
  have Fa213 : own_R Z T205.heap r2 := Fa200.keep Kq205
  have Fa214 : own_R Z T205.heap r3 := Fa201.keep Kq205
  have Fa215 : Arv Z T205.heap b1 k1 (.array .int) (4 : Int32) [r0, r1, r2, r3] .null := Fa202.keep Kq205 (ninS ne_b1_b192 nin0)
  have Fa216 : Exa Z T205.heap b146 "java/util/ArrayList" := Fa203.keep Kq205
  have Fa217 : Exa Z T205.heap b168 "java/util/ArrayList" := Fa204.keep Kq205
  refine own_st (T' := T205) (g' := (mkF m 145 #[.val (.int p1), .val (.int p2), .val (.int p3), .val (.int p4), .val (.int z6), .val (.int z15), .val (.int z27), .val (.ref b1), .val (.ref b146), .val (.ref b168), .unset, .unset, .unset, .unset, .unset, .unset, .unset] [(.ref b192)])) (fun _ k => (st205) _ k) ?_
  refine own_st (T' := T205) (g' := (mkF m 147 #[.val (.int p1), .val (.int p2), .val (.int p3), .val (.int p4), .val (.int z6), .val (.int z15), .val (.int z27), .val (.ref b1), .val (.ref b146), .val (.ref b168), .val (.ref b192), .unset, .unset, .unset, .unset, .unset, .unset] [])) (fun _ k => Jvm.Free.XS.astore (g := (mkF m 145 #[.val (.int p1), .val (.int p2), .val (.int p3), .val (.int p4), .val (.int z6), .val (.int z15), .val (.int z27), .val (.ref b1), .val (.ref b146), .val (.ref b168), .unset, .unset, .unset, .unset, .unset, .unset, .unset] [(.ref b192)])) X205.here hx rfl (hb hby at_145) rfl rfl (l' := #[.val (.int p1), .val (.int p2), .val (.int p3), .val (.int p4), .val (.int z6), .val (.int z15), .val (.int z27), .val (.ref b1), .val (.ref b146), .val (.ref b168), .val (.ref b192), .unset, .unset, .unset, .unset, .unset, .unset]) rfl k) ?_
  obtain ⟨T218, h218, X218, e218, E218, A218, D218, -, st218⟩ := newO X205 hx hZ hown (hw _ (List.mem_of_getElem? (i := 5) rfl)) (hw _ (List.mem_of_getElem? (i := 6) rfl)) (hw _ (List.mem_of_getElem? (i := 7) rfl)) rfl (g := (mkF m 147 #[.val (.int p1), .val (.int p2), .val (.int p3), .val (.int p4), .val (.int z6), .val (.int z15), .val (.int z27), .val (.ref b1), .val (.ref b146), .val (.ref b168), .val (.ref b192), .unset, .unset, .unset, .unset, .unset, .unset] [])) rfl (hb hby at_147) (by decide) (by decide)
  obtain ⟨b218, g218⟩ : ∃ z, z = T205.heap.size := ⟨_, rfl⟩
  rw [← g218] at A218 D218 st218
  have ne_no_b218 : no ≠ b218 := Nat.ne_of_lt (Nat.lt_of_lt_of_le Fa208.lt (Nat.le_of_eq g218.symm))
  have ne_b1_b218 : b1 ≠ b218 := Nat.ne_of_lt (Nat.lt_of_lt_of_le Fa210.lt (Nat.le_of_eq g218.symm))
  have ne_b146_b218 : b146 ≠ b218 := Nat.ne_of_lt (Nat.lt_of_lt_of_le Fa216.lt (Nat.le_of_eq g218.symm))
  have ne_b168_b218 : b168 ≠ b218 := Nat.ne_of_lt (Nat.lt_of_lt_of_le Fa217.lt (Nat.le_of_eq g218.symm))
  have ne_b192_b218 : b192 ≠ b218 := Nat.ne_of_lt (Nat.lt_of_lt_of_le Fq205_0.lt (Nat.le_of_eq g218.symm))
  have gn_b218 : n0 ≤ b218 := Nat.le_trans Zs205 (Nat.le_of_eq g218.symm)
  have Zs218 : n0 ≤ h218.size := Nat.le_trans Zs205 E218.1
  have Fa219 : Sta Z h218 "java/util/ArrayList" "DEFAULTCAPACITY_EMPTY_ELEMENTDATA" "[Ljava/lang/Object;" (.ref ed) := Fa206.ext E218
  have Fa220 : Sta Z h218 "com/example/hollow_tree/hollowtree/query/IdentityTable" "NONE" "[Ljava/lang/Object;" (.ref no) := Fa207.ext E218
  have Fa221 : Arv Z h218 no kN (.object "java/lang/Object") (0 : Int32) [] .null := Fa208.ext E218
  have Fa222 : Exa Z h218 no "[Ljava/lang/Object;" := Fa209.ext E218
  have Fa223 : Exa Z h218 b1 "[[I" := Fa210.ext E218
  have Fa224 : own_R Z h218 r0 := Fa211.ext E218
  have Fa225 : own_R Z h218 r1 := Fa212.ext E218
  have Fa226 : own_R Z h218 r2 := Fa213.ext E218
  have Fa227 : own_R Z h218 r3 := Fa214.ext E218
  have Fa228 : Arv Z h218 b1 k1 (.array .int) (4 : Int32) [r0, r1, r2, r3] .null := Fa215.ext E218
  have Fa229 : Exa Z h218 b146 "java/util/ArrayList" := Fa216.ext E218
  have Fa230 : Exa Z h218 b168 "java/util/ArrayList" := Fa217.ext E218
  have Fa231 : Exa Z h218 b192 "java/util/ArrayList" := Fq205_0.ext E218
  have F218_modCount : Fld Z h218 b218 "java/util/AbstractList" "modCount" "I" (.int (0 : Int32)) := D218 (Or.inl (hw _ (List.mem_of_getElem? (i := 27) rfl))) (ty := .int) (by decide)
  have F218_elementData : Fld Z h218 b218 "java/util/ArrayList" "elementData" "[Ljava/lang/Object;" .null := D218 (Or.inl (hw _ (List.mem_of_getElem? (i := 30) rfl))) (ty := (.array (.object "java/lang/Object"))) (by decide)
  refine own_st (T' := T218) (g' := (mkF m 150 #[.val (.int p1), .val (.int p2), .val (.int p3), .val (.int p4), .val (.int z6), .val (.int z15), .val (.int z27), .val (.ref b1), .val (.ref b146), .val (.ref b168), .val (.ref b192), .unset, .unset, .unset, .unset, .unset, .unset] [(.ref b218)])) (fun _ k => (st218) _ k) ?_
  refine own_st (T' := T218) (g' := (mkF m 151 #[.val (.int p1), .val (.int p2), .val (.int p3), .val (.int p4), .val (.int z6), .val (.int z15), .val (.int z27), .val (.ref b1), .val (.ref b146), .val (.ref b168), .val (.ref b192), .unset, .unset, .unset, .unset, .unset, .unset] [(.ref b218), (.ref b218)])) (fun _ k => XS.dup (g := (mkF m 150 #[.val (.int p1), .val (.int p2), .val (.int p3), .val (.int p4), .val (.int z6), .val (.int z15), .val (.int z27), .val (.ref b1), .val (.ref b146), .val (.ref b168), .val (.ref b192), .unset, .unset, .unset, .unset, .unset, .unset] [(.ref b218)])) X218.here hx rfl (hb hby at_150) rfl rfl k) ?_
  obtain ⟨v232, T232, L232, X232, hQ232, st232⟩ := own_packV (X218.specialBack hx (y := (⟨"java/util/ArrayList", "<init>", "()V"⟩ : MethodName)) rfl hown (mvT hZ (hw _ (List.mem_of_getElem? (i := 8) rfl))) (mvT hZ (hw _ (List.mem_of_getElem? (i := 9) rfl))) (mvT hZ (hw _ (List.mem_of_getElem? (i := 10) rfl))) (by decide) (backOf (W := 1) (rm1 l Z a0 hw [] b218 ed h218 n0 Zs218 A218 F218_modCount F218_elementData Fa219 gn_b218) hZ (hw _ (List.mem_of_getElem? (i := 10) rfl)) (hw _ (List.mem_of_getElem? (i := 7) rfl)) (by decide) (by decide)) (g := (mkF m 151 #[.val (.int p1), .val (.int p2), .val (.int p3), .val (.int p4), .val (.int z6), .val (.int z15), .val (.int z27), .val (.ref b1), .val (.ref b146), .val (.ref b168), .val (.ref b192), .unset, .unset, .unset, .unset, .unset, .unset] [(.ref b218), (.ref b218)])) rfl (by rw [hml]; rfl) (Steps.refl _) (a := b218) (argsL := []) (rest := [(.ref b218)]) (lenOf own_pd0_0 rfl) rfl (by show 2 * 0 + _ ≤ _; exact Nat.le_of_eq rfl) (hb hby at_151) (fun _ _ => ⟨rfl, e218, (by decide : 9 + 0 ≤ _), (by decide : 20 + 0 ≤ _)⟩))
  obtain ⟨rfl, N232q, Kq232, Fq232_0⟩ := hQ232
  obtain ⟨lc232, X232, N232⟩ := own_loc X232 (Fr.app N205 N232q)
  have Zs232 : n0 ≤ T232.heap.size := Nat.le_trans Zs218 Kq232.1
  have Fa233 : Sta Z T232.heap "java/util/ArrayList" "DEFAULTCAPACITY_EMPTY_ELEMENTDATA" "[Ljava/lang/Object;" (.ref ed) := own_sta_keep Fa219 Kq232 (nsS A218.nostat ns0)
  have Fa234 : Sta Z T232.heap "com/example/hollow_tree/hollowtree/query/IdentityTable" "NONE" "[Ljava/lang/Object;" (.ref no) := own_sta_keep Fa220 Kq232 (nsS A218.nostat ns0)
  have Fa235 : Arv Z T232.heap no kN (.object "java/lang/Object") (0 : Int32) [] .null := Fa221.keep Kq232 (ninS ne_no_b218 nin0)
  have Fa236 : Exa Z T232.heap no "[Ljava/lang/Object;" := Fa222.keep Kq232
  have Fa237 : Exa Z T232.heap b1 "[[I" := Fa223.keep Kq232
  have Fa238 : own_R Z T232.heap r0 := Fa224.keep Kq232
  have Fa239 : own_R Z T232.heap r1 := Fa225.keep Kq232
  have Fa240 : own_R Z T232.heap r2 := Fa226.keep Kq232
  have Fa241 : own_R Z T232.heap r3 := Fa227.keep Kq232
  have Fa242 : Arv Z T232.heap b1 k1 (.array .int) (4 : Int32) [r0, r1, r2, r3] .null := Fa228.keep Kq232 (ninS ne_b1_b218 nin0)
  have Fa243 : Exa Z T232.heap b146 "java/util/ArrayList" := Fa229.keep Kq232
  have Fa244 : Exa Z T232.heap b168 "java/util/ArrayList" := Fa230.keep Kq232
  have Fa245 : Exa Z T232.heap b192 "java/util/ArrayList" := Fa231.keep Kq232
  refine own_st (T' := T232) (g' := (mkF m 154 #[.val (.int p1), .val (.int p2), .val (.int p3), .val (.int p4), .val (.int z6), .val (.int z15), .val (.int z27), .val (.ref b1), .val (.ref b146), .val (.ref b168), .val (.ref b192), .unset, .unset, .unset, .unset, .unset, .unset] [(.ref b218)])) (fun _ k => (st232) _ k) ?_
  refine own_st (T' := T232) (g' := (mkF m 156 #[.val (.int p1), .val (.int p2), .val (.int p3), .val (.int p4), .val (.int z6), .val (.int z15), .val (.int z27), .val (.ref b1), .val (.ref b146), .val (.ref b168), .val (.ref b192), .val (.ref b218), .unset, .unset, .unset, .unset, .unset] [])) (fun _ k => Jvm.Free.XS.astore (g := (mkF m 154 #[.val (.int p1), .val (.int p2), .val (.int p3), .val (.int p4), .val (.int z6), .val (.int z15), .val (.int z27), .val (.ref b1), .val (.ref b146), .val (.ref b168), .val (.ref b192), .unset, .unset, .unset, .unset, .unset, .unset] [(.ref b218)])) X232.here hx rfl (hb hby at_154) rfl rfl (l' := #[.val (.int p1), .val (.int p2), .val (.int p3), .val (.int p4), .val (.int z6), .val (.int z15), .val (.int z27), .val (.ref b1), .val (.ref b146), .val (.ref b168), .val (.ref b192), .val (.ref b218), .unset, .unset, .unset, .unset, .unset]) rfl k) ?_
  obtain ⟨T246, h246, X246, e246, E246, A246, D246, -, st246⟩ := newO X232 hx hZ hown (hw _ (List.mem_of_getElem? (i := 5) rfl)) (hw _ (List.mem_of_getElem? (i := 6) rfl)) (hw _ (List.mem_of_getElem? (i := 7) rfl)) rfl (g := (mkF m 156 #[.val (.int p1), .val (.int p2), .val (.int p3), .val (.int p4), .val (.int z6), .val (.int z15), .val (.int z27), .val (.ref b1), .val (.ref b146), .val (.ref b168), .val (.ref b192), .val (.ref b218), .unset, .unset, .unset, .unset, .unset] [])) rfl (hb hby at_156) (by decide) (by decide)
  obtain ⟨b246, g246⟩ : ∃ z, z = T232.heap.size := ⟨_, rfl⟩
  rw [← g246] at A246 D246 st246
  have ne_no_b246 : no ≠ b246 := Nat.ne_of_lt (Nat.lt_of_lt_of_le Fa235.lt (Nat.le_of_eq g246.symm))
  have ne_b1_b246 : b1 ≠ b246 := Nat.ne_of_lt (Nat.lt_of_lt_of_le Fa237.lt (Nat.le_of_eq g246.symm))
  have ne_b146_b246 : b146 ≠ b246 := Nat.ne_of_lt (Nat.lt_of_lt_of_le Fa243.lt (Nat.le_of_eq g246.symm))
  have ne_b168_b246 : b168 ≠ b246 := Nat.ne_of_lt (Nat.lt_of_lt_of_le Fa244.lt (Nat.le_of_eq g246.symm))
  have ne_b192_b246 : b192 ≠ b246 := Nat.ne_of_lt (Nat.lt_of_lt_of_le Fa245.lt (Nat.le_of_eq g246.symm))
  have ne_b218_b246 : b218 ≠ b246 := Nat.ne_of_lt (Nat.lt_of_lt_of_le Fq232_0.lt (Nat.le_of_eq g246.symm))
  have gn_b246 : n0 ≤ b246 := Nat.le_trans Zs232 (Nat.le_of_eq g246.symm)
  have Zs246 : n0 ≤ h246.size := Nat.le_trans Zs232 E246.1
  have Fa247 : Sta Z h246 "java/util/ArrayList" "DEFAULTCAPACITY_EMPTY_ELEMENTDATA" "[Ljava/lang/Object;" (.ref ed) := Fa233.ext E246
  have Fa248 : Sta Z h246 "com/example/hollow_tree/hollowtree/query/IdentityTable" "NONE" "[Ljava/lang/Object;" (.ref no) := Fa234.ext E246
  have Fa249 : Arv Z h246 no kN (.object "java/lang/Object") (0 : Int32) [] .null := Fa235.ext E246
  have Fa250 : Exa Z h246 no "[Ljava/lang/Object;" := Fa236.ext E246
  have Fa251 : Exa Z h246 b1 "[[I" := Fa237.ext E246
  have Fa252 : own_R Z h246 r0 := Fa238.ext E246
  have Fa253 : own_R Z h246 r1 := Fa239.ext E246
  have Fa254 : own_R Z h246 r2 := Fa240.ext E246
  have Fa255 : own_R Z h246 r3 := Fa241.ext E246
  have Fa256 : Arv Z h246 b1 k1 (.array .int) (4 : Int32) [r0, r1, r2, r3] .null := Fa242.ext E246
  have Fa257 : Exa Z h246 b146 "java/util/ArrayList" := Fa243.ext E246
  have Fa258 : Exa Z h246 b168 "java/util/ArrayList" := Fa244.ext E246
  have Fa259 : Exa Z h246 b192 "java/util/ArrayList" := Fa245.ext E246
  have Fa260 : Exa Z h246 b218 "java/util/ArrayList" := Fq232_0.ext E246
  have F246_modCount : Fld Z h246 b246 "java/util/AbstractList" "modCount" "I" (.int (0 : Int32)) := D246 (Or.inl (hw _ (List.mem_of_getElem? (i := 27) rfl))) (ty := .int) (by decide)
  have F246_elementData : Fld Z h246 b246 "java/util/ArrayList" "elementData" "[Ljava/lang/Object;" .null := D246 (Or.inl (hw _ (List.mem_of_getElem? (i := 30) rfl))) (ty := (.array (.object "java/lang/Object"))) (by decide)
  refine own_st (T' := T246) (g' := (mkF m 159 #[.val (.int p1), .val (.int p2), .val (.int p3), .val (.int p4), .val (.int z6), .val (.int z15), .val (.int z27), .val (.ref b1), .val (.ref b146), .val (.ref b168), .val (.ref b192), .val (.ref b218), .unset, .unset, .unset, .unset, .unset] [(.ref b246)])) (fun _ k => (st246) _ k) ?_
  refine own_st (T' := T246) (g' := (mkF m 160 #[.val (.int p1), .val (.int p2), .val (.int p3), .val (.int p4), .val (.int z6), .val (.int z15), .val (.int z27), .val (.ref b1), .val (.ref b146), .val (.ref b168), .val (.ref b192), .val (.ref b218), .unset, .unset, .unset, .unset, .unset] [(.ref b246), (.ref b246)])) (fun _ k => XS.dup (g := (mkF m 159 #[.val (.int p1), .val (.int p2), .val (.int p3), .val (.int p4), .val (.int z6), .val (.int z15), .val (.int z27), .val (.ref b1), .val (.ref b146), .val (.ref b168), .val (.ref b192), .val (.ref b218), .unset, .unset, .unset, .unset, .unset] [(.ref b246)])) X246.here hx rfl (hb hby at_159) rfl rfl k) ?_
  obtain ⟨v261, T261, L261, X261, hQ261, st261⟩ := own_packV (X246.specialBack hx (y := (⟨"java/util/ArrayList", "<init>", "()V"⟩ : MethodName)) rfl hown (mvT hZ (hw _ (List.mem_of_getElem? (i := 8) rfl))) (mvT hZ (hw _ (List.mem_of_getElem? (i := 9) rfl))) (mvT hZ (hw _ (List.mem_of_getElem? (i := 10) rfl))) (by decide) (backOf (W := 1) (rm1 l Z a0 hw [] b246 ed h246 n0 Zs246 A246 F246_modCount F246_elementData Fa247 gn_b246) hZ (hw _ (List.mem_of_getElem? (i := 10) rfl)) (hw _ (List.mem_of_getElem? (i := 7) rfl)) (by decide) (by decide)) (g := (mkF m 160 #[.val (.int p1), .val (.int p2), .val (.int p3), .val (.int p4), .val (.int z6), .val (.int z15), .val (.int z27), .val (.ref b1), .val (.ref b146), .val (.ref b168), .val (.ref b192), .val (.ref b218), .unset, .unset, .unset, .unset, .unset] [(.ref b246), (.ref b246)])) rfl (by rw [hml]; rfl) (Steps.refl _) (a := b246) (argsL := []) (rest := [(.ref b246)]) (lenOf own_pd0_0 rfl) rfl (by show 2 * 0 + _ ≤ _; exact Nat.le_of_eq rfl) (hb hby at_160) (fun _ _ => ⟨rfl, e246, (by decide : 10 + 0 ≤ _), (by decide : 23 + 0 ≤ _)⟩))
  obtain ⟨rfl, N261q, Kq261, Fq261_0⟩ := hQ261
  obtain ⟨lc261, X261, N261⟩ := own_loc X261 (Fr.app N232 N261q)
  have Zs261 : n0 ≤ T261.heap.size := Nat.le_trans Zs246 Kq261.1
  have Fa262 : Sta Z T261.heap "java/util/ArrayList" "DEFAULTCAPACITY_EMPTY_ELEMENTDATA" "[Ljava/lang/Object;" (.ref ed) := own_sta_keep Fa247 Kq261 (nsS A246.nostat ns0)
  have Fa263 : Sta Z T261.heap "com/example/hollow_tree/hollowtree/query/IdentityTable" "NONE" "[Ljava/lang/Object;" (.ref no) := own_sta_keep Fa248 Kq261 (nsS A246.nostat ns0)
  have Fa264 : Arv Z T261.heap no kN (.object "java/lang/Object") (0 : Int32) [] .null := Fa249.keep Kq261 (ninS ne_no_b246 nin0)
  have Fa265 : Exa Z T261.heap no "[Ljava/lang/Object;" := Fa250.keep Kq261
  have Fa266 : Exa Z T261.heap b1 "[[I" := Fa251.keep Kq261
  have Fa267 : own_R Z T261.heap r0 := Fa252.keep Kq261
  have Fa268 : own_R Z T261.heap r1 := Fa253.keep Kq261
  have Fa269 : own_R Z T261.heap r2 := Fa254.keep Kq261
  have Fa270 : own_R Z T261.heap r3 := Fa255.keep Kq261
  have Fa271 : Arv Z T261.heap b1 k1 (.array .int) (4 : Int32) [r0, r1, r2, r3] .null := Fa256.keep Kq261 (ninS ne_b1_b246 nin0)
  have Fa272 : Exa Z T261.heap b146 "java/util/ArrayList" := Fa257.keep Kq261
  have Fa273 : Exa Z T261.heap b168 "java/util/ArrayList" := Fa258.keep Kq261
  have Fa274 : Exa Z T261.heap b192 "java/util/ArrayList" := Fa259.keep Kq261
  have Fa275 : Exa Z T261.heap b218 "java/util/ArrayList" := Fa260.keep Kq261
  refine own_st (T' := T261) (g' := (mkF m 163 #[.val (.int p1), .val (.int p2), .val (.int p3), .val (.int p4), .val (.int z6), .val (.int z15), .val (.int z27), .val (.ref b1), .val (.ref b146), .val (.ref b168), .val (.ref b192), .val (.ref b218), .unset, .unset, .unset, .unset, .unset] [(.ref b246)])) (fun _ k => (st261) _ k) ?_
  refine own_st (T' := T261) (g' := (mkF m 165 #[.val (.int p1), .val (.int p2), .val (.int p3), .val (.int p4), .val (.int z6), .val (.int z15), .val (.int z27), .val (.ref b1), .val (.ref b146), .val (.ref b168), .val (.ref b192), .val (.ref b218), .val (.ref b246), .unset, .unset, .unset, .unset] [])) (fun _ k => Jvm.Free.XS.astore (g := (mkF m 163 #[.val (.int p1), .val (.int p2), .val (.int p3), .val (.int p4), .val (.int z6), .val (.int z15), .val (.int z27), .val (.ref b1), .val (.ref b146), .val (.ref b168), .val (.ref b192), .val (.ref b218), .unset, .unset, .unset, .unset, .unset] [(.ref b246)])) X261.here hx rfl (hb hby at_163) rfl rfl (l' := #[.val (.int p1), .val (.int p2), .val (.int p3), .val (.int p4), .val (.int z6), .val (.int z15), .val (.int z27), .val (.ref b1), .val (.ref b146), .val (.ref b168), .val (.ref b192), .val (.ref b218), .val (.ref b246), .unset, .unset, .unset, .unset]) rfl k) ?_
  refine own_st (T' := T261) (g' := (mkF m 166 #[.val (.int p1), .val (.int p2), .val (.int p3), .val (.int p4), .val (.int z6), .val (.int z15), .val (.int z27), .val (.ref b1), .val (.ref b146), .val (.ref b168), .val (.ref b192), .val (.ref b218), .val (.ref b246), .unset, .unset, .unset, .unset] [(.int (5 : Int32))])) (fun _ k => XS.iconst (g := (mkF m 165 #[.val (.int p1), .val (.int p2), .val (.int p3), .val (.int p4), .val (.int z6), .val (.int z15), .val (.int z27), .val (.ref b1), .val (.ref b146), .val (.ref b168), .val (.ref b192), .val (.ref b218), .val (.ref b246), .unset, .unset, .unset, .unset] [])) X261.here hx rfl (hb hby at_165) k) ?_
  obtain ⟨T276, h276, k276, X276, e276, E276, A276, Ex276, O276, st276⟩ := newRE X261 hx hZ hown (hw _ (List.mem_of_getElem? (i := 31) rfl)) (hw _ (List.mem_of_getElem? (i := 32) rfl)) rfl (g := (mkF m 166 #[.val (.int p1), .val (.int p2), .val (.int p3), .val (.int p4), .val (.int z6), .val (.int z15), .val (.int z27), .val (.ref b1), .val (.ref b146), .val (.ref b168), .val (.ref b192), .val (.ref b218), .val (.ref b246), .unset, .unset, .unset, .unset] [(.int (5 : Int32))])) rfl (hb hby at_166) rfl (by decide) (cap := 5) (by decide) (by decide) (by decide) (by decide) (ad := "[Ljava/lang/Object;") (by decide)
  obtain ⟨b276, g276⟩ : ∃ z, z = T261.heap.size := ⟨_, rfl⟩
  rw [← g276] at A276 st276 Ex276
  have ne_no_b276 : no ≠ b276 := Nat.ne_of_lt (Nat.lt_of_lt_of_le Fa264.lt (Nat.le_of_eq g276.symm))
  have ne_b1_b276 : b1 ≠ b276 := Nat.ne_of_lt (Nat.lt_of_lt_of_le Fa266.lt (Nat.le_of_eq g276.symm))
  have ne_b146_b276 : b146 ≠ b276 := Nat.ne_of_lt (Nat.lt_of_lt_of_le Fa272.lt (Nat.le_of_eq g276.symm))
  have ne_b168_b276 : b168 ≠ b276 := Nat.ne_of_lt (Nat.lt_of_lt_of_le Fa273.lt (Nat.le_of_eq g276.symm))
  have ne_b192_b276 : b192 ≠ b276 := Nat.ne_of_lt (Nat.lt_of_lt_of_le Fa274.lt (Nat.le_of_eq g276.symm))
  have ne_b218_b276 : b218 ≠ b276 := Nat.ne_of_lt (Nat.lt_of_lt_of_le Fa275.lt (Nat.le_of_eq g276.symm))
  have ne_b246_b276 : b246 ≠ b276 := Nat.ne_of_lt (Nat.lt_of_lt_of_le Fq261_0.lt (Nat.le_of_eq g276.symm))
  have gn_b276 : n0 ≤ b276 := Nat.le_trans Zs261 (Nat.le_of_eq g276.symm)
  have Zs276 : n0 ≤ h276.size := Nat.le_trans Zs261 E276.1
  have Fa277 : Sta Z h276 "java/util/ArrayList" "DEFAULTCAPACITY_EMPTY_ELEMENTDATA" "[Ljava/lang/Object;" (.ref ed) := Fa262.ext E276
  have Fa278 : Sta Z h276 "com/example/hollow_tree/hollowtree/query/IdentityTable" "NONE" "[Ljava/lang/Object;" (.ref no) := Fa263.ext E276
  have Fa279 : Arv Z h276 no kN (.object "java/lang/Object") (0 : Int32) [] .null := Fa264.ext E276
  have Fa280 : Exa Z h276 no "[Ljava/lang/Object;" := Fa265.ext E276
  have Fa281 : Exa Z h276 b1 "[[I" := Fa266.ext E276
  have Fa282 : own_R Z h276 r0 := Fa267.ext E276
  have Fa283 : own_R Z h276 r1 := Fa268.ext E276
  have Fa284 : own_R Z h276 r2 := Fa269.ext E276
  have Fa285 : own_R Z h276 r3 := Fa270.ext E276
  have Fa286 : Arv Z h276 b1 k1 (.array .int) (4 : Int32) [r0, r1, r2, r3] .null := Fa271.ext E276
  have Fa287 : Exa Z h276 b146 "java/util/ArrayList" := Fa272.ext E276
  have Fa288 : Exa Z h276 b168 "java/util/ArrayList" := Fa273.ext E276
  have Fa289 : Exa Z h276 b192 "java/util/ArrayList" := Fa274.ext E276
  have Fa290 : Exa Z h276 b218 "java/util/ArrayList" := Fa275.ext E276
  have Fa291 : Exa Z h276 b246 "java/util/ArrayList" := Fq261_0.ext E276
  have V276 : Arv Z h276 b276 k276 (.object "java/lang/Object") (5 : Int32) [.null, .null, .null, .null, .null] .null := (Arv.new A276 (by decide)).pad (pad_rep [] .null 5)
  refine own_st (T' := T276) (g' := (mkF m 169 #[.val (.int p1), .val (.int p2), .val (.int p3), .val (.int p4), .val (.int z6), .val (.int z15), .val (.int z27), .val (.ref b1), .val (.ref b146), .val (.ref b168), .val (.ref b192), .val (.ref b218), .val (.ref b246), .unset, .unset, .unset, .unset] [(.ref b276)])) (fun _ k => (st276) _ k) ?_
  refine own_st (T' := T276) (g' := (mkF m 170 #[.val (.int p1), .val (.int p2), .val (.int p3), .val (.int p4), .val (.int z6), .val (.int z15), .val (.int z27), .val (.ref b1), .val (.ref b146), .val (.ref b168), .val (.ref b192), .val (.ref b218), .val (.ref b246), .unset, .unset, .unset, .unset] [(.ref b276), (.ref b276)])) (fun _ k => XS.dup (g := (mkF m 169 #[.val (.int p1), .val (.int p2), .val (.int p3), .val (.int p4), .val (.int z6), .val (.int z15), .val (.int z27), .val (.ref b1), .val (.ref b146), .val (.ref b168), .val (.ref b192), .val (.ref b218), .val (.ref b246), .unset, .unset, .unset, .unset] [(.ref b276)])) X276.here hx rfl (hb hby at_169) rfl rfl k) ?_
  refine own_st (T' := T276) (g' := (mkF m 171 #[.val (.int p1), .val (.int p2), .val (.int p3), .val (.int p4), .val (.int z6), .val (.int z15), .val (.int z27), .val (.ref b1), .val (.ref b146), .val (.ref b168), .val (.ref b192), .val (.ref b218), .val (.ref b246), .unset, .unset, .unset, .unset] [(.int (0 : Int32)), (.ref b276), (.ref b276)])) (fun _ k => XS.iconst (g := (mkF m 170 #[.val (.int p1), .val (.int p2), .val (.int p3), .val (.int p4), .val (.int z6), .val (.int z15), .val (.int z27), .val (.ref b1), .val (.ref b146), .val (.ref b168), .val (.ref b192), .val (.ref b218), .val (.ref b246), .unset, .unset, .unset, .unset] [(.ref b276), (.ref b276)])) X276.here hx rfl (hb hby at_170) k) ?_
  refine own_st (T' := T276) (g' := (mkF m 173 #[.val (.int p1), .val (.int p2), .val (.int p3), .val (.int p4), .val (.int z6), .val (.int z15), .val (.int z27), .val (.ref b1), .val (.ref b146), .val (.ref b168), .val (.ref b192), .val (.ref b218), .val (.ref b246), .unset, .unset, .unset, .unset] [(.ref b146), (.int (0 : Int32)), (.ref b276), (.ref b276)])) (fun _ k => Jvm.Free.XS.aload (g := (mkF m 171 #[.val (.int p1), .val (.int p2), .val (.int p3), .val (.int p4), .val (.int z6), .val (.int z15), .val (.int z27), .val (.ref b1), .val (.ref b146), .val (.ref b168), .val (.ref b192), .val (.ref b218), .val (.ref b246), .unset, .unset, .unset, .unset] [(.int (0 : Int32)), (.ref b276), (.ref b276)])) X276.here hx rfl (hb hby at_171) rfl rfl k) ?_
  obtain ⟨cl292, Ar292, qk292, Sz292, Nn292, Hs292, Gs292⟩ := V276
  have hin292 : ¬ ((0 : Int32) < 0 ∨ cl292.slots.size ≤ ((0 : Int32)).toNatClampNeg) := inb_of Sz292 ⟨by decide, by decide⟩
  obtain ⟨T292, h292, X292, e292, W292, st292⟩ := stR X276 hx hZ e276 Ar292 (j := (0 : Int32)) hin292 rfl (Sto.ofV Ar292 qk292 O276 (Ins.of_exa Fa287 (hw _ (List.mem_of_getElem? (i := 33) rfl)))) (g := (mkF m 173 #[.val (.int p1), .val (.int p2), .val (.int p3), .val (.int p4), .val (.int z6), .val (.int z15), .val (.int z27), .val (.ref b1), .val (.ref b146), .val (.ref b168), .val (.ref b192), .val (.ref b218), .val (.ref b246), .unset, .unset, .unset, .unset] [(.ref b146), (.int (0 : Int32)), (.ref b276), (.ref b276)])) rfl rfl (hb hby at_173)
  have V292 : Arv Z h292 b276 k276 (.object "java/lang/Object") (5 : Int32) [(.ref b146), .null, .null, .null, .null] .null := Arv.set Ar292 qk292 Sz292 Nn292 Hs292 Gs292 rfl W292 0 rfl (Nat.le_of_ble_eq_true rfl)
  have Zs292 : n0 ≤ h292.size := Nat.le_trans Zs276 (Keep.of_wr W292).1
  obtain ⟨lc292, X292, N292⟩ := own_loc X292 (Fr.snoc X292 N261 gn_b276)
  have Fa293 : Sta Z h292 "java/util/ArrayList" "DEFAULTCAPACITY_EMPTY_ELEMENTDATA" "[Ljava/lang/Object;" (.ref ed) := Fa277.wr W292
  have Fa294 : Sta Z h292 "com/example/hollow_tree/hollowtree/query/IdentityTable" "NONE" "[Ljava/lang/Object;" (.ref no) := Fa278.wr W292
  have Fa295 : Arv Z h292 no kN (.object "java/lang/Object") (0 : Int32) [] .null := Fa279.other W292 ne_no_b276
  have Fa296 : Exa Z h292 no "[Ljava/lang/Object;" := Fa280.wr W292
  have Fa297 : Exa Z h292 b1 "[[I" := Fa281.wr W292
  have Fa298 : own_R Z h292 r0 := Fa282.wr W292
  have Fa299 : own_R Z h292 r1 := Fa283.wr W292
  have Fa300 : own_R Z h292 r2 := Fa284.wr W292
  have Fa301 : own_R Z h292 r3 := Fa285.wr W292
  have Fa302 : Arv Z h292 b1 k1 (.array .int) (4 : Int32) [r0, r1, r2, r3] .null := Fa286.other W292 ne_b1_b276
  have Fa303 : Exa Z h292 b146 "java/util/ArrayList" := Fa287.wr W292
  have Fa304 : Exa Z h292 b168 "java/util/ArrayList" := Fa288.wr W292
  have Fa305 : Exa Z h292 b192 "java/util/ArrayList" := Fa289.wr W292
  have Fa306 : Exa Z h292 b218 "java/util/ArrayList" := Fa290.wr W292
  have Fa307 : Exa Z h292 b246 "java/util/ArrayList" := Fa291.wr W292
  have Fa308 : Exa Z h292 b276 "[Ljava/lang/Object;" := Ex276.wr W292
  refine own_st (T' := T292) (g' := (mkF m 174 #[.val (.int p1), .val (.int p2), .val (.int p3), .val (.int p4), .val (.int z6), .val (.int z15), .val (.int z27), .val (.ref b1), .val (.ref b146), .val (.ref b168), .val (.ref b192), .val (.ref b218), .val (.ref b246), .unset, .unset, .unset, .unset] [(.ref b276)])) (fun _ k => (st292) _ k) ?_
  refine own_st (T' := T292) (g' := (mkF m 175 #[.val (.int p1), .val (.int p2), .val (.int p3), .val (.int p4), .val (.int z6), .val (.int z15), .val (.int z27), .val (.ref b1), .val (.ref b146), .val (.ref b168), .val (.ref b192), .val (.ref b218), .val (.ref b246), .unset, .unset, .unset, .unset] [(.ref b276), (.ref b276)])) (fun _ k => XS.dup (g := (mkF m 174 #[.val (.int p1), .val (.int p2), .val (.int p3), .val (.int p4), .val (.int z6), .val (.int z15), .val (.int z27), .val (.ref b1), .val (.ref b146), .val (.ref b168), .val (.ref b192), .val (.ref b218), .val (.ref b246), .unset, .unset, .unset, .unset] [(.ref b276)])) X292.here hx rfl (hb hby at_174) rfl rfl k) ?_
  refine own_st (T' := T292) (g' := (mkF m 176 #[.val (.int p1), .val (.int p2), .val (.int p3), .val (.int p4), .val (.int z6), .val (.int z15), .val (.int z27), .val (.ref b1), .val (.ref b146), .val (.ref b168), .val (.ref b192), .val (.ref b218), .val (.ref b246), .unset, .unset, .unset, .unset] [(.int (1 : Int32)), (.ref b276), (.ref b276)])) (fun _ k => XS.iconst (g := (mkF m 175 #[.val (.int p1), .val (.int p2), .val (.int p3), .val (.int p4), .val (.int z6), .val (.int z15), .val (.int z27), .val (.ref b1), .val (.ref b146), .val (.ref b168), .val (.ref b192), .val (.ref b218), .val (.ref b246), .unset, .unset, .unset, .unset] [(.ref b276), (.ref b276)])) X292.here hx rfl (hb hby at_175) k) ?_
  refine own_st (T' := T292) (g' := (mkF m 178 #[.val (.int p1), .val (.int p2), .val (.int p3), .val (.int p4), .val (.int z6), .val (.int z15), .val (.int z27), .val (.ref b1), .val (.ref b146), .val (.ref b168), .val (.ref b192), .val (.ref b218), .val (.ref b246), .unset, .unset, .unset, .unset] [(.ref b168), (.int (1 : Int32)), (.ref b276), (.ref b276)])) (fun _ k => Jvm.Free.XS.aload (g := (mkF m 176 #[.val (.int p1), .val (.int p2), .val (.int p3), .val (.int p4), .val (.int z6), .val (.int z15), .val (.int z27), .val (.ref b1), .val (.ref b146), .val (.ref b168), .val (.ref b192), .val (.ref b218), .val (.ref b246), .unset, .unset, .unset, .unset] [(.int (1 : Int32)), (.ref b276), (.ref b276)])) X292.here hx rfl (hb hby at_176) rfl rfl k) ?_
  obtain ⟨cl309, Ar309, qk309, Sz309, Nn309, Hs309, Gs309⟩ := V292
  have hin309 : ¬ ((1 : Int32) < 0 ∨ cl309.slots.size ≤ ((1 : Int32)).toNatClampNeg) := inb_of Sz309 ⟨by decide, by decide⟩
  obtain ⟨T309, h309, X309, e309, W309, st309⟩ := stR X292 hx hZ e292 Ar309 (j := (1 : Int32)) hin309 rfl (Sto.ofV Ar309 qk309 O276 (Ins.of_exa Fa304 (hw _ (List.mem_of_getElem? (i := 33) rfl)))) (g := (mkF m 178 #[.val (.int p1), .val (.int p2), .val (.int p3), .val (.int p4), .val (.int z6), .val (.int z15), .val (.int z27), .val (.ref b1), .val (.ref b146), .val (.ref b168), .val (.ref b192), .val (.ref b218), .val (.ref b246), .unset, .unset, .unset, .unset] [(.ref b168), (.int (1 : Int32)), (.ref b276), (.ref b276)])) rfl rfl (hb hby at_178)
  have V309 : Arv Z h309 b276 k276 (.object "java/lang/Object") (5 : Int32) [(.ref b146), (.ref b168), .null, .null, .null] .null := Arv.set Ar309 qk309 Sz309 Nn309 Hs309 Gs309 rfl W309 1 rfl (Nat.le_of_ble_eq_true rfl)
  have Zs309 : n0 ≤ h309.size := Nat.le_trans Zs292 (Keep.of_wr W309).1
  obtain ⟨lc309, X309, N309⟩ := own_loc X309 (Fr.snoc X309 N292 gn_b276)
  have Fa310 : Sta Z h309 "java/util/ArrayList" "DEFAULTCAPACITY_EMPTY_ELEMENTDATA" "[Ljava/lang/Object;" (.ref ed) := Fa293.wr W309
  have Fa311 : Sta Z h309 "com/example/hollow_tree/hollowtree/query/IdentityTable" "NONE" "[Ljava/lang/Object;" (.ref no) := Fa294.wr W309
  have Fa312 : Arv Z h309 no kN (.object "java/lang/Object") (0 : Int32) [] .null := Fa295.other W309 ne_no_b276
  have Fa313 : Exa Z h309 no "[Ljava/lang/Object;" := Fa296.wr W309
  have Fa314 : Exa Z h309 b1 "[[I" := Fa297.wr W309
  have Fa315 : own_R Z h309 r0 := Fa298.wr W309
  have Fa316 : own_R Z h309 r1 := Fa299.wr W309
  have Fa317 : own_R Z h309 r2 := Fa300.wr W309
  have Fa318 : own_R Z h309 r3 := Fa301.wr W309
  have Fa319 : Arv Z h309 b1 k1 (.array .int) (4 : Int32) [r0, r1, r2, r3] .null := Fa302.other W309 ne_b1_b276
  have Fa320 : Exa Z h309 b146 "java/util/ArrayList" := Fa303.wr W309
  have Fa321 : Exa Z h309 b168 "java/util/ArrayList" := Fa304.wr W309
  have Fa322 : Exa Z h309 b192 "java/util/ArrayList" := Fa305.wr W309
  have Fa323 : Exa Z h309 b218 "java/util/ArrayList" := Fa306.wr W309
  have Fa324 : Exa Z h309 b246 "java/util/ArrayList" := Fa307.wr W309
  have Fa325 : Exa Z h309 b276 "[Ljava/lang/Object;" := Fa308.wr W309
  refine own_st (T' := T309) (g' := (mkF m 179 #[.val (.int p1), .val (.int p2), .val (.int p3), .val (.int p4), .val (.int z6), .val (.int z15), .val (.int z27), .val (.ref b1), .val (.ref b146), .val (.ref b168), .val (.ref b192), .val (.ref b218), .val (.ref b246), .unset, .unset, .unset, .unset] [(.ref b276)])) (fun _ k => (st309) _ k) ?_
  refine own_st (T' := T309) (g' := (mkF m 180 #[.val (.int p1), .val (.int p2), .val (.int p3), .val (.int p4), .val (.int z6), .val (.int z15), .val (.int z27), .val (.ref b1), .val (.ref b146), .val (.ref b168), .val (.ref b192), .val (.ref b218), .val (.ref b246), .unset, .unset, .unset, .unset] [(.ref b276), (.ref b276)])) (fun _ k => XS.dup (g := (mkF m 179 #[.val (.int p1), .val (.int p2), .val (.int p3), .val (.int p4), .val (.int z6), .val (.int z15), .val (.int z27), .val (.ref b1), .val (.ref b146), .val (.ref b168), .val (.ref b192), .val (.ref b218), .val (.ref b246), .unset, .unset, .unset, .unset] [(.ref b276)])) X309.here hx rfl (hb hby at_179) rfl rfl k) ?_
  refine own_st (T' := T309) (g' := (mkF m 181 #[.val (.int p1), .val (.int p2), .val (.int p3), .val (.int p4), .val (.int z6), .val (.int z15), .val (.int z27), .val (.ref b1), .val (.ref b146), .val (.ref b168), .val (.ref b192), .val (.ref b218), .val (.ref b246), .unset, .unset, .unset, .unset] [(.int (2 : Int32)), (.ref b276), (.ref b276)])) (fun _ k => XS.iconst (g := (mkF m 180 #[.val (.int p1), .val (.int p2), .val (.int p3), .val (.int p4), .val (.int z6), .val (.int z15), .val (.int z27), .val (.ref b1), .val (.ref b146), .val (.ref b168), .val (.ref b192), .val (.ref b218), .val (.ref b246), .unset, .unset, .unset, .unset] [(.ref b276), (.ref b276)])) X309.here hx rfl (hb hby at_180) k) ?_
  refine own_st (T' := T309) (g' := (mkF m 183 #[.val (.int p1), .val (.int p2), .val (.int p3), .val (.int p4), .val (.int z6), .val (.int z15), .val (.int z27), .val (.ref b1), .val (.ref b146), .val (.ref b168), .val (.ref b192), .val (.ref b218), .val (.ref b246), .unset, .unset, .unset, .unset] [(.ref b192), (.int (2 : Int32)), (.ref b276), (.ref b276)])) (fun _ k => Jvm.Free.XS.aload (g := (mkF m 181 #[.val (.int p1), .val (.int p2), .val (.int p3), .val (.int p4), .val (.int z6), .val (.int z15), .val (.int z27), .val (.ref b1), .val (.ref b146), .val (.ref b168), .val (.ref b192), .val (.ref b218), .val (.ref b246), .unset, .unset, .unset, .unset] [(.int (2 : Int32)), (.ref b276), (.ref b276)])) X309.here hx rfl (hb hby at_181) rfl rfl k) ?_
  obtain ⟨cl326, Ar326, qk326, Sz326, Nn326, Hs326, Gs326⟩ := V309
  have hin326 : ¬ ((2 : Int32) < 0 ∨ cl326.slots.size ≤ ((2 : Int32)).toNatClampNeg) := inb_of Sz326 ⟨by decide, by decide⟩
  obtain ⟨T326, h326, X326, e326, W326, st326⟩ := stR X309 hx hZ e309 Ar326 (j := (2 : Int32)) hin326 rfl (Sto.ofV Ar326 qk326 O276 (Ins.of_exa Fa322 (hw _ (List.mem_of_getElem? (i := 33) rfl)))) (g := (mkF m 183 #[.val (.int p1), .val (.int p2), .val (.int p3), .val (.int p4), .val (.int z6), .val (.int z15), .val (.int z27), .val (.ref b1), .val (.ref b146), .val (.ref b168), .val (.ref b192), .val (.ref b218), .val (.ref b246), .unset, .unset, .unset, .unset] [(.ref b192), (.int (2 : Int32)), (.ref b276), (.ref b276)])) rfl rfl (hb hby at_183)
  have V326 : Arv Z h326 b276 k276 (.object "java/lang/Object") (5 : Int32) [(.ref b146), (.ref b168), (.ref b192), .null, .null] .null := Arv.set Ar326 qk326 Sz326 Nn326 Hs326 Gs326 rfl W326 2 rfl (Nat.le_of_ble_eq_true rfl)
  have Zs326 : n0 ≤ h326.size := Nat.le_trans Zs309 (Keep.of_wr W326).1
  obtain ⟨lc326, X326, N326⟩ := own_loc X326 (Fr.snoc X326 N309 gn_b276)
  have Fa327 : Sta Z h326 "java/util/ArrayList" "DEFAULTCAPACITY_EMPTY_ELEMENTDATA" "[Ljava/lang/Object;" (.ref ed) := Fa310.wr W326
  have Fa328 : Sta Z h326 "com/example/hollow_tree/hollowtree/query/IdentityTable" "NONE" "[Ljava/lang/Object;" (.ref no) := Fa311.wr W326
  have Fa329 : Arv Z h326 no kN (.object "java/lang/Object") (0 : Int32) [] .null := Fa312.other W326 ne_no_b276
  have Fa330 : Exa Z h326 no "[Ljava/lang/Object;" := Fa313.wr W326
  have Fa331 : Exa Z h326 b1 "[[I" := Fa314.wr W326
  have Fa332 : own_R Z h326 r0 := Fa315.wr W326
  have Fa333 : own_R Z h326 r1 := Fa316.wr W326
  have Fa334 : own_R Z h326 r2 := Fa317.wr W326
  have Fa335 : own_R Z h326 r3 := Fa318.wr W326
  have Fa336 : Arv Z h326 b1 k1 (.array .int) (4 : Int32) [r0, r1, r2, r3] .null := Fa319.other W326 ne_b1_b276
  have Fa337 : Exa Z h326 b146 "java/util/ArrayList" := Fa320.wr W326
  have Fa338 : Exa Z h326 b168 "java/util/ArrayList" := Fa321.wr W326
  have Fa339 : Exa Z h326 b192 "java/util/ArrayList" := Fa322.wr W326
  have Fa340 : Exa Z h326 b218 "java/util/ArrayList" := Fa323.wr W326
  have Fa341 : Exa Z h326 b246 "java/util/ArrayList" := Fa324.wr W326
  have Fa342 : Exa Z h326 b276 "[Ljava/lang/Object;" := Fa325.wr W326
  refine own_st (T' := T326) (g' := (mkF m 184 #[.val (.int p1), .val (.int p2), .val (.int p3), .val (.int p4), .val (.int z6), .val (.int z15), .val (.int z27), .val (.ref b1), .val (.ref b146), .val (.ref b168), .val (.ref b192), .val (.ref b218), .val (.ref b246), .unset, .unset, .unset, .unset] [(.ref b276)])) (fun _ k => (st326) _ k) ?_
  refine own_st (T' := T326) (g' := (mkF m 185 #[.val (.int p1), .val (.int p2), .val (.int p3), .val (.int p4), .val (.int z6), .val (.int z15), .val (.int z27), .val (.ref b1), .val (.ref b146), .val (.ref b168), .val (.ref b192), .val (.ref b218), .val (.ref b246), .unset, .unset, .unset, .unset] [(.ref b276), (.ref b276)])) (fun _ k => XS.dup (g := (mkF m 184 #[.val (.int p1), .val (.int p2), .val (.int p3), .val (.int p4), .val (.int z6), .val (.int z15), .val (.int z27), .val (.ref b1), .val (.ref b146), .val (.ref b168), .val (.ref b192), .val (.ref b218), .val (.ref b246), .unset, .unset, .unset, .unset] [(.ref b276)])) X326.here hx rfl (hb hby at_184) rfl rfl k) ?_
  refine own_st (T' := T326) (g' := (mkF m 186 #[.val (.int p1), .val (.int p2), .val (.int p3), .val (.int p4), .val (.int z6), .val (.int z15), .val (.int z27), .val (.ref b1), .val (.ref b146), .val (.ref b168), .val (.ref b192), .val (.ref b218), .val (.ref b246), .unset, .unset, .unset, .unset] [(.int (3 : Int32)), (.ref b276), (.ref b276)])) (fun _ k => XS.iconst (g := (mkF m 185 #[.val (.int p1), .val (.int p2), .val (.int p3), .val (.int p4), .val (.int z6), .val (.int z15), .val (.int z27), .val (.ref b1), .val (.ref b146), .val (.ref b168), .val (.ref b192), .val (.ref b218), .val (.ref b246), .unset, .unset, .unset, .unset] [(.ref b276), (.ref b276)])) X326.here hx rfl (hb hby at_185) k) ?_
  refine own_st (T' := T326) (g' := (mkF m 188 #[.val (.int p1), .val (.int p2), .val (.int p3), .val (.int p4), .val (.int z6), .val (.int z15), .val (.int z27), .val (.ref b1), .val (.ref b146), .val (.ref b168), .val (.ref b192), .val (.ref b218), .val (.ref b246), .unset, .unset, .unset, .unset] [(.ref b218), (.int (3 : Int32)), (.ref b276), (.ref b276)])) (fun _ k => Jvm.Free.XS.aload (g := (mkF m 186 #[.val (.int p1), .val (.int p2), .val (.int p3), .val (.int p4), .val (.int z6), .val (.int z15), .val (.int z27), .val (.ref b1), .val (.ref b146), .val (.ref b168), .val (.ref b192), .val (.ref b218), .val (.ref b246), .unset, .unset, .unset, .unset] [(.int (3 : Int32)), (.ref b276), (.ref b276)])) X326.here hx rfl (hb hby at_186) rfl rfl k) ?_
  obtain ⟨cl343, Ar343, qk343, Sz343, Nn343, Hs343, Gs343⟩ := V326
  have hin343 : ¬ ((3 : Int32) < 0 ∨ cl343.slots.size ≤ ((3 : Int32)).toNatClampNeg) := inb_of Sz343 ⟨by decide, by decide⟩
  obtain ⟨T343, h343, X343, e343, W343, st343⟩ := stR X326 hx hZ e326 Ar343 (j := (3 : Int32)) hin343 rfl (Sto.ofV Ar343 qk343 O276 (Ins.of_exa Fa340 (hw _ (List.mem_of_getElem? (i := 33) rfl)))) (g := (mkF m 188 #[.val (.int p1), .val (.int p2), .val (.int p3), .val (.int p4), .val (.int z6), .val (.int z15), .val (.int z27), .val (.ref b1), .val (.ref b146), .val (.ref b168), .val (.ref b192), .val (.ref b218), .val (.ref b246), .unset, .unset, .unset, .unset] [(.ref b218), (.int (3 : Int32)), (.ref b276), (.ref b276)])) rfl rfl (hb hby at_188)
  have V343 : Arv Z h343 b276 k276 (.object "java/lang/Object") (5 : Int32) [(.ref b146), (.ref b168), (.ref b192), (.ref b218), .null] .null := Arv.set Ar343 qk343 Sz343 Nn343 Hs343 Gs343 rfl W343 3 rfl (Nat.le_of_ble_eq_true rfl)
  have Zs343 : n0 ≤ h343.size := Nat.le_trans Zs326 (Keep.of_wr W343).1
  obtain ⟨lc343, X343, N343⟩ := own_loc X343 (Fr.snoc X343 N326 gn_b276)
  have Fa344 : Sta Z h343 "java/util/ArrayList" "DEFAULTCAPACITY_EMPTY_ELEMENTDATA" "[Ljava/lang/Object;" (.ref ed) := Fa327.wr W343
  have Fa345 : Sta Z h343 "com/example/hollow_tree/hollowtree/query/IdentityTable" "NONE" "[Ljava/lang/Object;" (.ref no) := Fa328.wr W343
  have Fa346 : Arv Z h343 no kN (.object "java/lang/Object") (0 : Int32) [] .null := Fa329.other W343 ne_no_b276
  have Fa347 : Exa Z h343 no "[Ljava/lang/Object;" := Fa330.wr W343
  have Fa348 : Exa Z h343 b1 "[[I" := Fa331.wr W343
  have Fa349 : own_R Z h343 r0 := Fa332.wr W343
  have Fa350 : own_R Z h343 r1 := Fa333.wr W343
  have Fa351 : own_R Z h343 r2 := Fa334.wr W343
  have Fa352 : own_R Z h343 r3 := Fa335.wr W343
  have Fa353 : Arv Z h343 b1 k1 (.array .int) (4 : Int32) [r0, r1, r2, r3] .null := Fa336.other W343 ne_b1_b276
  have Fa354 : Exa Z h343 b146 "java/util/ArrayList" := Fa337.wr W343
  have Fa355 : Exa Z h343 b168 "java/util/ArrayList" := Fa338.wr W343
  have Fa356 : Exa Z h343 b192 "java/util/ArrayList" := Fa339.wr W343
  have Fa357 : Exa Z h343 b218 "java/util/ArrayList" := Fa340.wr W343
  have Fa358 : Exa Z h343 b246 "java/util/ArrayList" := Fa341.wr W343
  have Fa359 : Exa Z h343 b276 "[Ljava/lang/Object;" := Fa342.wr W343
  refine own_st (T' := T343) (g' := (mkF m 189 #[.val (.int p1), .val (.int p2), .val (.int p3), .val (.int p4), .val (.int z6), .val (.int z15), .val (.int z27), .val (.ref b1), .val (.ref b146), .val (.ref b168), .val (.ref b192), .val (.ref b218), .val (.ref b246), .unset, .unset, .unset, .unset] [(.ref b276)])) (fun _ k => (st343) _ k) ?_
  refine own_st (T' := T343) (g' := (mkF m 190 #[.val (.int p1), .val (.int p2), .val (.int p3), .val (.int p4), .val (.int z6), .val (.int z15), .val (.int z27), .val (.ref b1), .val (.ref b146), .val (.ref b168), .val (.ref b192), .val (.ref b218), .val (.ref b246), .unset, .unset, .unset, .unset] [(.ref b276), (.ref b276)])) (fun _ k => XS.dup (g := (mkF m 189 #[.val (.int p1), .val (.int p2), .val (.int p3), .val (.int p4), .val (.int z6), .val (.int z15), .val (.int z27), .val (.ref b1), .val (.ref b146), .val (.ref b168), .val (.ref b192), .val (.ref b218), .val (.ref b246), .unset, .unset, .unset, .unset] [(.ref b276)])) X343.here hx rfl (hb hby at_189) rfl rfl k) ?_
  refine own_st (T' := T343) (g' := (mkF m 191 #[.val (.int p1), .val (.int p2), .val (.int p3), .val (.int p4), .val (.int z6), .val (.int z15), .val (.int z27), .val (.ref b1), .val (.ref b146), .val (.ref b168), .val (.ref b192), .val (.ref b218), .val (.ref b246), .unset, .unset, .unset, .unset] [(.int (4 : Int32)), (.ref b276), (.ref b276)])) (fun _ k => XS.iconst (g := (mkF m 190 #[.val (.int p1), .val (.int p2), .val (.int p3), .val (.int p4), .val (.int z6), .val (.int z15), .val (.int z27), .val (.ref b1), .val (.ref b146), .val (.ref b168), .val (.ref b192), .val (.ref b218), .val (.ref b246), .unset, .unset, .unset, .unset] [(.ref b276), (.ref b276)])) X343.here hx rfl (hb hby at_190) k) ?_
  refine own_st (T' := T343) (g' := (mkF m 193 #[.val (.int p1), .val (.int p2), .val (.int p3), .val (.int p4), .val (.int z6), .val (.int z15), .val (.int z27), .val (.ref b1), .val (.ref b146), .val (.ref b168), .val (.ref b192), .val (.ref b218), .val (.ref b246), .unset, .unset, .unset, .unset] [(.ref b246), (.int (4 : Int32)), (.ref b276), (.ref b276)])) (fun _ k => Jvm.Free.XS.aload (g := (mkF m 191 #[.val (.int p1), .val (.int p2), .val (.int p3), .val (.int p4), .val (.int z6), .val (.int z15), .val (.int z27), .val (.ref b1), .val (.ref b146), .val (.ref b168), .val (.ref b192), .val (.ref b218), .val (.ref b246), .unset, .unset, .unset, .unset] [(.int (4 : Int32)), (.ref b276), (.ref b276)])) X343.here hx rfl (hb hby at_191) rfl rfl k) ?_
  obtain ⟨cl360, Ar360, qk360, Sz360, Nn360, Hs360, Gs360⟩ := V343
  have hin360 : ¬ ((4 : Int32) < 0 ∨ cl360.slots.size ≤ ((4 : Int32)).toNatClampNeg) := inb_of Sz360 ⟨by decide, by decide⟩
  obtain ⟨T360, h360, X360, e360, W360, st360⟩ := stR X343 hx hZ e343 Ar360 (j := (4 : Int32)) hin360 rfl (Sto.ofV Ar360 qk360 O276 (Ins.of_exa Fa358 (hw _ (List.mem_of_getElem? (i := 33) rfl)))) (g := (mkF m 193 #[.val (.int p1), .val (.int p2), .val (.int p3), .val (.int p4), .val (.int z6), .val (.int z15), .val (.int z27), .val (.ref b1), .val (.ref b146), .val (.ref b168), .val (.ref b192), .val (.ref b218), .val (.ref b246), .unset, .unset, .unset, .unset] [(.ref b246), (.int (4 : Int32)), (.ref b276), (.ref b276)])) rfl rfl (hb hby at_193)
  have V360 : Arv Z h360 b276 k276 (.object "java/lang/Object") (5 : Int32) [(.ref b146), (.ref b168), (.ref b192), (.ref b218), (.ref b246)] .null := Arv.set Ar360 qk360 Sz360 Nn360 Hs360 Gs360 rfl W360 4 rfl (Nat.le_of_ble_eq_true rfl)
  have Zs360 : n0 ≤ h360.size := Nat.le_trans Zs343 (Keep.of_wr W360).1
  obtain ⟨lc360, X360, N360⟩ := own_loc X360 (Fr.snoc X360 N343 gn_b276)
  have Fa361 : Sta Z h360 "java/util/ArrayList" "DEFAULTCAPACITY_EMPTY_ELEMENTDATA" "[Ljava/lang/Object;" (.ref ed) := Fa344.wr W360
  have Fa362 : Sta Z h360 "com/example/hollow_tree/hollowtree/query/IdentityTable" "NONE" "[Ljava/lang/Object;" (.ref no) := Fa345.wr W360
  have Fa363 : Arv Z h360 no kN (.object "java/lang/Object") (0 : Int32) [] .null := Fa346.other W360 ne_no_b276
  have Fa364 : Exa Z h360 no "[Ljava/lang/Object;" := Fa347.wr W360
  have Fa365 : Exa Z h360 b1 "[[I" := Fa348.wr W360
  have Fa366 : own_R Z h360 r0 := Fa349.wr W360
  have Fa367 : own_R Z h360 r1 := Fa350.wr W360
  have Fa368 : own_R Z h360 r2 := Fa351.wr W360
  have Fa369 : own_R Z h360 r3 := Fa352.wr W360
  have Fa370 : Arv Z h360 b1 k1 (.array .int) (4 : Int32) [r0, r1, r2, r3] .null := Fa353.other W360 ne_b1_b276
  have Fa371 : Exa Z h360 b146 "java/util/ArrayList" := Fa354.wr W360
  have Fa372 : Exa Z h360 b168 "java/util/ArrayList" := Fa355.wr W360
  have Fa373 : Exa Z h360 b192 "java/util/ArrayList" := Fa356.wr W360
  have Fa374 : Exa Z h360 b218 "java/util/ArrayList" := Fa357.wr W360
  have Fa375 : Exa Z h360 b246 "java/util/ArrayList" := Fa358.wr W360
  have Fa376 : Exa Z h360 b276 "[Ljava/lang/Object;" := Fa359.wr W360
  refine own_st (T' := T360) (g' := (mkF m 194 #[.val (.int p1), .val (.int p2), .val (.int p3), .val (.int p4), .val (.int z6), .val (.int z15), .val (.int z27), .val (.ref b1), .val (.ref b146), .val (.ref b168), .val (.ref b192), .val (.ref b218), .val (.ref b246), .unset, .unset, .unset, .unset] [(.ref b276)])) (fun _ k => (st360) _ k) ?_
  refine own_st (T' := T360) (g' := (mkF m 196 #[.val (.int p1), .val (.int p2), .val (.int p3), .val (.int p4), .val (.int z6), .val (.int z15), .val (.int z27), .val (.ref b1), .val (.ref b146), .val (.ref b168), .val (.ref b192), .val (.ref b218), .val (.ref b246), .val (.ref b276), .unset, .unset, .unset] [])) (fun _ k => Jvm.Free.XS.astore (g := (mkF m 194 #[.val (.int p1), .val (.int p2), .val (.int p3), .val (.int p4), .val (.int z6), .val (.int z15), .val (.int z27), .val (.ref b1), .val (.ref b146), .val (.ref b168), .val (.ref b192), .val (.ref b218), .val (.ref b246), .unset, .unset, .unset, .unset] [(.ref b276)])) X360.here hx rfl (hb hby at_194) rfl rfl (l' := #[.val (.int p1), .val (.int p2), .val (.int p3), .val (.int p4), .val (.int z6), .val (.int z15), .val (.int z27), .val (.ref b1), .val (.ref b146), .val (.ref b168), .val (.ref b192), .val (.ref b218), .val (.ref b246), .val (.ref b276), .unset, .unset, .unset]) rfl k) ?_
  obtain ⟨T377, h377, X377, e377, E377, A377, D377, -, st377⟩ := newO X360 hx hZ hown (hw _ (List.mem_of_getElem? (i := 34) rfl)) (hw _ (List.mem_of_getElem? (i := 35) rfl)) (hw _ (List.mem_of_getElem? (i := 36) rfl)) e360 (g := (mkF m 196 #[.val (.int p1), .val (.int p2), .val (.int p3), .val (.int p4), .val (.int z6), .val (.int z15), .val (.int z27), .val (.ref b1), .val (.ref b146), .val (.ref b168), .val (.ref b192), .val (.ref b218), .val (.ref b246), .val (.ref b276), .unset, .unset, .unset] [])) rfl (hb hby at_196) (by decide) (by decide)
  obtain ⟨b377, g377⟩ : ∃ z, z = h360.size := ⟨_, rfl⟩
  rw [← g377] at A377 D377 st377
  have ne_no_b377 : no ≠ b377 := Nat.ne_of_lt (Nat.lt_of_lt_of_le Fa363.lt (Nat.le_of_eq g377.symm))
  have ne_b1_b377 : b1 ≠ b377 := Nat.ne_of_lt (Nat.lt_of_lt_of_le Fa365.lt (Nat.le_of_eq g377.symm))
  have ne_b146_b377 : b146 ≠ b377 := Nat.ne_of_lt (Nat.lt_of_lt_of_le Fa371.lt (Nat.le_of_eq g377.symm))
  have ne_b168_b377 : b168 ≠ b377 := Nat.ne_of_lt (Nat.lt_of_lt_of_le Fa372.lt (Nat.le_of_eq g377.symm))
  have ne_b192_b377 : b192 ≠ b377 := Nat.ne_of_lt (Nat.lt_of_lt_of_le Fa373.lt (Nat.le_of_eq g377.symm))
  have ne_b218_b377 : b218 ≠ b377 := Nat.ne_of_lt (Nat.lt_of_lt_of_le Fa374.lt (Nat.le_of_eq g377.symm))
  have ne_b246_b377 : b246 ≠ b377 := Nat.ne_of_lt (Nat.lt_of_lt_of_le Fa375.lt (Nat.le_of_eq g377.symm))
  have ne_b276_b377 : b276 ≠ b377 := Nat.ne_of_lt (Nat.lt_of_lt_of_le Fa376.lt (Nat.le_of_eq g377.symm))
  have gn_b377 : n0 ≤ b377 := Nat.le_trans Zs360 (Nat.le_of_eq g377.symm)
  have Zs377 : n0 ≤ h377.size := Nat.le_trans Zs360 E377.1
  have Fa378 : Sta Z h377 "com/example/hollow_tree/hollowtree/query/IdentityTable" "NONE" "[Ljava/lang/Object;" (.ref no) := Fa362.ext E377
  have Fa379 : Arv Z h377 no kN (.object "java/lang/Object") (0 : Int32) [] .null := Fa363.ext E377
  have Fa380 : Exa Z h377 no "[Ljava/lang/Object;" := Fa364.ext E377
  have Fa381 : Exa Z h377 b1 "[[I" := Fa365.ext E377
  have Fa382 : own_R Z h377 r0 := Fa366.ext E377
  have Fa383 : own_R Z h377 r1 := Fa367.ext E377
  have Fa384 : own_R Z h377 r2 := Fa368.ext E377
  have Fa385 : own_R Z h377 r3 := Fa369.ext E377
  have Fa386 : Arv Z h377 b1 k1 (.array .int) (4 : Int32) [r0, r1, r2, r3] .null := Fa370.ext E377
  have Fa387 : Exa Z h377 b146 "java/util/ArrayList" := Fa371.ext E377
  have Fa388 : Exa Z h377 b168 "java/util/ArrayList" := Fa372.ext E377
  have Fa389 : Exa Z h377 b192 "java/util/ArrayList" := Fa373.ext E377
  have Fa390 : Exa Z h377 b218 "java/util/ArrayList" := Fa374.ext E377
  have Fa391 : Exa Z h377 b246 "java/util/ArrayList" := Fa375.ext E377
  have Fa392 : Exa Z h377 b276 "[Ljava/lang/Object;" := Fa376.ext E377
  have Fa393 : Arv Z h377 b276 k276 (.object "java/lang/Object") (5 : Int32) [(.ref b146), (.ref b168), (.ref b192), (.ref b218), (.ref b246)] .null := V360.ext E377
  have F377_entries : Fld Z h377 b377 "com/example/hollow_tree/hollowtree/query/IdentityTable" "entries" "[Ljava/lang/Object;" .null := D377 (Or.inl (hw _ (List.mem_of_getElem? (i := 44) rfl))) (ty := (.array (.object "java/lang/Object"))) (by decide)
  have F377_size : Fld Z h377 b377 "com/example/hollow_tree/hollowtree/query/IdentityTable" "size" "I" (.int (0 : Int32)) := D377 (Or.inl (hw _ (List.mem_of_getElem? (i := 51) rfl))) (ty := .int) (by decide)
  refine own_st (T' := T377) (g' := (mkF m 199 #[.val (.int p1), .val (.int p2), .val (.int p3), .val (.int p4), .val (.int z6), .val (.int z15), .val (.int z27), .val (.ref b1), .val (.ref b146), .val (.ref b168), .val (.ref b192), .val (.ref b218), .val (.ref b246), .val (.ref b276), .unset, .unset, .unset] [(.ref b377)])) (fun _ k => (st377) _ k) ?_
  refine own_st (T' := T377) (g' := (mkF m 200 #[.val (.int p1), .val (.int p2), .val (.int p3), .val (.int p4), .val (.int z6), .val (.int z15), .val (.int z27), .val (.ref b1), .val (.ref b146), .val (.ref b168), .val (.ref b192), .val (.ref b218), .val (.ref b246), .val (.ref b276), .unset, .unset, .unset] [(.ref b377), (.ref b377)])) (fun _ k => XS.dup (g := (mkF m 199 #[.val (.int p1), .val (.int p2), .val (.int p3), .val (.int p4), .val (.int z6), .val (.int z15), .val (.int z27), .val (.ref b1), .val (.ref b146), .val (.ref b168), .val (.ref b192), .val (.ref b218), .val (.ref b246), .val (.ref b276), .unset, .unset, .unset] [(.ref b377)])) X377.here hx rfl (hb hby at_199) rfl rfl k) ?_
  obtain ⟨v394, T394, L394, X394, hQ394, st394⟩ := own_packV (X377.specialBack hx (y := (⟨"com/example/hollow_tree/hollowtree/query/IdentityTable", "<init>", "()V"⟩ : MethodName)) rfl hown (mvT hZ (hw _ (List.mem_of_getElem? (i := 37) rfl))) (mvT hZ (hw _ (List.mem_of_getElem? (i := 38) rfl))) (mvT hZ (hw _ (List.mem_of_getElem? (i := 39) rfl))) (by decide) (backOf (W := 1) (rm5 l Z a0 hw [] b377 no h377 n0 Zs377 A377 F377_entries F377_size Fa378 gn_b377) hZ (hw _ (List.mem_of_getElem? (i := 39) rfl)) (hw _ (List.mem_of_getElem? (i := 36) rfl)) (by decide) (by decide)) (g := (mkF m 200 #[.val (.int p1), .val (.int p2), .val (.int p3), .val (.int p4), .val (.int z6), .val (.int z15), .val (.int z27), .val (.ref b1), .val (.ref b146), .val (.ref b168), .val (.ref b192), .val (.ref b218), .val (.ref b246), .val (.ref b276), .unset, .unset, .unset] [(.ref b377), (.ref b377)])) rfl (by rw [hml]; rfl) (Steps.refl _) (a := b377) (argsL := []) (rest := [(.ref b377)]) (lenOf own_pd0_0 rfl) rfl (by show 2 * 0 + _ ≤ _; exact Nat.le_of_eq rfl) (hb hby at_200) (fun _ _ => ⟨rfl, e377, (by decide : 12 + 0 ≤ _), (by decide : 30 + 0 ≤ _)⟩))
  obtain ⟨rfl, N394q, Kq394, Fq394_0, Fq394_1, Fq394_2⟩ := hQ394
  obtain ⟨lc394, X394, N394⟩ := own_loc X394 (Fr.app N360 N394q)
  have Zs394 : n0 ≤ T394.heap.size := Nat.le_trans Zs377 Kq394.1
  have Fa395 : Sta Z T394.heap "com/example/hollow_tree/hollowtree/query/IdentityTable" "NONE" "[Ljava/lang/Object;" (.ref no) := own_sta_keep Fa378 Kq394 (nsS A377.nostat ns0)
  have Fa396 : Arv Z T394.heap no kN (.object "java/lang/Object") (0 : Int32) [] .null := Fa379.keep Kq394 (ninS ne_no_b377 nin0)
  have Fa397 : Exa Z T394.heap no "[Ljava/lang/Object;" := Fa380.keep Kq394
  have Fa398 : Exa Z T394.heap b1 "[[I" := Fa381.keep Kq394
  have Fa399 : own_R Z T394.heap r0 := Fa382.keep Kq394
  have Fa400 : own_R Z T394.heap r1 := Fa383.keep Kq394
  have Fa401 : own_R Z T394.heap r2 := Fa384.keep Kq394
  have Fa402 : own_R Z T394.heap r3 := Fa385.keep Kq394
  have Fa403 : Arv Z T394.heap b1 k1 (.array .int) (4 : Int32) [r0, r1, r2, r3] .null := Fa386.keep Kq394 (ninS ne_b1_b377 nin0)
  have Fa404 : Exa Z T394.heap b146 "java/util/ArrayList" := Fa387.keep Kq394
  have Fa405 : Exa Z T394.heap b168 "java/util/ArrayList" := Fa388.keep Kq394
  have Fa406 : Exa Z T394.heap b192 "java/util/ArrayList" := Fa389.keep Kq394
  have Fa407 : Exa Z T394.heap b218 "java/util/ArrayList" := Fa390.keep Kq394
  have Fa408 : Exa Z T394.heap b246 "java/util/ArrayList" := Fa391.keep Kq394
  have Fa409 : Exa Z T394.heap b276 "[Ljava/lang/Object;" := Fa392.keep Kq394
  have Fa410 : Arv Z T394.heap b276 k276 (.object "java/lang/Object") (5 : Int32) [(.ref b146), (.ref b168), (.ref b192), (.ref b218), (.ref b246)] .null := Fa393.keep Kq394 (ninS ne_b276_b377 nin0)
  refine own_st (T' := T394) (g' := (mkF m 203 #[.val (.int p1), .val (.int p2), .val (.int p3), .val (.int p4), .val (.int z6), .val (.int z15), .val (.int z27), .val (.ref b1), .val (.ref b146), .val (.ref b168), .val (.ref b192), .val (.ref b218), .val (.ref b246), .val (.ref b276), .unset, .unset, .unset] [(.ref b377)])) (fun _ k => (st394) _ k) ?_
  refine own_st (T' := T394) (g' := (mkF m 205 #[.val (.int p1), .val (.int p2), .val (.int p3), .val (.int p4), .val (.int z6), .val (.int z15), .val (.int z27), .val (.ref b1), .val (.ref b146), .val (.ref b168), .val (.ref b192), .val (.ref b218), .val (.ref b246), .val (.ref b276), .val (.ref b377), .unset, .unset] [])) (fun _ k => Jvm.Free.XS.astore (g := (mkF m 203 #[.val (.int p1), .val (.int p2), .val (.int p3), .val (.int p4), .val (.int z6), .val (.int z15), .val (.int z27), .val (.ref b1), .val (.ref b146), .val (.ref b168), .val (.ref b192), .val (.ref b218), .val (.ref b246), .val (.ref b276), .unset, .unset, .unset] [(.ref b377)])) X394.here hx rfl (hb hby at_203) rfl rfl (l' := #[.val (.int p1), .val (.int p2), .val (.int p3), .val (.int p4), .val (.int z6), .val (.int z15), .val (.int z27), .val (.ref b1), .val (.ref b146), .val (.ref b168), .val (.ref b192), .val (.ref b218), .val (.ref b246), .val (.ref b276), .val (.ref b377), .unset, .unset]) rfl k) ?_
  rcases hzn with rfl | rfl | rfl | rfl | rfl
  · refine own_st (T' := T394) (g' := (mkF m 207 #[.val (.int p1), .val (.int p2), .val (.int p3), .val (.int p4), .val (.int (0 : Int32)), .val (.int z15), .val (.int z27), .val (.ref b1), .val (.ref b146), .val (.ref b168), .val (.ref b192), .val (.ref b218), .val (.ref b246), .val (.ref b276), .val (.ref b377), .unset, .unset] [(.int (0 : Int32))])) (fun _ k => Jvm.Free.XS.iload (g := (mkF m 205 #[.val (.int p1), .val (.int p2), .val (.int p3), .val (.int p4), .val (.int (0 : Int32)), .val (.int z15), .val (.int z27), .val (.ref b1), .val (.ref b146), .val (.ref b168), .val (.ref b192), .val (.ref b218), .val (.ref b246), .val (.ref b276), .val (.ref b377), .unset, .unset] [])) X394.here hx rfl (hb hby at_205) rfl k) ?_
    refine own_st (T' := T394) (g' := (mkF m 221 #[.val (.int p1), .val (.int p2), .val (.int p3), .val (.int p4), .val (.int (0 : Int32)), .val (.int z15), .val (.int z27), .val (.ref b1), .val (.ref b146), .val (.ref b168), .val (.ref b192), .val (.ref b218), .val (.ref b246), .val (.ref b276), .val (.ref b377), .unset, .unset] [])) (fun _ k => XS.ifYes (g := (mkF m 207 #[.val (.int p1), .val (.int p2), .val (.int p3), .val (.int p4), .val (.int (0 : Int32)), .val (.int z15), .val (.int z27), .val (.ref b1), .val (.ref b146), .val (.ref b168), .val (.ref b192), .val (.ref b218), .val (.ref b246), .val (.ref b276), .val (.ref b377), .unset, .unset] [(.int (0 : Int32))])) X394.here hx rfl (pc0 := 207) (pc' := 221) rfl (hb hby at_207) rfl ((if0 _ _).trans (flt (by decide : ¬ ((0 : Int32) < (0 : Int32)))).2.2.2) (by decide) (by decide) k) ?_
    refine own_st (T' := T394) (g' := (mkF m 223 #[.val (.int p1), .val (.int p2), .val (.int p3), .val (.int p4), .val (.int (0 : Int32)), .val (.int z15), .val (.int z27), .val (.ref b1), .val (.ref b146), .val (.ref b168), .val (.ref b192), .val (.ref b218), .val (.ref b246), .val (.ref b276), .val (.ref b377), .unset, .unset] [(.int (0 : Int32))])) (fun _ k => Jvm.Free.XS.iload (g := (mkF m 221 #[.val (.int p1), .val (.int p2), .val (.int p3), .val (.int p4), .val (.int (0 : Int32)), .val (.int z15), .val (.int z27), .val (.ref b1), .val (.ref b146), .val (.ref b168), .val (.ref b192), .val (.ref b218), .val (.ref b246), .val (.ref b276), .val (.ref b377), .unset, .unset] [])) X394.here hx rfl (hb hby at_221) rfl k) ?_
    refine own_st (T' := T394) (g' := (mkF m 224 #[.val (.int p1), .val (.int p2), .val (.int p3), .val (.int p4), .val (.int (0 : Int32)), .val (.int z15), .val (.int z27), .val (.ref b1), .val (.ref b146), .val (.ref b168), .val (.ref b192), .val (.ref b218), .val (.ref b246), .val (.ref b276), .val (.ref b377), .unset, .unset] [(.int (1 : Int32)), (.int (0 : Int32))])) (fun _ k => XS.iconst (g := (mkF m 223 #[.val (.int p1), .val (.int p2), .val (.int p3), .val (.int p4), .val (.int (0 : Int32)), .val (.int z15), .val (.int z27), .val (.ref b1), .val (.ref b146), .val (.ref b168), .val (.ref b192), .val (.ref b218), .val (.ref b246), .val (.ref b276), .val (.ref b377), .unset, .unset] [(.int (0 : Int32))])) X394.here hx rfl (hb hby at_223) k) ?_
    refine own_st (T' := T394) (g' := (mkF m 238 #[.val (.int p1), .val (.int p2), .val (.int p3), .val (.int p4), .val (.int (0 : Int32)), .val (.int z15), .val (.int z27), .val (.ref b1), .val (.ref b146), .val (.ref b168), .val (.ref b192), .val (.ref b218), .val (.ref b246), .val (.ref b276), .val (.ref b377), .unset, .unset] [])) (fun _ k => XS.icmpYes (g := (mkF m 224 #[.val (.int p1), .val (.int p2), .val (.int p3), .val (.int p4), .val (.int (0 : Int32)), .val (.int z15), .val (.int z27), .val (.ref b1), .val (.ref b146), .val (.ref b168), .val (.ref b192), .val (.ref b218), .val (.ref b246), .val (.ref b276), .val (.ref b377), .unset, .unset] [(.int (1 : Int32)), (.int (0 : Int32))])) X394.here hx rfl (pc0 := 224) (pc' := 238) rfl (hb hby at_224) rfl (flt (by decide : ¬ ((1 : Int32) < (0 : Int32)))).2.2.2 (by decide) (by decide) k) ?_
    refine own_st (T' := T394) (g' := (mkF m 240 #[.val (.int p1), .val (.int p2), .val (.int p3), .val (.int p4), .val (.int (0 : Int32)), .val (.int z15), .val (.int z27), .val (.ref b1), .val (.ref b146), .val (.ref b168), .val (.ref b192), .val (.ref b218), .val (.ref b246), .val (.ref b276), .val (.ref b377), .unset, .unset] [(.int (0 : Int32))])) (fun _ k => Jvm.Free.XS.iload (g := (mkF m 238 #[.val (.int p1), .val (.int p2), .val (.int p3), .val (.int p4), .val (.int (0 : Int32)), .val (.int z15), .val (.int z27), .val (.ref b1), .val (.ref b146), .val (.ref b168), .val (.ref b192), .val (.ref b218), .val (.ref b246), .val (.ref b276), .val (.ref b377), .unset, .unset] [])) X394.here hx rfl (hb hby at_238) rfl k) ?_
    refine own_st (T' := T394) (g' := (mkF m 241 #[.val (.int p1), .val (.int p2), .val (.int p3), .val (.int p4), .val (.int (0 : Int32)), .val (.int z15), .val (.int z27), .val (.ref b1), .val (.ref b146), .val (.ref b168), .val (.ref b192), .val (.ref b218), .val (.ref b246), .val (.ref b276), .val (.ref b377), .unset, .unset] [(.int (2 : Int32)), (.int (0 : Int32))])) (fun _ k => XS.iconst (g := (mkF m 240 #[.val (.int p1), .val (.int p2), .val (.int p3), .val (.int p4), .val (.int (0 : Int32)), .val (.int z15), .val (.int z27), .val (.ref b1), .val (.ref b146), .val (.ref b168), .val (.ref b192), .val (.ref b218), .val (.ref b246), .val (.ref b276), .val (.ref b377), .unset, .unset] [(.int (0 : Int32))])) X394.here hx rfl (hb hby at_240) k) ?_
    refine own_st (T' := T394) (g' := (mkF m 255 #[.val (.int p1), .val (.int p2), .val (.int p3), .val (.int p4), .val (.int (0 : Int32)), .val (.int z15), .val (.int z27), .val (.ref b1), .val (.ref b146), .val (.ref b168), .val (.ref b192), .val (.ref b218), .val (.ref b246), .val (.ref b276), .val (.ref b377), .unset, .unset] [])) (fun _ k => XS.icmpYes (g := (mkF m 241 #[.val (.int p1), .val (.int p2), .val (.int p3), .val (.int p4), .val (.int (0 : Int32)), .val (.int z15), .val (.int z27), .val (.ref b1), .val (.ref b146), .val (.ref b168), .val (.ref b192), .val (.ref b218), .val (.ref b246), .val (.ref b276), .val (.ref b377), .unset, .unset] [(.int (2 : Int32)), (.int (0 : Int32))])) X394.here hx rfl (pc0 := 241) (pc' := 255) rfl (hb hby at_241) rfl (flt (by decide : ¬ ((2 : Int32) < (0 : Int32)))).2.2.2 (by decide) (by decide) k) ?_
    refine own_st (T' := T394) (g' := (mkF m 257 #[.val (.int p1), .val (.int p2), .val (.int p3), .val (.int p4), .val (.int (0 : Int32)), .val (.int z15), .val (.int z27), .val (.ref b1), .val (.ref b146), .val (.ref b168), .val (.ref b192), .val (.ref b218), .val (.ref b246), .val (.ref b276), .val (.ref b377), .unset, .unset] [(.int (0 : Int32))])) (fun _ k => Jvm.Free.XS.iload (g := (mkF m 255 #[.val (.int p1), .val (.int p2), .val (.int p3), .val (.int p4), .val (.int (0 : Int32)), .val (.int z15), .val (.int z27), .val (.ref b1), .val (.ref b146), .val (.ref b168), .val (.ref b192), .val (.ref b218), .val (.ref b246), .val (.ref b276), .val (.ref b377), .unset, .unset] [])) X394.here hx rfl (hb hby at_255) rfl k) ?_
    refine own_st (T' := T394) (g' := (mkF m 258 #[.val (.int p1), .val (.int p2), .val (.int p3), .val (.int p4), .val (.int (0 : Int32)), .val (.int z15), .val (.int z27), .val (.ref b1), .val (.ref b146), .val (.ref b168), .val (.ref b192), .val (.ref b218), .val (.ref b246), .val (.ref b276), .val (.ref b377), .unset, .unset] [(.int (3 : Int32)), (.int (0 : Int32))])) (fun _ k => XS.iconst (g := (mkF m 257 #[.val (.int p1), .val (.int p2), .val (.int p3), .val (.int p4), .val (.int (0 : Int32)), .val (.int z15), .val (.int z27), .val (.ref b1), .val (.ref b146), .val (.ref b168), .val (.ref b192), .val (.ref b218), .val (.ref b246), .val (.ref b276), .val (.ref b377), .unset, .unset] [(.int (0 : Int32))])) X394.here hx rfl (hb hby at_257) k) ?_
    refine own_st (T' := T394) (g' := (mkF m 272 #[.val (.int p1), .val (.int p2), .val (.int p3), .val (.int p4), .val (.int (0 : Int32)), .val (.int z15), .val (.int z27), .val (.ref b1), .val (.ref b146), .val (.ref b168), .val (.ref b192), .val (.ref b218), .val (.ref b246), .val (.ref b276), .val (.ref b377), .unset, .unset] [])) (fun _ k => XS.icmpYes (g := (mkF m 258 #[.val (.int p1), .val (.int p2), .val (.int p3), .val (.int p4), .val (.int (0 : Int32)), .val (.int z15), .val (.int z27), .val (.ref b1), .val (.ref b146), .val (.ref b168), .val (.ref b192), .val (.ref b218), .val (.ref b246), .val (.ref b276), .val (.ref b377), .unset, .unset] [(.int (3 : Int32)), (.int (0 : Int32))])) X394.here hx rfl (pc0 := 258) (pc' := 272) rfl (hb hby at_258) rfl (flt (by decide : ¬ ((3 : Int32) < (0 : Int32)))).2.2.2 (by decide) (by decide) k) ?_
    refine own_st (T' := T394) (g' := (mkF m 274 #[.val (.int p1), .val (.int p2), .val (.int p3), .val (.int p4), .val (.int (0 : Int32)), .val (.int z15), .val (.int z27), .val (.ref b1), .val (.ref b146), .val (.ref b168), .val (.ref b192), .val (.ref b218), .val (.ref b246), .val (.ref b276), .val (.ref b377), .unset, .unset] [(.ref b377)])) (fun _ k => Jvm.Free.XS.aload (g := (mkF m 272 #[.val (.int p1), .val (.int p2), .val (.int p3), .val (.int p4), .val (.int (0 : Int32)), .val (.int z15), .val (.int z27), .val (.ref b1), .val (.ref b146), .val (.ref b168), .val (.ref b192), .val (.ref b218), .val (.ref b246), .val (.ref b276), .val (.ref b377), .unset, .unset] [])) X394.here hx rfl (hb hby at_272) rfl rfl k) ?_
    refine own_st (T' := T394) (g' := (mkF m 276 #[.val (.int p1), .val (.int p2), .val (.int p3), .val (.int p4), .val (.int (0 : Int32)), .val (.int z15), .val (.int z27), .val (.ref b1), .val (.ref b146), .val (.ref b168), .val (.ref b192), .val (.ref b218), .val (.ref b246), .val (.ref b276), .val (.ref b377), .unset, .unset] [(.ref b276), (.ref b377)])) (fun _ k => Jvm.Free.XS.aload (g := (mkF m 274 #[.val (.int p1), .val (.int p2), .val (.int p3), .val (.int p4), .val (.int (0 : Int32)), .val (.int z15), .val (.int z27), .val (.ref b1), .val (.ref b146), .val (.ref b168), .val (.ref b192), .val (.ref b218), .val (.ref b246), .val (.ref b276), .val (.ref b377), .unset, .unset] [(.ref b377)])) X394.here hx rfl (hb hby at_274) rfl rfl k) ?_
    refine own_st (T' := T394) (g' := (mkF m 278 #[.val (.int p1), .val (.int p2), .val (.int p3), .val (.int p4), .val (.int (0 : Int32)), .val (.int z15), .val (.int z27), .val (.ref b1), .val (.ref b146), .val (.ref b168), .val (.ref b192), .val (.ref b218), .val (.ref b246), .val (.ref b276), .val (.ref b377), .unset, .unset] [(.int z15), (.ref b276), (.ref b377)])) (fun _ k => Jvm.Free.XS.iload (g := (mkF m 276 #[.val (.int p1), .val (.int p2), .val (.int p3), .val (.int p4), .val (.int (0 : Int32)), .val (.int z15), .val (.int z27), .val (.ref b1), .val (.ref b146), .val (.ref b168), .val (.ref b192), .val (.ref b218), .val (.ref b246), .val (.ref b276), .val (.ref b377), .unset, .unset] [(.ref b276), (.ref b377)])) X394.here hx rfl (hb hby at_276) rfl k) ?_
    obtain ⟨cl411, Ar411, -, Sz411, Nn411, Hs411, Gs411⟩ := id Fa410
    obtain ⟨kq411, hkq411⟩ : ∃ z, z = ([b146, b168, b192, b218, b246] : List Addr).getD z15.toNatClampNeg 0 := ⟨_, rfl⟩
    have hin411 : ¬ (z15 < 0 ∨ cl411.slots.size ≤ (z15).toNatClampNeg) := inb_of Sz411 (own_q5 _ hq1).1
    have hat411 : cl411.slots[(z15).toNatClampNeg]? = some (.ref kq411) := Has.at Hs411 hin411 ((own_getR [b146, b168, b192, b218, b246] _ (own_q5 _ hq1).2).trans (congrArg Value.ref hkq411.symm))
    refine own_st (T' := T394) (g' := (mkF m 279 #[.val (.int p1), .val (.int p2), .val (.int p3), .val (.int p4), .val (.int (0 : Int32)), .val (.int z15), .val (.int z27), .val (.ref b1), .val (.ref b146), .val (.ref b168), .val (.ref b192), .val (.ref b218), .val (.ref b246), .val (.ref b276), .val (.ref b377), .unset, .unset] [(.ref kq411), (.ref b377)])) (fun _ k => (X394.aaload hx (j := z15) (v := (.ref kq411)) Ar411.1 (State.isArrayOf_alike hZ.alike Ar411.2.1) rfl Ar411.2.2 hin411 hat411 (g := (mkF m 278 #[.val (.int p1), .val (.int p2), .val (.int p3), .val (.int p4), .val (.int (0 : Int32)), .val (.int z15), .val (.int z27), .val (.ref b1), .val (.ref b146), .val (.ref b168), .val (.ref b192), .val (.ref b218), .val (.ref b246), .val (.ref b276), .val (.ref b377), .unset, .unset] [(.int z15), (.ref b276), (.ref b377)])) rfl rfl (hb hby at_278)) _ k) ?_
    obtain ⟨cq412, kq412, q412a, q412b, q412c⟩ := isOf hZ rfl Fq394_0
    obtain ⟨v412, T412, L412, X412, hQ412, st412⟩ := own_packV (X394.virtualBack hx (y := (⟨"com/example/hollow_tree/hollowtree/query/IdentityTable", "get", "(Ljava/lang/Object;)Ljava/lang/Object;"⟩ : MethodName)) (z := (⟨"com/example/hollow_tree/hollowtree/query/IdentityTable", "get", "(Ljava/lang/Object;)Ljava/lang/Object;"⟩ : MethodName)) hown (mvT hZ (hw _ (List.mem_of_getElem? (i := 45) rfl))) (mvT hZ (hw _ (List.mem_of_getElem? (i := 46) rfl))) (notFace_of_selects (args := #[]) (mvT hZ (hw _ (List.mem_of_getElem? (i := 48) rfl)))) (mvT hZ (hw _ (List.mem_of_getElem? (i := 48) rfl))) (mvT hZ (hw _ (List.mem_of_getElem? (i := 47) rfl))) (by decide) (backOf (W := 0) (rm6_0 l Z a0 hw [] b377 kq411 no kN  T394.heap n0 Zs394 Fq394_1 Fq394_2 Fa396) hZ (hw _ (List.mem_of_getElem? (i := 49) rfl)) (hw _ (List.mem_of_getElem? (i := 36) rfl)) (by decide) (by decide)) q412a q412c (g := (mkF m 279 #[.val (.int p1), .val (.int p2), .val (.int p3), .val (.int p4), .val (.int (0 : Int32)), .val (.int z15), .val (.int z27), .val (.ref b1), .val (.ref b146), .val (.ref b168), .val (.ref b192), .val (.ref b218), .val (.ref b246), .val (.ref b276), .val (.ref b377), .unset, .unset] [(.ref kq411), (.ref b377)])) rfl (by rw [hml]; rfl) (Steps.refl _) (argsL := [(.ref kq411)]) (rest := []) (lenOf own_pd0_1 rfl) rfl (by show 2 * 0 + _ ≤ _; exact Nat.le_of_eq rfl) (hb hby at_279) (fun _ _ => ⟨rfl, rfl, (by decide : 12 + 0 ≤ _), (by decide : 30 + 0 ≤ _)⟩))
    obtain ⟨g412, rfl, hg412, N412q, e412⟩ := hQ412
    obtain ⟨lc412, X412, N412⟩ := own_loc X412 (Fr.app N394 N412q)
    have Rg412 : own_R Z T394.heap g412 := by
      rw [hg412]
      exact own_lk_R _ _ (fun q hq => by cases hq)
    refine own_st (T' := T412) (g' := (mkF m 282 #[.val (.int p1), .val (.int p2), .val (.int p3), .val (.int p4), .val (.int (0 : Int32)), .val (.int z15), .val (.int z27), .val (.ref b1), .val (.ref b146), .val (.ref b168), .val (.ref b192), .val (.ref b218), .val (.ref b246), .val (.ref b276), .val (.ref b377), .unset, .unset] [g412])) (fun _ k => (st412) _ k) ?_
    obtain ⟨T413, X413, e413, st413⟩ := own_castV X412 hx hZ hown (hw _ (List.mem_of_getElem? (i := 1) rfl)) e412 Rg412 (g := (mkF m 282 #[.val (.int p1), .val (.int p2), .val (.int p3), .val (.int p4), .val (.int (0 : Int32)), .val (.int z15), .val (.int z27), .val (.ref b1), .val (.ref b146), .val (.ref b168), .val (.ref b192), .val (.ref b218), .val (.ref b246), .val (.ref b276), .val (.ref b377), .unset, .unset] [g412])) rfl rfl (hb hby at_282)
    refine own_st (T' := T413) (g' := (mkF m 285 #[.val (.int p1), .val (.int p2), .val (.int p3), .val (.int p4), .val (.int (0 : Int32)), .val (.int z15), .val (.int z27), .val (.ref b1), .val (.ref b146), .val (.ref b168), .val (.ref b192), .val (.ref b218), .val (.ref b246), .val (.ref b276), .val (.ref b377), .unset, .unset] [g412])) (fun _ k => (st413) _ k) ?_
    refine own_st (T' := T413) (g' := (mkF m 287 #[.val (.int p1), .val (.int p2), .val (.int p3), .val (.int p4), .val (.int (0 : Int32)), .val (.int z15), .val (.int z27), .val (.ref b1), .val (.ref b146), .val (.ref b168), .val (.ref b192), .val (.ref b218), .val (.ref b246), .val (.ref b276), .val (.ref b377), .val g412, .unset] [])) (fun _ k => Jvm.Free.XS.astore (g := (mkF m 285 #[.val (.int p1), .val (.int p2), .val (.int p3), .val (.int p4), .val (.int (0 : Int32)), .val (.int z15), .val (.int z27), .val (.ref b1), .val (.ref b146), .val (.ref b168), .val (.ref b192), .val (.ref b218), .val (.ref b246), .val (.ref b276), .val (.ref b377), .unset, .unset] [g412])) X413.here hx rfl (hb hby at_285) rfl ((Rg412.rf)).isRef (l' := #[.val (.int p1), .val (.int p2), .val (.int p3), .val (.int p4), .val (.int (0 : Int32)), .val (.int z15), .val (.int z27), .val (.ref b1), .val (.ref b146), .val (.ref b168), .val (.ref b192), .val (.ref b218), .val (.ref b246), .val (.ref b276), .val (.ref b377), .val g412, .unset]) (by rcases (Rg412.rf) with rfl | ⟨_, rfl⟩ <;> rfl) k) ?_
    refine own_st (T' := T413) (g' := (mkF m 289 #[.val (.int p1), .val (.int p2), .val (.int p3), .val (.int p4), .val (.int (0 : Int32)), .val (.int z15), .val (.int z27), .val (.ref b1), .val (.ref b146), .val (.ref b168), .val (.ref b192), .val (.ref b218), .val (.ref b246), .val (.ref b276), .val (.ref b377), .val g412, .unset] [(.ref b377)])) (fun _ k => Jvm.Free.XS.aload (g := (mkF m 287 #[.val (.int p1), .val (.int p2), .val (.int p3), .val (.int p4), .val (.int (0 : Int32)), .val (.int z15), .val (.int z27), .val (.ref b1), .val (.ref b146), .val (.ref b168), .val (.ref b192), .val (.ref b218), .val (.ref b246), .val (.ref b276), .val (.ref b377), .val g412, .unset] [])) X413.here hx rfl (hb hby at_287) rfl rfl k) ?_
    refine own_st (T' := T413) (g' := (mkF m 291 #[.val (.int p1), .val (.int p2), .val (.int p3), .val (.int p4), .val (.int (0 : Int32)), .val (.int z15), .val (.int z27), .val (.ref b1), .val (.ref b146), .val (.ref b168), .val (.ref b192), .val (.ref b218), .val (.ref b246), .val (.ref b276), .val (.ref b377), .val g412, .unset] [(.ref b276), (.ref b377)])) (fun _ k => Jvm.Free.XS.aload (g := (mkF m 289 #[.val (.int p1), .val (.int p2), .val (.int p3), .val (.int p4), .val (.int (0 : Int32)), .val (.int z15), .val (.int z27), .val (.ref b1), .val (.ref b146), .val (.ref b168), .val (.ref b192), .val (.ref b218), .val (.ref b246), .val (.ref b276), .val (.ref b377), .val g412, .unset] [(.ref b377)])) X413.here hx rfl (hb hby at_289) rfl rfl k) ?_
    refine own_st (T' := T413) (g' := (mkF m 293 #[.val (.int p1), .val (.int p2), .val (.int p3), .val (.int p4), .val (.int (0 : Int32)), .val (.int z15), .val (.int z27), .val (.ref b1), .val (.ref b146), .val (.ref b168), .val (.ref b192), .val (.ref b218), .val (.ref b246), .val (.ref b276), .val (.ref b377), .val g412, .unset] [(.int z27), (.ref b276), (.ref b377)])) (fun _ k => Jvm.Free.XS.iload (g := (mkF m 291 #[.val (.int p1), .val (.int p2), .val (.int p3), .val (.int p4), .val (.int (0 : Int32)), .val (.int z15), .val (.int z27), .val (.ref b1), .val (.ref b146), .val (.ref b168), .val (.ref b192), .val (.ref b218), .val (.ref b246), .val (.ref b276), .val (.ref b377), .val g412, .unset] [(.ref b276), (.ref b377)])) X413.here hx rfl (hb hby at_291) rfl k) ?_
    obtain ⟨cl414, Ar414, -, Sz414, Nn414, Hs414, Gs414⟩ := id Fa410
    obtain ⟨kq414, hkq414⟩ : ∃ z, z = ([b146, b168, b192, b218, b246] : List Addr).getD z27.toNatClampNeg 0 := ⟨_, rfl⟩
    have hin414 : ¬ (z27 < 0 ∨ cl414.slots.size ≤ (z27).toNatClampNeg) := inb_of Sz414 (own_q5 _ hq2).1
    have hat414 : cl414.slots[(z27).toNatClampNeg]? = some (.ref kq414) := Has.at Hs414 hin414 ((own_getR [b146, b168, b192, b218, b246] _ (own_q5 _ hq2).2).trans (congrArg Value.ref hkq414.symm))
    refine own_st (T' := T413) (g' := (mkF m 294 #[.val (.int p1), .val (.int p2), .val (.int p3), .val (.int p4), .val (.int (0 : Int32)), .val (.int z15), .val (.int z27), .val (.ref b1), .val (.ref b146), .val (.ref b168), .val (.ref b192), .val (.ref b218), .val (.ref b246), .val (.ref b276), .val (.ref b377), .val g412, .unset] [(.ref kq414), (.ref b377)])) (fun _ k => (X413.aaload hx (j := z27) (v := (.ref kq414)) (by rw [e413]; exact Ar414.1) (State.isArrayOf_alike hZ.alike Ar414.2.1) rfl Ar414.2.2 hin414 hat414 (g := (mkF m 293 #[.val (.int p1), .val (.int p2), .val (.int p3), .val (.int p4), .val (.int (0 : Int32)), .val (.int z15), .val (.int z27), .val (.ref b1), .val (.ref b146), .val (.ref b168), .val (.ref b192), .val (.ref b218), .val (.ref b246), .val (.ref b276), .val (.ref b377), .val g412, .unset] [(.int z27), (.ref b276), (.ref b377)])) rfl rfl (hb hby at_293)) _ k) ?_
    obtain ⟨cq415, kq415, q415a, q415b, q415c⟩ := isOf hZ e413 Fq394_0
    obtain ⟨v415, T415, L415, X415, hQ415, st415⟩ := own_packV (X413.virtualBack hx (y := (⟨"com/example/hollow_tree/hollowtree/query/IdentityTable", "get", "(Ljava/lang/Object;)Ljava/lang/Object;"⟩ : MethodName)) (z := (⟨"com/example/hollow_tree/hollowtree/query/IdentityTable", "get", "(Ljava/lang/Object;)Ljava/lang/Object;"⟩ : MethodName)) hown (mvT hZ (hw _ (List.mem_of_getElem? (i := 45) rfl))) (mvT hZ (hw _ (List.mem_of_getElem? (i := 46) rfl))) (notFace_of_selects (args := #[]) (mvT hZ (hw _ (List.mem_of_getElem? (i := 48) rfl)))) (mvT hZ (hw _ (List.mem_of_getElem? (i := 48) rfl))) (mvT hZ (hw _ (List.mem_of_getElem? (i := 47) rfl))) (by decide) (backOf (W := 0) (rm6_0 l Z a0 hw [] b377 kq414 no kN  T394.heap n0 Zs394 Fq394_1 Fq394_2 Fa396) hZ (hw _ (List.mem_of_getElem? (i := 49) rfl)) (hw _ (List.mem_of_getElem? (i := 36) rfl)) (by decide) (by decide)) q415a q415c (g := (mkF m 294 #[.val (.int p1), .val (.int p2), .val (.int p3), .val (.int p4), .val (.int (0 : Int32)), .val (.int z15), .val (.int z27), .val (.ref b1), .val (.ref b146), .val (.ref b168), .val (.ref b192), .val (.ref b218), .val (.ref b246), .val (.ref b276), .val (.ref b377), .val g412, .unset] [(.ref kq414), (.ref b377)])) rfl (by rw [hml]; rfl) (Steps.refl _) (argsL := [(.ref kq414)]) (rest := []) (lenOf own_pd0_1 rfl) rfl (by show 2 * 0 + _ ≤ _; exact Nat.le_of_eq rfl) (hb hby at_294) (fun _ _ => ⟨rfl, e413, (by decide : 12 + 0 ≤ _), (by decide : 30 + 0 ≤ _)⟩))
    obtain ⟨g415, rfl, hg415, N415q, e415⟩ := hQ415
    obtain ⟨lc415, X415, N415⟩ := own_loc X415 (Fr.app N412 N415q)
    have Rg415 : own_R Z T394.heap g415 := by
      rw [hg415]
      exact own_lk_R _ _ (fun q hq => by cases hq)
    refine own_st (T' := T415) (g' := (mkF m 297 #[.val (.int p1), .val (.int p2), .val (.int p3), .val (.int p4), .val (.int (0 : Int32)), .val (.int z15), .val (.int z27), .val (.ref b1), .val (.ref b146), .val (.ref b168), .val (.ref b192), .val (.ref b218), .val (.ref b246), .val (.ref b276), .val (.ref b377), .val g412, .unset] [g415])) (fun _ k => (st415) _ k) ?_
    obtain ⟨T416, X416, e416, st416⟩ := own_castV X415 hx hZ hown (hw _ (List.mem_of_getElem? (i := 1) rfl)) e415 Rg415 (g := (mkF m 297 #[.val (.int p1), .val (.int p2), .val (.int p3), .val (.int p4), .val (.int (0 : Int32)), .val (.int z15), .val (.int z27), .val (.ref b1), .val (.ref b146), .val (.ref b168), .val (.ref b192), .val (.ref b218), .val (.ref b246), .val (.ref b276), .val (.ref b377), .val g412, .unset] [g415])) rfl rfl (hb hby at_297)
    refine own_st (T' := T416) (g' := (mkF m 300 #[.val (.int p1), .val (.int p2), .val (.int p3), .val (.int p4), .val (.int (0 : Int32)), .val (.int z15), .val (.int z27), .val (.ref b1), .val (.ref b146), .val (.ref b168), .val (.ref b192), .val (.ref b218), .val (.ref b246), .val (.ref b276), .val (.ref b377), .val g412, .unset] [g415])) (fun _ k => (st416) _ k) ?_
    refine own_st (T' := T416) (g' := (mkF m 302 #[.val (.int p1), .val (.int p2), .val (.int p3), .val (.int p4), .val (.int (0 : Int32)), .val (.int z15), .val (.int z27), .val (.ref b1), .val (.ref b146), .val (.ref b168), .val (.ref b192), .val (.ref b218), .val (.ref b246), .val (.ref b276), .val (.ref b377), .val g412, .val g415] [])) (fun _ k => Jvm.Free.XS.astore (g := (mkF m 300 #[.val (.int p1), .val (.int p2), .val (.int p3), .val (.int p4), .val (.int (0 : Int32)), .val (.int z15), .val (.int z27), .val (.ref b1), .val (.ref b146), .val (.ref b168), .val (.ref b192), .val (.ref b218), .val (.ref b246), .val (.ref b276), .val (.ref b377), .val g412, .unset] [g415])) X416.here hx rfl (hb hby at_300) rfl ((Rg415.rf)).isRef (l' := #[.val (.int p1), .val (.int p2), .val (.int p3), .val (.int p4), .val (.int (0 : Int32)), .val (.int z15), .val (.int z27), .val (.ref b1), .val (.ref b146), .val (.ref b168), .val (.ref b192), .val (.ref b218), .val (.ref b246), .val (.ref b276), .val (.ref b377), .val g412, .val g415]) (by rcases (Rg415.rf) with rfl | ⟨_, rfl⟩ <;> rfl) k) ?_
    refine own_st (T' := T416) (g' := (mkF m 304 #[.val (.int p1), .val (.int p2), .val (.int p3), .val (.int p4), .val (.int (0 : Int32)), .val (.int z15), .val (.int z27), .val (.ref b1), .val (.ref b146), .val (.ref b168), .val (.ref b192), .val (.ref b218), .val (.ref b246), .val (.ref b276), .val (.ref b377), .val g412, .val g415] [g412])) (fun _ k => Jvm.Free.XS.aload (g := (mkF m 302 #[.val (.int p1), .val (.int p2), .val (.int p3), .val (.int p4), .val (.int (0 : Int32)), .val (.int z15), .val (.int z27), .val (.ref b1), .val (.ref b146), .val (.ref b168), .val (.ref b192), .val (.ref b218), .val (.ref b246), .val (.ref b276), .val (.ref b377), .val g412, .val g415] [])) X416.here hx rfl (hb hby at_302) rfl ((Rg412.rf)).isRef k) ?_
    refine own_st (T' := T416) (g' := (mkF m 306 #[.val (.int p1), .val (.int p2), .val (.int p3), .val (.int p4), .val (.int (0 : Int32)), .val (.int z15), .val (.int z27), .val (.ref b1), .val (.ref b146), .val (.ref b168), .val (.ref b192), .val (.ref b218), .val (.ref b246), .val (.ref b276), .val (.ref b377), .val g412, .val g415] [(.int z15), g412])) (fun _ k => Jvm.Free.XS.iload (g := (mkF m 304 #[.val (.int p1), .val (.int p2), .val (.int p3), .val (.int p4), .val (.int (0 : Int32)), .val (.int z15), .val (.int z27), .val (.ref b1), .val (.ref b146), .val (.ref b168), .val (.ref b192), .val (.ref b218), .val (.ref b246), .val (.ref b276), .val (.ref b377), .val g412, .val g415] [g412])) X416.here hx rfl (hb hby at_304) rfl k) ?_
    refine own_st (T' := T416) (g' := (mkF m 308 #[.val (.int p1), .val (.int p2), .val (.int p3), .val (.int p4), .val (.int (0 : Int32)), .val (.int z15), .val (.int z27), .val (.ref b1), .val (.ref b146), .val (.ref b168), .val (.ref b192), .val (.ref b218), .val (.ref b246), .val (.ref b276), .val (.ref b377), .val g412, .val g415] [(.int (0 : Int32)), (.int z15), g412])) (fun _ k => Jvm.Free.XS.iload (g := (mkF m 306 #[.val (.int p1), .val (.int p2), .val (.int p3), .val (.int p4), .val (.int (0 : Int32)), .val (.int z15), .val (.int z27), .val (.ref b1), .val (.ref b146), .val (.ref b168), .val (.ref b192), .val (.ref b218), .val (.ref b246), .val (.ref b276), .val (.ref b377), .val g412, .val g415] [(.int z15), g412])) X416.here hx rfl (hb hby at_306) rfl k) ?_
    refine own_st (T' := T416) (g' := (mkF m 310 #[.val (.int p1), .val (.int p2), .val (.int p3), .val (.int p4), .val (.int (0 : Int32)), .val (.int z15), .val (.int z27), .val (.ref b1), .val (.ref b146), .val (.ref b168), .val (.ref b192), .val (.ref b218), .val (.ref b246), .val (.ref b276), .val (.ref b377), .val g412, .val g415] [(.ref b1), (.int (0 : Int32)), (.int z15), g412])) (fun _ k => Jvm.Free.XS.aload (g := (mkF m 308 #[.val (.int p1), .val (.int p2), .val (.int p3), .val (.int p4), .val (.int (0 : Int32)), .val (.int z15), .val (.int z27), .val (.ref b1), .val (.ref b146), .val (.ref b168), .val (.ref b192), .val (.ref b218), .val (.ref b246), .val (.ref b276), .val (.ref b377), .val g412, .val g415] [(.int (0 : Int32)), (.int z15), g412])) X416.here hx rfl (hb hby at_308) rfl rfl k) ?_
    obtain ⟨v417, T417, L417, X417, hQ417, st417⟩ := own_packS (Jvm.LawKit.callS X416 hx (y := (⟨"com/example/hollow_tree/hollowtree/query/IdentityTableGetPinLaw", "expect", "(II[[I)[I"⟩ : MethodName)) hown (mvT hZ (hw _ (List.mem_of_getElem? (i := 52) rfl))) (mvT hZ (hw _ (List.mem_of_getElem? (i := 53) rfl))) (mvT hZ (hw _ (List.mem_of_getElem? (i := 54) rfl))) (mvT hZ (hw _ (List.mem_of_getElem? (i := 55) rfl))) (by decide) (backOf (W := 1) (rm7 l Z a0 hw [] z15 (0 : Int32) b1 k1 r0 r1 r2 r3 T394.heap n0 Zs394 Fa403 (fun v hv => by
        simp only [List.mem_cons, List.not_mem_nil, or_false] at hv
        rcases hv with rfl | rfl | rfl | rfl
        · exact Fa399.rf
        · exact Fa400.rf
        · exact Fa401.rf
        · exact Fa402.rf) (own_qn _ _ hq1 (by decide))) hZ (hw _ (List.mem_of_getElem? (i := 55) rfl)) (hw _ (List.mem_of_getElem? (i := 54) rfl)) (by decide) (by decide)) (g := (mkF m 310 #[.val (.int p1), .val (.int p2), .val (.int p3), .val (.int p4), .val (.int (0 : Int32)), .val (.int z15), .val (.int z27), .val (.ref b1), .val (.ref b146), .val (.ref b168), .val (.ref b192), .val (.ref b218), .val (.ref b246), .val (.ref b276), .val (.ref b377), .val g412, .val g415] [(.ref b1), (.int (0 : Int32)), (.int z15), g412])) rfl (by rw [hml]; rfl) (argsL := [(.int z15), (.int (0 : Int32)), (.ref b1)]) (rest := [g412]) (lenOf own_pd0_2 rfl) rfl (by show 2 * 0 + _ ≤ _; simp [((Rg412.rf)).cat]) (hb hby at_310) (fun _ _ => ⟨rfl, e416, (by decide : 12 + 0 ≤ _), (by decide : 30 + 0 ≤ _)⟩))
    obtain ⟨x417, rfl, hx417, hrx417, N417q, e417⟩ := hQ417
    obtain ⟨lc417, X417, N417⟩ := own_loc X417 (Fr.app N415 N417q)
    refine own_st (T' := T417) (g' := (mkF m 313 #[.val (.int p1), .val (.int p2), .val (.int p3), .val (.int p4), .val (.int (0 : Int32)), .val (.int z15), .val (.int z27), .val (.ref b1), .val (.ref b146), .val (.ref b168), .val (.ref b192), .val (.ref b218), .val (.ref b246), .val (.ref b276), .val (.ref b377), .val g412, .val g415] [x417, g412])) (fun _ k => (st417) _ k) ?_
    have ac313 := fun t => Jvm.RoadKit.acmp (target := t) (e := e) (g := (mkF m 313 #[.val (.int p1), .val (.int p2), .val (.int p3), .val (.int p4), .val (.int (0 : Int32)), .val (.int z15), .val (.int z27), .val (.ref b1), .val (.ref b146), .val (.ref b168), .val (.ref b192), .val (.ref b218), .val (.ref b246), .val (.ref b276), .val (.ref b377), .val g412, .val g415] [x417, g412])) X417 hx rfl ((Rg412.rf)).isRef (hrx417).isRef (pc0 := 313) (pc' := 316) (same := true) rfl (hb hby at_313) rfl (decide_eq_true (hg412.trans ((show own_lk ([] : List (Addr × Value)) kq411 = own_ex z15 (0 : Int32) [r0, r1, r2, r3] from by rw [hkq411]; exact own_same0 z15 hq1 b146 b168 b192 b218 b246 r0 r1 r2 r3 ne_b146_b168 ne_b146_b192 ne_b146_b218 ne_b146_b246 ne_b168_b192 ne_b168_b218 ne_b168_b246 ne_b192_b218 ne_b192_b246 ne_b218_b246).trans hx417.symm))) (by decide) (by decide)
    refine own_st (T' := T417) (g' := (mkF m 316 #[.val (.int p1), .val (.int p2), .val (.int p3), .val (.int p4), .val (.int (0 : Int32)), .val (.int z15), .val (.int z27), .val (.ref b1), .val (.ref b146), .val (.ref b168), .val (.ref b192), .val (.ref b218), .val (.ref b246), .val (.ref b276), .val (.ref b377), .val g412, .val g415] [])) (fun _ k => (ac313) _ k) ?_
    refine own_st (T' := T417) (g' := (mkF m 318 #[.val (.int p1), .val (.int p2), .val (.int p3), .val (.int p4), .val (.int (0 : Int32)), .val (.int z15), .val (.int z27), .val (.ref b1), .val (.ref b146), .val (.ref b168), .val (.ref b192), .val (.ref b218), .val (.ref b246), .val (.ref b276), .val (.ref b377), .val g412, .val g415] [g415])) (fun _ k => Jvm.Free.XS.aload (g := (mkF m 316 #[.val (.int p1), .val (.int p2), .val (.int p3), .val (.int p4), .val (.int (0 : Int32)), .val (.int z15), .val (.int z27), .val (.ref b1), .val (.ref b146), .val (.ref b168), .val (.ref b192), .val (.ref b218), .val (.ref b246), .val (.ref b276), .val (.ref b377), .val g412, .val g415] [])) X417.here hx rfl (hb hby at_316) rfl ((Rg415.rf)).isRef k) ?_
    refine own_st (T' := T417) (g' := (mkF m 320 #[.val (.int p1), .val (.int p2), .val (.int p3), .val (.int p4), .val (.int (0 : Int32)), .val (.int z15), .val (.int z27), .val (.ref b1), .val (.ref b146), .val (.ref b168), .val (.ref b192), .val (.ref b218), .val (.ref b246), .val (.ref b276), .val (.ref b377), .val g412, .val g415] [(.int z27), g415])) (fun _ k => Jvm.Free.XS.iload (g := (mkF m 318 #[.val (.int p1), .val (.int p2), .val (.int p3), .val (.int p4), .val (.int (0 : Int32)), .val (.int z15), .val (.int z27), .val (.ref b1), .val (.ref b146), .val (.ref b168), .val (.ref b192), .val (.ref b218), .val (.ref b246), .val (.ref b276), .val (.ref b377), .val g412, .val g415] [g415])) X417.here hx rfl (hb hby at_318) rfl k) ?_
    refine own_st (T' := T417) (g' := (mkF m 322 #[.val (.int p1), .val (.int p2), .val (.int p3), .val (.int p4), .val (.int (0 : Int32)), .val (.int z15), .val (.int z27), .val (.ref b1), .val (.ref b146), .val (.ref b168), .val (.ref b192), .val (.ref b218), .val (.ref b246), .val (.ref b276), .val (.ref b377), .val g412, .val g415] [(.int (0 : Int32)), (.int z27), g415])) (fun _ k => Jvm.Free.XS.iload (g := (mkF m 320 #[.val (.int p1), .val (.int p2), .val (.int p3), .val (.int p4), .val (.int (0 : Int32)), .val (.int z15), .val (.int z27), .val (.ref b1), .val (.ref b146), .val (.ref b168), .val (.ref b192), .val (.ref b218), .val (.ref b246), .val (.ref b276), .val (.ref b377), .val g412, .val g415] [(.int z27), g415])) X417.here hx rfl (hb hby at_320) rfl k) ?_
    refine own_st (T' := T417) (g' := (mkF m 324 #[.val (.int p1), .val (.int p2), .val (.int p3), .val (.int p4), .val (.int (0 : Int32)), .val (.int z15), .val (.int z27), .val (.ref b1), .val (.ref b146), .val (.ref b168), .val (.ref b192), .val (.ref b218), .val (.ref b246), .val (.ref b276), .val (.ref b377), .val g412, .val g415] [(.ref b1), (.int (0 : Int32)), (.int z27), g415])) (fun _ k => Jvm.Free.XS.aload (g := (mkF m 322 #[.val (.int p1), .val (.int p2), .val (.int p3), .val (.int p4), .val (.int (0 : Int32)), .val (.int z15), .val (.int z27), .val (.ref b1), .val (.ref b146), .val (.ref b168), .val (.ref b192), .val (.ref b218), .val (.ref b246), .val (.ref b276), .val (.ref b377), .val g412, .val g415] [(.int (0 : Int32)), (.int z27), g415])) X417.here hx rfl (hb hby at_322) rfl rfl k) ?_
    obtain ⟨v418, T418, L418, X418, hQ418, st418⟩ := own_packS (Jvm.LawKit.callS X417 hx (y := (⟨"com/example/hollow_tree/hollowtree/query/IdentityTableGetPinLaw", "expect", "(II[[I)[I"⟩ : MethodName)) hown (mvT hZ (hw _ (List.mem_of_getElem? (i := 52) rfl))) (mvT hZ (hw _ (List.mem_of_getElem? (i := 53) rfl))) (mvT hZ (hw _ (List.mem_of_getElem? (i := 54) rfl))) (mvT hZ (hw _ (List.mem_of_getElem? (i := 55) rfl))) (by decide) (backOf (W := 1) (rm7 l Z a0 hw [] z27 (0 : Int32) b1 k1 r0 r1 r2 r3 T394.heap n0 Zs394 Fa403 (fun v hv => by
        simp only [List.mem_cons, List.not_mem_nil, or_false] at hv
        rcases hv with rfl | rfl | rfl | rfl
        · exact Fa399.rf
        · exact Fa400.rf
        · exact Fa401.rf
        · exact Fa402.rf) (own_qn _ _ hq2 (by decide))) hZ (hw _ (List.mem_of_getElem? (i := 55) rfl)) (hw _ (List.mem_of_getElem? (i := 54) rfl)) (by decide) (by decide)) (g := (mkF m 324 #[.val (.int p1), .val (.int p2), .val (.int p3), .val (.int p4), .val (.int (0 : Int32)), .val (.int z15), .val (.int z27), .val (.ref b1), .val (.ref b146), .val (.ref b168), .val (.ref b192), .val (.ref b218), .val (.ref b246), .val (.ref b276), .val (.ref b377), .val g412, .val g415] [(.ref b1), (.int (0 : Int32)), (.int z27), g415])) rfl (by rw [hml]; rfl) (argsL := [(.int z27), (.int (0 : Int32)), (.ref b1)]) (rest := [g415]) (lenOf own_pd0_2 rfl) rfl (by show 2 * 0 + _ ≤ _; simp [((Rg415.rf)).cat]) (hb hby at_324) (fun _ _ => ⟨rfl, e417, (by decide : 12 + 0 ≤ _), (by decide : 30 + 0 ≤ _)⟩))
    obtain ⟨x418, rfl, hx418, hrx418, N418q, e418⟩ := hQ418
    obtain ⟨lc418, X418, N418⟩ := own_loc X418 (Fr.app N417 N418q)
    refine own_st (T' := T418) (g' := (mkF m 327 #[.val (.int p1), .val (.int p2), .val (.int p3), .val (.int p4), .val (.int (0 : Int32)), .val (.int z15), .val (.int z27), .val (.ref b1), .val (.ref b146), .val (.ref b168), .val (.ref b192), .val (.ref b218), .val (.ref b246), .val (.ref b276), .val (.ref b377), .val g412, .val g415] [x418, g415])) (fun _ k => (st418) _ k) ?_
    have ac327 := fun t => Jvm.RoadKit.acmp (target := t) (e := e) (g := (mkF m 327 #[.val (.int p1), .val (.int p2), .val (.int p3), .val (.int p4), .val (.int (0 : Int32)), .val (.int z15), .val (.int z27), .val (.ref b1), .val (.ref b146), .val (.ref b168), .val (.ref b192), .val (.ref b218), .val (.ref b246), .val (.ref b276), .val (.ref b377), .val g412, .val g415] [x418, g415])) X418 hx rfl ((Rg415.rf)).isRef (hrx418).isRef (pc0 := 327) (pc' := 330) (same := true) rfl (hb hby at_327) rfl (decide_eq_true (hg415.trans ((show own_lk ([] : List (Addr × Value)) kq414 = own_ex z27 (0 : Int32) [r0, r1, r2, r3] from by rw [hkq414]; exact own_same0 z27 hq2 b146 b168 b192 b218 b246 r0 r1 r2 r3 ne_b146_b168 ne_b146_b192 ne_b146_b218 ne_b146_b246 ne_b168_b192 ne_b168_b218 ne_b168_b246 ne_b192_b218 ne_b192_b246 ne_b218_b246).trans hx418.symm))) (by decide) (by decide)
    refine own_st (T' := T418) (g' := (mkF m 330 #[.val (.int p1), .val (.int p2), .val (.int p3), .val (.int p4), .val (.int (0 : Int32)), .val (.int z15), .val (.int z27), .val (.ref b1), .val (.ref b146), .val (.ref b168), .val (.ref b192), .val (.ref b218), .val (.ref b246), .val (.ref b276), .val (.ref b377), .val g412, .val g415] [])) (fun _ k => (ac327) _ k) ?_
    refine own_st (T' := T418) (g' := (mkF m 331 #[.val (.int p1), .val (.int p2), .val (.int p3), .val (.int p4), .val (.int (0 : Int32)), .val (.int z15), .val (.int z27), .val (.ref b1), .val (.ref b146), .val (.ref b168), .val (.ref b192), .val (.ref b218), .val (.ref b246), .val (.ref b276), .val (.ref b377), .val g412, .val g415] [(.int (1 : Int32))])) (fun _ k => XS.iconst (g := (mkF m 330 #[.val (.int p1), .val (.int p2), .val (.int p3), .val (.int p4), .val (.int (0 : Int32)), .val (.int z15), .val (.int z27), .val (.ref b1), .val (.ref b146), .val (.ref b168), .val (.ref b192), .val (.ref b218), .val (.ref b246), .val (.ref b276), .val (.ref b377), .val g412, .val g415] [])) X418.here hx rfl (hb hby at_330) k) ?_
    refine own_st (T' := T418) (g' := (mkF m 335 #[.val (.int p1), .val (.int p2), .val (.int p3), .val (.int p4), .val (.int (0 : Int32)), .val (.int z15), .val (.int z27), .val (.ref b1), .val (.ref b146), .val (.ref b168), .val (.ref b192), .val (.ref b218), .val (.ref b246), .val (.ref b276), .val (.ref b377), .val g412, .val g415] [(.int (1 : Int32))])) (fun _ k => XS.goto (g := (mkF m 331 #[.val (.int p1), .val (.int p2), .val (.int p3), .val (.int p4), .val (.int (0 : Int32)), .val (.int z15), .val (.int z27), .val (.ref b1), .val (.ref b146), .val (.ref b168), .val (.ref b192), .val (.ref b218), .val (.ref b246), .val (.ref b276), .val (.ref b377), .val g412, .val g415] [(.int (1 : Int32))])) X418.here hx rfl (pc0 := 331) (pc' := 335) rfl (hb hby at_331) (by decide) (by decide) k) ?_
    exact own_end (Q := Q0 Z p1 p2 p3 p4 h0 n0) (v := some (.int (nar .boolean (1 : Int32)))) X418 (fun h => by rw [Bd.returns] at h; cases h) (fun fs hr => retN X418 hx (t := .boolean) Bd.returns (by simp) (hb hby at_335) hr) (⟨rfl, N418⟩) (by decide) (by decide)
  · refine own_st (T' := T394) (g' := (mkF m 207 #[.val (.int p1), .val (.int p2), .val (.int p3), .val (.int p4), .val (.int (1 : Int32)), .val (.int z15), .val (.int z27), .val (.ref b1), .val (.ref b146), .val (.ref b168), .val (.ref b192), .val (.ref b218), .val (.ref b246), .val (.ref b276), .val (.ref b377), .unset, .unset] [(.int (1 : Int32))])) (fun _ k => Jvm.Free.XS.iload (g := (mkF m 205 #[.val (.int p1), .val (.int p2), .val (.int p3), .val (.int p4), .val (.int (1 : Int32)), .val (.int z15), .val (.int z27), .val (.ref b1), .val (.ref b146), .val (.ref b168), .val (.ref b192), .val (.ref b218), .val (.ref b246), .val (.ref b276), .val (.ref b377), .unset, .unset] [])) X394.here hx rfl (hb hby at_205) rfl k) ?_
    refine own_st (T' := T394) (g' := (mkF m 210 #[.val (.int p1), .val (.int p2), .val (.int p3), .val (.int p4), .val (.int (1 : Int32)), .val (.int z15), .val (.int z27), .val (.ref b1), .val (.ref b146), .val (.ref b168), .val (.ref b192), .val (.ref b218), .val (.ref b246), .val (.ref b276), .val (.ref b377), .unset, .unset] [])) (fun _ k => XS.ifNo (g := (mkF m 207 #[.val (.int p1), .val (.int p2), .val (.int p3), .val (.int p4), .val (.int (1 : Int32)), .val (.int z15), .val (.int z27), .val (.ref b1), .val (.ref b146), .val (.ref b168), .val (.ref b192), .val (.ref b218), .val (.ref b246), .val (.ref b276), .val (.ref b377), .unset, .unset] [(.int (1 : Int32))])) X394.here hx rfl (hb hby at_207) rfl ((if0 _ _).trans (tlt (by decide : (0 : Int32) < (1 : Int32))).2.2.2) k) ?_
    refine own_st (T' := T394) (g' := (mkF m 212 #[.val (.int p1), .val (.int p2), .val (.int p3), .val (.int p4), .val (.int (1 : Int32)), .val (.int z15), .val (.int z27), .val (.ref b1), .val (.ref b146), .val (.ref b168), .val (.ref b192), .val (.ref b218), .val (.ref b246), .val (.ref b276), .val (.ref b377), .unset, .unset] [(.ref b377)])) (fun _ k => Jvm.Free.XS.aload (g := (mkF m 210 #[.val (.int p1), .val (.int p2), .val (.int p3), .val (.int p4), .val (.int (1 : Int32)), .val (.int z15), .val (.int z27), .val (.ref b1), .val (.ref b146), .val (.ref b168), .val (.ref b192), .val (.ref b218), .val (.ref b246), .val (.ref b276), .val (.ref b377), .unset, .unset] [])) X394.here hx rfl (hb hby at_210) rfl rfl k) ?_
    refine own_st (T' := T394) (g' := (mkF m 214 #[.val (.int p1), .val (.int p2), .val (.int p3), .val (.int p4), .val (.int (1 : Int32)), .val (.int z15), .val (.int z27), .val (.ref b1), .val (.ref b146), .val (.ref b168), .val (.ref b192), .val (.ref b218), .val (.ref b246), .val (.ref b276), .val (.ref b377), .unset, .unset] [(.ref b146), (.ref b377)])) (fun _ k => Jvm.Free.XS.aload (g := (mkF m 212 #[.val (.int p1), .val (.int p2), .val (.int p3), .val (.int p4), .val (.int (1 : Int32)), .val (.int z15), .val (.int z27), .val (.ref b1), .val (.ref b146), .val (.ref b168), .val (.ref b192), .val (.ref b218), .val (.ref b246), .val (.ref b276), .val (.ref b377), .unset, .unset] [(.ref b377)])) X394.here hx rfl (hb hby at_212) rfl rfl k) ?_
    refine own_st (T' := T394) (g' := (mkF m 216 #[.val (.int p1), .val (.int p2), .val (.int p3), .val (.int p4), .val (.int (1 : Int32)), .val (.int z15), .val (.int z27), .val (.ref b1), .val (.ref b146), .val (.ref b168), .val (.ref b192), .val (.ref b218), .val (.ref b246), .val (.ref b276), .val (.ref b377), .unset, .unset] [(.ref b1), (.ref b146), (.ref b377)])) (fun _ k => Jvm.Free.XS.aload (g := (mkF m 214 #[.val (.int p1), .val (.int p2), .val (.int p3), .val (.int p4), .val (.int (1 : Int32)), .val (.int z15), .val (.int z27), .val (.ref b1), .val (.ref b146), .val (.ref b168), .val (.ref b192), .val (.ref b218), .val (.ref b246), .val (.ref b276), .val (.ref b377), .unset, .unset] [(.ref b146), (.ref b377)])) X394.here hx rfl (hb hby at_214) rfl rfl k) ?_
    refine own_st (T' := T394) (g' := (mkF m 217 #[.val (.int p1), .val (.int p2), .val (.int p3), .val (.int p4), .val (.int (1 : Int32)), .val (.int z15), .val (.int z27), .val (.ref b1), .val (.ref b146), .val (.ref b168), .val (.ref b192), .val (.ref b218), .val (.ref b246), .val (.ref b276), .val (.ref b377), .unset, .unset] [(.int (0 : Int32)), (.ref b1), (.ref b146), (.ref b377)])) (fun _ k => XS.iconst (g := (mkF m 216 #[.val (.int p1), .val (.int p2), .val (.int p3), .val (.int p4), .val (.int (1 : Int32)), .val (.int z15), .val (.int z27), .val (.ref b1), .val (.ref b146), .val (.ref b168), .val (.ref b192), .val (.ref b218), .val (.ref b246), .val (.ref b276), .val (.ref b377), .unset, .unset] [(.ref b1), (.ref b146), (.ref b377)])) X394.here hx rfl (hb hby at_216) k) ?_
    obtain ⟨cl419, Ar419, -, Sz419, Nn419, Hs419, Gs419⟩ := id Fa403
    have hin419 : ¬ ((0 : Int32) < 0 ∨ cl419.slots.size ≤ ((0 : Int32)).toNatClampNeg) := inb_of Sz419 ⟨by decide, by decide⟩
    have hat419 : cl419.slots[((0 : Int32)).toNatClampNeg]? = some r0 := Has.at Hs419 hin419 rfl
    refine own_st (T' := T394) (g' := (mkF m 218 #[.val (.int p1), .val (.int p2), .val (.int p3), .val (.int p4), .val (.int (1 : Int32)), .val (.int z15), .val (.int z27), .val (.ref b1), .val (.ref b146), .val (.ref b168), .val (.ref b192), .val (.ref b218), .val (.ref b246), .val (.ref b276), .val (.ref b377), .unset, .unset] [r0, (.ref b146), (.ref b377)])) (fun _ k => (X394.aaload hx (j := (0 : Int32)) (v := r0) Ar419.1 (State.isArrayOf_alike hZ.alike Ar419.2.1) rfl Ar419.2.2 hin419 hat419 (g := (mkF m 217 #[.val (.int p1), .val (.int p2), .val (.int p3), .val (.int p4), .val (.int (1 : Int32)), .val (.int z15), .val (.int z27), .val (.ref b1), .val (.ref b146), .val (.ref b168), .val (.ref b192), .val (.ref b218), .val (.ref b246), .val (.ref b276), .val (.ref b377), .unset, .unset] [(.int (0 : Int32)), (.ref b1), (.ref b146), (.ref b377)])) rfl rfl (hb hby at_217)) _ k) ?_
    obtain ⟨cq420, kq420, q420a, q420b, q420c⟩ := isOf hZ rfl Fq394_0
    obtain ⟨v420, T420, L420, X420, hQ420, st420⟩ := own_packV (X394.virtualBack hx (y := (⟨"com/example/hollow_tree/hollowtree/query/IdentityTable", "put", "(Ljava/lang/Object;Ljava/lang/Object;)V"⟩ : MethodName)) (z := (⟨"com/example/hollow_tree/hollowtree/query/IdentityTable", "put", "(Ljava/lang/Object;Ljava/lang/Object;)V"⟩ : MethodName)) hown (mvT hZ (hw _ (List.mem_of_getElem? (i := 56) rfl))) (mvT hZ (hw _ (List.mem_of_getElem? (i := 57) rfl))) (notFace_of_selects (args := #[]) (mvT hZ (hw _ (List.mem_of_getElem? (i := 59) rfl)))) (mvT hZ (hw _ (List.mem_of_getElem? (i := 59) rfl))) (mvT hZ (hw _ (List.mem_of_getElem? (i := 58) rfl))) (by decide) (backOf (W := 0) (rm8_0 l Z a0 hw [] b377 b146 r0 (Fa399.rf) no kN mr  T394.heap n0 Zs394 Fq394_0 Fq394_1 Fq394_2 Fa396 Fa397 (Or.inr ⟨b146, rfl, Ins.of_exa Fa404 (hw _ (List.mem_of_getElem? (i := 33) rfl))⟩) (Fa399.o (hw _ (List.mem_of_getElem? (i := 87) rfl))) gn_b377 Mm (Ne.symm ne_no_b377)) hZ (hw _ (List.mem_of_getElem? (i := 60) rfl)) (hw _ (List.mem_of_getElem? (i := 36) rfl)) (by decide) (by decide)) q420a q420c (g := (mkF m 218 #[.val (.int p1), .val (.int p2), .val (.int p3), .val (.int p4), .val (.int (1 : Int32)), .val (.int z15), .val (.int z27), .val (.ref b1), .val (.ref b146), .val (.ref b168), .val (.ref b192), .val (.ref b218), .val (.ref b246), .val (.ref b276), .val (.ref b377), .unset, .unset] [r0, (.ref b146), (.ref b377)])) rfl (by rw [hml]; rfl) (Steps.refl _) (argsL := [(.ref b146), r0]) (rest := []) (lenOf own_pd0_3 rfl) rfl (by show 2 * 0 + _ ≤ _; exact Nat.le_of_eq rfl) (hb hby at_218) (fun _ _ => ⟨rfl, rfl, (by decide : 12 + 1 ≤ _), (by decide : 30 + 8 ≤ _)⟩))
    obtain ⟨rfl, N420q, Kq420, Eq420, t420, kt420, hsz420, Fe420, Fs420, Vq420, Xq420, Oq420⟩ := hQ420
    obtain ⟨lc420, X420, N420⟩ := own_loc X420 (Fr.app N394 N420q)
    have ne_no_t420 : no ≠ t420 := Nat.ne_of_lt (Nat.lt_of_lt_of_le Fa396.lt hsz420)
    have ne_b1_t420 : b1 ≠ t420 := Nat.ne_of_lt (Nat.lt_of_lt_of_le Fa398.lt hsz420)
    have ne_b146_t420 : b146 ≠ t420 := Nat.ne_of_lt (Nat.lt_of_lt_of_le Fa404.lt hsz420)
    have ne_b168_t420 : b168 ≠ t420 := Nat.ne_of_lt (Nat.lt_of_lt_of_le Fa405.lt hsz420)
    have ne_b192_t420 : b192 ≠ t420 := Nat.ne_of_lt (Nat.lt_of_lt_of_le Fa406.lt hsz420)
    have ne_b218_t420 : b218 ≠ t420 := Nat.ne_of_lt (Nat.lt_of_lt_of_le Fa407.lt hsz420)
    have ne_b246_t420 : b246 ≠ t420 := Nat.ne_of_lt (Nat.lt_of_lt_of_le Fa408.lt hsz420)
    have ne_b276_t420 : b276 ≠ t420 := Nat.ne_of_lt (Nat.lt_of_lt_of_le Fa409.lt hsz420)
    have ne_b377_t420 : b377 ≠ t420 := Nat.ne_of_lt (Nat.lt_of_lt_of_le Fq394_0.lt hsz420)
    have gn_t420 : n0 ≤ t420 := Nat.le_trans Zs394 hsz420
    have Zs420 : n0 ≤ T420.heap.size := Nat.le_trans Zs394 Kq420.1
    have Fa421 : Exa Z T420.heap b1 "[[I" := Fa398.keep Kq420
    have Fa422 : own_R Z T420.heap r0 := Fa399.keep Kq420
    have Fa423 : own_R Z T420.heap r1 := Fa400.keep Kq420
    have Fa424 : own_R Z T420.heap r2 := Fa401.keep Kq420
    have Fa425 : own_R Z T420.heap r3 := Fa402.keep Kq420
    have Fa426 : Arv Z T420.heap b1 k1 (.array .int) (4 : Int32) [r0, r1, r2, r3] .null := Fa403.keep Kq420 (ninS ne_b1_b377 nin0)
    have Fa427 : Exa Z T420.heap b146 "java/util/ArrayList" := Fa404.keep Kq420
    have Fa428 : Exa Z T420.heap b168 "java/util/ArrayList" := Fa405.keep Kq420
    have Fa429 : Exa Z T420.heap b192 "java/util/ArrayList" := Fa406.keep Kq420
    have Fa430 : Exa Z T420.heap b218 "java/util/ArrayList" := Fa407.keep Kq420
    have Fa431 : Exa Z T420.heap b246 "java/util/ArrayList" := Fa408.keep Kq420
    have Fa432 : Exa Z T420.heap b276 "[Ljava/lang/Object;" := Fa409.keep Kq420
    have Fa433 : Arv Z T420.heap b276 k276 (.object "java/lang/Object") (5 : Int32) [(.ref b146), (.ref b168), (.ref b192), (.ref b218), (.ref b246)] .null := Fa410.keep Kq420 (ninS ne_b276_b377 nin0)
    refine own_st (T' := T420) (g' := (mkF m 221 #[.val (.int p1), .val (.int p2), .val (.int p3), .val (.int p4), .val (.int (1 : Int32)), .val (.int z15), .val (.int z27), .val (.ref b1), .val (.ref b146), .val (.ref b168), .val (.ref b192), .val (.ref b218), .val (.ref b246), .val (.ref b276), .val (.ref b377), .unset, .unset] [])) (fun _ k => (st420) _ k) ?_
    refine own_st (T' := T420) (g' := (mkF m 223 #[.val (.int p1), .val (.int p2), .val (.int p3), .val (.int p4), .val (.int (1 : Int32)), .val (.int z15), .val (.int z27), .val (.ref b1), .val (.ref b146), .val (.ref b168), .val (.ref b192), .val (.ref b218), .val (.ref b246), .val (.ref b276), .val (.ref b377), .unset, .unset] [(.int (1 : Int32))])) (fun _ k => Jvm.Free.XS.iload (g := (mkF m 221 #[.val (.int p1), .val (.int p2), .val (.int p3), .val (.int p4), .val (.int (1 : Int32)), .val (.int z15), .val (.int z27), .val (.ref b1), .val (.ref b146), .val (.ref b168), .val (.ref b192), .val (.ref b218), .val (.ref b246), .val (.ref b276), .val (.ref b377), .unset, .unset] [])) X420.here hx rfl (hb hby at_221) rfl k) ?_
    refine own_st (T' := T420) (g' := (mkF m 224 #[.val (.int p1), .val (.int p2), .val (.int p3), .val (.int p4), .val (.int (1 : Int32)), .val (.int z15), .val (.int z27), .val (.ref b1), .val (.ref b146), .val (.ref b168), .val (.ref b192), .val (.ref b218), .val (.ref b246), .val (.ref b276), .val (.ref b377), .unset, .unset] [(.int (1 : Int32)), (.int (1 : Int32))])) (fun _ k => XS.iconst (g := (mkF m 223 #[.val (.int p1), .val (.int p2), .val (.int p3), .val (.int p4), .val (.int (1 : Int32)), .val (.int z15), .val (.int z27), .val (.ref b1), .val (.ref b146), .val (.ref b168), .val (.ref b192), .val (.ref b218), .val (.ref b246), .val (.ref b276), .val (.ref b377), .unset, .unset] [(.int (1 : Int32))])) X420.here hx rfl (hb hby at_223) k) ?_
    refine own_st (T' := T420) (g' := (mkF m 238 #[.val (.int p1), .val (.int p2), .val (.int p3), .val (.int p4), .val (.int (1 : Int32)), .val (.int z15), .val (.int z27), .val (.ref b1), .val (.ref b146), .val (.ref b168), .val (.ref b192), .val (.ref b218), .val (.ref b246), .val (.ref b276), .val (.ref b377), .unset, .unset] [])) (fun _ k => XS.icmpYes (g := (mkF m 224 #[.val (.int p1), .val (.int p2), .val (.int p3), .val (.int p4), .val (.int (1 : Int32)), .val (.int z15), .val (.int z27), .val (.ref b1), .val (.ref b146), .val (.ref b168), .val (.ref b192), .val (.ref b218), .val (.ref b246), .val (.ref b276), .val (.ref b377), .unset, .unset] [(.int (1 : Int32)), (.int (1 : Int32))])) X420.here hx rfl (pc0 := 224) (pc' := 238) rfl (hb hby at_224) rfl (flt (by decide : ¬ ((1 : Int32) < (1 : Int32)))).2.2.2 (by decide) (by decide) k) ?_
    refine own_st (T' := T420) (g' := (mkF m 240 #[.val (.int p1), .val (.int p2), .val (.int p3), .val (.int p4), .val (.int (1 : Int32)), .val (.int z15), .val (.int z27), .val (.ref b1), .val (.ref b146), .val (.ref b168), .val (.ref b192), .val (.ref b218), .val (.ref b246), .val (.ref b276), .val (.ref b377), .unset, .unset] [(.int (1 : Int32))])) (fun _ k => Jvm.Free.XS.iload (g := (mkF m 238 #[.val (.int p1), .val (.int p2), .val (.int p3), .val (.int p4), .val (.int (1 : Int32)), .val (.int z15), .val (.int z27), .val (.ref b1), .val (.ref b146), .val (.ref b168), .val (.ref b192), .val (.ref b218), .val (.ref b246), .val (.ref b276), .val (.ref b377), .unset, .unset] [])) X420.here hx rfl (hb hby at_238) rfl k) ?_
    refine own_st (T' := T420) (g' := (mkF m 241 #[.val (.int p1), .val (.int p2), .val (.int p3), .val (.int p4), .val (.int (1 : Int32)), .val (.int z15), .val (.int z27), .val (.ref b1), .val (.ref b146), .val (.ref b168), .val (.ref b192), .val (.ref b218), .val (.ref b246), .val (.ref b276), .val (.ref b377), .unset, .unset] [(.int (2 : Int32)), (.int (1 : Int32))])) (fun _ k => XS.iconst (g := (mkF m 240 #[.val (.int p1), .val (.int p2), .val (.int p3), .val (.int p4), .val (.int (1 : Int32)), .val (.int z15), .val (.int z27), .val (.ref b1), .val (.ref b146), .val (.ref b168), .val (.ref b192), .val (.ref b218), .val (.ref b246), .val (.ref b276), .val (.ref b377), .unset, .unset] [(.int (1 : Int32))])) X420.here hx rfl (hb hby at_240) k) ?_
    refine own_st (T' := T420) (g' := (mkF m 255 #[.val (.int p1), .val (.int p2), .val (.int p3), .val (.int p4), .val (.int (1 : Int32)), .val (.int z15), .val (.int z27), .val (.ref b1), .val (.ref b146), .val (.ref b168), .val (.ref b192), .val (.ref b218), .val (.ref b246), .val (.ref b276), .val (.ref b377), .unset, .unset] [])) (fun _ k => XS.icmpYes (g := (mkF m 241 #[.val (.int p1), .val (.int p2), .val (.int p3), .val (.int p4), .val (.int (1 : Int32)), .val (.int z15), .val (.int z27), .val (.ref b1), .val (.ref b146), .val (.ref b168), .val (.ref b192), .val (.ref b218), .val (.ref b246), .val (.ref b276), .val (.ref b377), .unset, .unset] [(.int (2 : Int32)), (.int (1 : Int32))])) X420.here hx rfl (pc0 := 241) (pc' := 255) rfl (hb hby at_241) rfl (flt (by decide : ¬ ((2 : Int32) < (1 : Int32)))).2.2.2 (by decide) (by decide) k) ?_
    refine own_st (T' := T420) (g' := (mkF m 257 #[.val (.int p1), .val (.int p2), .val (.int p3), .val (.int p4), .val (.int (1 : Int32)), .val (.int z15), .val (.int z27), .val (.ref b1), .val (.ref b146), .val (.ref b168), .val (.ref b192), .val (.ref b218), .val (.ref b246), .val (.ref b276), .val (.ref b377), .unset, .unset] [(.int (1 : Int32))])) (fun _ k => Jvm.Free.XS.iload (g := (mkF m 255 #[.val (.int p1), .val (.int p2), .val (.int p3), .val (.int p4), .val (.int (1 : Int32)), .val (.int z15), .val (.int z27), .val (.ref b1), .val (.ref b146), .val (.ref b168), .val (.ref b192), .val (.ref b218), .val (.ref b246), .val (.ref b276), .val (.ref b377), .unset, .unset] [])) X420.here hx rfl (hb hby at_255) rfl k) ?_
    refine own_st (T' := T420) (g' := (mkF m 258 #[.val (.int p1), .val (.int p2), .val (.int p3), .val (.int p4), .val (.int (1 : Int32)), .val (.int z15), .val (.int z27), .val (.ref b1), .val (.ref b146), .val (.ref b168), .val (.ref b192), .val (.ref b218), .val (.ref b246), .val (.ref b276), .val (.ref b377), .unset, .unset] [(.int (3 : Int32)), (.int (1 : Int32))])) (fun _ k => XS.iconst (g := (mkF m 257 #[.val (.int p1), .val (.int p2), .val (.int p3), .val (.int p4), .val (.int (1 : Int32)), .val (.int z15), .val (.int z27), .val (.ref b1), .val (.ref b146), .val (.ref b168), .val (.ref b192), .val (.ref b218), .val (.ref b246), .val (.ref b276), .val (.ref b377), .unset, .unset] [(.int (1 : Int32))])) X420.here hx rfl (hb hby at_257) k) ?_
    refine own_st (T' := T420) (g' := (mkF m 272 #[.val (.int p1), .val (.int p2), .val (.int p3), .val (.int p4), .val (.int (1 : Int32)), .val (.int z15), .val (.int z27), .val (.ref b1), .val (.ref b146), .val (.ref b168), .val (.ref b192), .val (.ref b218), .val (.ref b246), .val (.ref b276), .val (.ref b377), .unset, .unset] [])) (fun _ k => XS.icmpYes (g := (mkF m 258 #[.val (.int p1), .val (.int p2), .val (.int p3), .val (.int p4), .val (.int (1 : Int32)), .val (.int z15), .val (.int z27), .val (.ref b1), .val (.ref b146), .val (.ref b168), .val (.ref b192), .val (.ref b218), .val (.ref b246), .val (.ref b276), .val (.ref b377), .unset, .unset] [(.int (3 : Int32)), (.int (1 : Int32))])) X420.here hx rfl (pc0 := 258) (pc' := 272) rfl (hb hby at_258) rfl (flt (by decide : ¬ ((3 : Int32) < (1 : Int32)))).2.2.2 (by decide) (by decide) k) ?_
    refine own_st (T' := T420) (g' := (mkF m 274 #[.val (.int p1), .val (.int p2), .val (.int p3), .val (.int p4), .val (.int (1 : Int32)), .val (.int z15), .val (.int z27), .val (.ref b1), .val (.ref b146), .val (.ref b168), .val (.ref b192), .val (.ref b218), .val (.ref b246), .val (.ref b276), .val (.ref b377), .unset, .unset] [(.ref b377)])) (fun _ k => Jvm.Free.XS.aload (g := (mkF m 272 #[.val (.int p1), .val (.int p2), .val (.int p3), .val (.int p4), .val (.int (1 : Int32)), .val (.int z15), .val (.int z27), .val (.ref b1), .val (.ref b146), .val (.ref b168), .val (.ref b192), .val (.ref b218), .val (.ref b246), .val (.ref b276), .val (.ref b377), .unset, .unset] [])) X420.here hx rfl (hb hby at_272) rfl rfl k) ?_
    refine own_st (T' := T420) (g' := (mkF m 276 #[.val (.int p1), .val (.int p2), .val (.int p3), .val (.int p4), .val (.int (1 : Int32)), .val (.int z15), .val (.int z27), .val (.ref b1), .val (.ref b146), .val (.ref b168), .val (.ref b192), .val (.ref b218), .val (.ref b246), .val (.ref b276), .val (.ref b377), .unset, .unset] [(.ref b276), (.ref b377)])) (fun _ k => Jvm.Free.XS.aload (g := (mkF m 274 #[.val (.int p1), .val (.int p2), .val (.int p3), .val (.int p4), .val (.int (1 : Int32)), .val (.int z15), .val (.int z27), .val (.ref b1), .val (.ref b146), .val (.ref b168), .val (.ref b192), .val (.ref b218), .val (.ref b246), .val (.ref b276), .val (.ref b377), .unset, .unset] [(.ref b377)])) X420.here hx rfl (hb hby at_274) rfl rfl k) ?_
    refine own_st (T' := T420) (g' := (mkF m 278 #[.val (.int p1), .val (.int p2), .val (.int p3), .val (.int p4), .val (.int (1 : Int32)), .val (.int z15), .val (.int z27), .val (.ref b1), .val (.ref b146), .val (.ref b168), .val (.ref b192), .val (.ref b218), .val (.ref b246), .val (.ref b276), .val (.ref b377), .unset, .unset] [(.int z15), (.ref b276), (.ref b377)])) (fun _ k => Jvm.Free.XS.iload (g := (mkF m 276 #[.val (.int p1), .val (.int p2), .val (.int p3), .val (.int p4), .val (.int (1 : Int32)), .val (.int z15), .val (.int z27), .val (.ref b1), .val (.ref b146), .val (.ref b168), .val (.ref b192), .val (.ref b218), .val (.ref b246), .val (.ref b276), .val (.ref b377), .unset, .unset] [(.ref b276), (.ref b377)])) X420.here hx rfl (hb hby at_276) rfl k) ?_
    obtain ⟨cl434, Ar434, -, Sz434, Nn434, Hs434, Gs434⟩ := id Fa433
    obtain ⟨kq434, hkq434⟩ : ∃ z, z = ([b146, b168, b192, b218, b246] : List Addr).getD z15.toNatClampNeg 0 := ⟨_, rfl⟩
    have hin434 : ¬ (z15 < 0 ∨ cl434.slots.size ≤ (z15).toNatClampNeg) := inb_of Sz434 (own_q5 _ hq1).1
    have hat434 : cl434.slots[(z15).toNatClampNeg]? = some (.ref kq434) := Has.at Hs434 hin434 ((own_getR [b146, b168, b192, b218, b246] _ (own_q5 _ hq1).2).trans (congrArg Value.ref hkq434.symm))
    refine own_st (T' := T420) (g' := (mkF m 279 #[.val (.int p1), .val (.int p2), .val (.int p3), .val (.int p4), .val (.int (1 : Int32)), .val (.int z15), .val (.int z27), .val (.ref b1), .val (.ref b146), .val (.ref b168), .val (.ref b192), .val (.ref b218), .val (.ref b246), .val (.ref b276), .val (.ref b377), .unset, .unset] [(.ref kq434), (.ref b377)])) (fun _ k => (X420.aaload hx (j := z15) (v := (.ref kq434)) Ar434.1 (State.isArrayOf_alike hZ.alike Ar434.2.1) rfl Ar434.2.2 hin434 hat434 (g := (mkF m 278 #[.val (.int p1), .val (.int p2), .val (.int p3), .val (.int p4), .val (.int (1 : Int32)), .val (.int z15), .val (.int z27), .val (.ref b1), .val (.ref b146), .val (.ref b168), .val (.ref b192), .val (.ref b218), .val (.ref b246), .val (.ref b276), .val (.ref b377), .unset, .unset] [(.int z15), (.ref b276), (.ref b377)])) rfl rfl (hb hby at_278)) _ k) ?_
    obtain ⟨cq435, kq435, q435a, q435b, q435c⟩ := isOf hZ rfl Eq420
    obtain ⟨v435, T435, L435, X435, hQ435, st435⟩ := own_packV (X420.virtualBack hx (y := (⟨"com/example/hollow_tree/hollowtree/query/IdentityTable", "get", "(Ljava/lang/Object;)Ljava/lang/Object;"⟩ : MethodName)) (z := (⟨"com/example/hollow_tree/hollowtree/query/IdentityTable", "get", "(Ljava/lang/Object;)Ljava/lang/Object;"⟩ : MethodName)) hown (mvT hZ (hw _ (List.mem_of_getElem? (i := 45) rfl))) (mvT hZ (hw _ (List.mem_of_getElem? (i := 46) rfl))) (notFace_of_selects (args := #[]) (mvT hZ (hw _ (List.mem_of_getElem? (i := 48) rfl)))) (mvT hZ (hw _ (List.mem_of_getElem? (i := 48) rfl))) (mvT hZ (hw _ (List.mem_of_getElem? (i := 47) rfl))) (by decide) (backOf (W := 0) (rm6_1 l Z a0 hw [] b377 kq434 t420 kt420 b146 r0 T420.heap n0 Zs420 Fe420 Fs420 Vq420 Fa422) hZ (hw _ (List.mem_of_getElem? (i := 49) rfl)) (hw _ (List.mem_of_getElem? (i := 36) rfl)) (by decide) (by decide)) q435a q435c (g := (mkF m 279 #[.val (.int p1), .val (.int p2), .val (.int p3), .val (.int p4), .val (.int (1 : Int32)), .val (.int z15), .val (.int z27), .val (.ref b1), .val (.ref b146), .val (.ref b168), .val (.ref b192), .val (.ref b218), .val (.ref b246), .val (.ref b276), .val (.ref b377), .unset, .unset] [(.ref kq434), (.ref b377)])) rfl (by rw [hml]; rfl) (Steps.refl _) (argsL := [(.ref kq434)]) (rest := []) (lenOf own_pd0_1 rfl) rfl (by show 2 * 0 + _ ≤ _; exact Nat.le_of_eq rfl) (hb hby at_279) (fun _ _ => ⟨rfl, rfl, (by decide : 13 + 0 ≤ _), (by decide : 38 + 0 ≤ _)⟩))
    obtain ⟨g435, rfl, hg435, N435q, e435⟩ := hQ435
    obtain ⟨lc435, X435, N435⟩ := own_loc X435 (Fr.app N420 N435q)
    have Rg435 : own_R Z T420.heap g435 := by
      rw [hg435]
      exact own_lk_R _ _ (fun q hq => by
        simp only [List.mem_cons, List.not_mem_nil, or_false] at hq
        rcases hq with rfl
        · exact Fa422)
    refine own_st (T' := T435) (g' := (mkF m 282 #[.val (.int p1), .val (.int p2), .val (.int p3), .val (.int p4), .val (.int (1 : Int32)), .val (.int z15), .val (.int z27), .val (.ref b1), .val (.ref b146), .val (.ref b168), .val (.ref b192), .val (.ref b218), .val (.ref b246), .val (.ref b276), .val (.ref b377), .unset, .unset] [g435])) (fun _ k => (st435) _ k) ?_
    obtain ⟨T436, X436, e436, st436⟩ := own_castV X435 hx hZ hown (hw _ (List.mem_of_getElem? (i := 1) rfl)) e435 Rg435 (g := (mkF m 282 #[.val (.int p1), .val (.int p2), .val (.int p3), .val (.int p4), .val (.int (1 : Int32)), .val (.int z15), .val (.int z27), .val (.ref b1), .val (.ref b146), .val (.ref b168), .val (.ref b192), .val (.ref b218), .val (.ref b246), .val (.ref b276), .val (.ref b377), .unset, .unset] [g435])) rfl rfl (hb hby at_282)
    refine own_st (T' := T436) (g' := (mkF m 285 #[.val (.int p1), .val (.int p2), .val (.int p3), .val (.int p4), .val (.int (1 : Int32)), .val (.int z15), .val (.int z27), .val (.ref b1), .val (.ref b146), .val (.ref b168), .val (.ref b192), .val (.ref b218), .val (.ref b246), .val (.ref b276), .val (.ref b377), .unset, .unset] [g435])) (fun _ k => (st436) _ k) ?_
    refine own_st (T' := T436) (g' := (mkF m 287 #[.val (.int p1), .val (.int p2), .val (.int p3), .val (.int p4), .val (.int (1 : Int32)), .val (.int z15), .val (.int z27), .val (.ref b1), .val (.ref b146), .val (.ref b168), .val (.ref b192), .val (.ref b218), .val (.ref b246), .val (.ref b276), .val (.ref b377), .val g435, .unset] [])) (fun _ k => Jvm.Free.XS.astore (g := (mkF m 285 #[.val (.int p1), .val (.int p2), .val (.int p3), .val (.int p4), .val (.int (1 : Int32)), .val (.int z15), .val (.int z27), .val (.ref b1), .val (.ref b146), .val (.ref b168), .val (.ref b192), .val (.ref b218), .val (.ref b246), .val (.ref b276), .val (.ref b377), .unset, .unset] [g435])) X436.here hx rfl (hb hby at_285) rfl ((Rg435.rf)).isRef (l' := #[.val (.int p1), .val (.int p2), .val (.int p3), .val (.int p4), .val (.int (1 : Int32)), .val (.int z15), .val (.int z27), .val (.ref b1), .val (.ref b146), .val (.ref b168), .val (.ref b192), .val (.ref b218), .val (.ref b246), .val (.ref b276), .val (.ref b377), .val g435, .unset]) (by rcases (Rg435.rf) with rfl | ⟨_, rfl⟩ <;> rfl) k) ?_
    refine own_st (T' := T436) (g' := (mkF m 289 #[.val (.int p1), .val (.int p2), .val (.int p3), .val (.int p4), .val (.int (1 : Int32)), .val (.int z15), .val (.int z27), .val (.ref b1), .val (.ref b146), .val (.ref b168), .val (.ref b192), .val (.ref b218), .val (.ref b246), .val (.ref b276), .val (.ref b377), .val g435, .unset] [(.ref b377)])) (fun _ k => Jvm.Free.XS.aload (g := (mkF m 287 #[.val (.int p1), .val (.int p2), .val (.int p3), .val (.int p4), .val (.int (1 : Int32)), .val (.int z15), .val (.int z27), .val (.ref b1), .val (.ref b146), .val (.ref b168), .val (.ref b192), .val (.ref b218), .val (.ref b246), .val (.ref b276), .val (.ref b377), .val g435, .unset] [])) X436.here hx rfl (hb hby at_287) rfl rfl k) ?_
    refine own_st (T' := T436) (g' := (mkF m 291 #[.val (.int p1), .val (.int p2), .val (.int p3), .val (.int p4), .val (.int (1 : Int32)), .val (.int z15), .val (.int z27), .val (.ref b1), .val (.ref b146), .val (.ref b168), .val (.ref b192), .val (.ref b218), .val (.ref b246), .val (.ref b276), .val (.ref b377), .val g435, .unset] [(.ref b276), (.ref b377)])) (fun _ k => Jvm.Free.XS.aload (g := (mkF m 289 #[.val (.int p1), .val (.int p2), .val (.int p3), .val (.int p4), .val (.int (1 : Int32)), .val (.int z15), .val (.int z27), .val (.ref b1), .val (.ref b146), .val (.ref b168), .val (.ref b192), .val (.ref b218), .val (.ref b246), .val (.ref b276), .val (.ref b377), .val g435, .unset] [(.ref b377)])) X436.here hx rfl (hb hby at_289) rfl rfl k) ?_
    refine own_st (T' := T436) (g' := (mkF m 293 #[.val (.int p1), .val (.int p2), .val (.int p3), .val (.int p4), .val (.int (1 : Int32)), .val (.int z15), .val (.int z27), .val (.ref b1), .val (.ref b146), .val (.ref b168), .val (.ref b192), .val (.ref b218), .val (.ref b246), .val (.ref b276), .val (.ref b377), .val g435, .unset] [(.int z27), (.ref b276), (.ref b377)])) (fun _ k => Jvm.Free.XS.iload (g := (mkF m 291 #[.val (.int p1), .val (.int p2), .val (.int p3), .val (.int p4), .val (.int (1 : Int32)), .val (.int z15), .val (.int z27), .val (.ref b1), .val (.ref b146), .val (.ref b168), .val (.ref b192), .val (.ref b218), .val (.ref b246), .val (.ref b276), .val (.ref b377), .val g435, .unset] [(.ref b276), (.ref b377)])) X436.here hx rfl (hb hby at_291) rfl k) ?_
    obtain ⟨cl437, Ar437, -, Sz437, Nn437, Hs437, Gs437⟩ := id Fa433
    obtain ⟨kq437, hkq437⟩ : ∃ z, z = ([b146, b168, b192, b218, b246] : List Addr).getD z27.toNatClampNeg 0 := ⟨_, rfl⟩
    have hin437 : ¬ (z27 < 0 ∨ cl437.slots.size ≤ (z27).toNatClampNeg) := inb_of Sz437 (own_q5 _ hq2).1
    have hat437 : cl437.slots[(z27).toNatClampNeg]? = some (.ref kq437) := Has.at Hs437 hin437 ((own_getR [b146, b168, b192, b218, b246] _ (own_q5 _ hq2).2).trans (congrArg Value.ref hkq437.symm))
    refine own_st (T' := T436) (g' := (mkF m 294 #[.val (.int p1), .val (.int p2), .val (.int p3), .val (.int p4), .val (.int (1 : Int32)), .val (.int z15), .val (.int z27), .val (.ref b1), .val (.ref b146), .val (.ref b168), .val (.ref b192), .val (.ref b218), .val (.ref b246), .val (.ref b276), .val (.ref b377), .val g435, .unset] [(.ref kq437), (.ref b377)])) (fun _ k => (X436.aaload hx (j := z27) (v := (.ref kq437)) (by rw [e436]; exact Ar437.1) (State.isArrayOf_alike hZ.alike Ar437.2.1) rfl Ar437.2.2 hin437 hat437 (g := (mkF m 293 #[.val (.int p1), .val (.int p2), .val (.int p3), .val (.int p4), .val (.int (1 : Int32)), .val (.int z15), .val (.int z27), .val (.ref b1), .val (.ref b146), .val (.ref b168), .val (.ref b192), .val (.ref b218), .val (.ref b246), .val (.ref b276), .val (.ref b377), .val g435, .unset] [(.int z27), (.ref b276), (.ref b377)])) rfl rfl (hb hby at_293)) _ k) ?_
    obtain ⟨cq438, kq438, q438a, q438b, q438c⟩ := isOf hZ e436 Eq420
    obtain ⟨v438, T438, L438, X438, hQ438, st438⟩ := own_packV (X436.virtualBack hx (y := (⟨"com/example/hollow_tree/hollowtree/query/IdentityTable", "get", "(Ljava/lang/Object;)Ljava/lang/Object;"⟩ : MethodName)) (z := (⟨"com/example/hollow_tree/hollowtree/query/IdentityTable", "get", "(Ljava/lang/Object;)Ljava/lang/Object;"⟩ : MethodName)) hown (mvT hZ (hw _ (List.mem_of_getElem? (i := 45) rfl))) (mvT hZ (hw _ (List.mem_of_getElem? (i := 46) rfl))) (notFace_of_selects (args := #[]) (mvT hZ (hw _ (List.mem_of_getElem? (i := 48) rfl)))) (mvT hZ (hw _ (List.mem_of_getElem? (i := 48) rfl))) (mvT hZ (hw _ (List.mem_of_getElem? (i := 47) rfl))) (by decide) (backOf (W := 0) (rm6_1 l Z a0 hw [] b377 kq437 t420 kt420 b146 r0 T420.heap n0 Zs420 Fe420 Fs420 Vq420 Fa422) hZ (hw _ (List.mem_of_getElem? (i := 49) rfl)) (hw _ (List.mem_of_getElem? (i := 36) rfl)) (by decide) (by decide)) q438a q438c (g := (mkF m 294 #[.val (.int p1), .val (.int p2), .val (.int p3), .val (.int p4), .val (.int (1 : Int32)), .val (.int z15), .val (.int z27), .val (.ref b1), .val (.ref b146), .val (.ref b168), .val (.ref b192), .val (.ref b218), .val (.ref b246), .val (.ref b276), .val (.ref b377), .val g435, .unset] [(.ref kq437), (.ref b377)])) rfl (by rw [hml]; rfl) (Steps.refl _) (argsL := [(.ref kq437)]) (rest := []) (lenOf own_pd0_1 rfl) rfl (by show 2 * 0 + _ ≤ _; exact Nat.le_of_eq rfl) (hb hby at_294) (fun _ _ => ⟨rfl, e436, (by decide : 13 + 0 ≤ _), (by decide : 38 + 0 ≤ _)⟩))
    obtain ⟨g438, rfl, hg438, N438q, e438⟩ := hQ438
    obtain ⟨lc438, X438, N438⟩ := own_loc X438 (Fr.app N435 N438q)
    have Rg438 : own_R Z T420.heap g438 := by
      rw [hg438]
      exact own_lk_R _ _ (fun q hq => by
        simp only [List.mem_cons, List.not_mem_nil, or_false] at hq
        rcases hq with rfl
        · exact Fa422)
    refine own_st (T' := T438) (g' := (mkF m 297 #[.val (.int p1), .val (.int p2), .val (.int p3), .val (.int p4), .val (.int (1 : Int32)), .val (.int z15), .val (.int z27), .val (.ref b1), .val (.ref b146), .val (.ref b168), .val (.ref b192), .val (.ref b218), .val (.ref b246), .val (.ref b276), .val (.ref b377), .val g435, .unset] [g438])) (fun _ k => (st438) _ k) ?_
    obtain ⟨T439, X439, e439, st439⟩ := own_castV X438 hx hZ hown (hw _ (List.mem_of_getElem? (i := 1) rfl)) e438 Rg438 (g := (mkF m 297 #[.val (.int p1), .val (.int p2), .val (.int p3), .val (.int p4), .val (.int (1 : Int32)), .val (.int z15), .val (.int z27), .val (.ref b1), .val (.ref b146), .val (.ref b168), .val (.ref b192), .val (.ref b218), .val (.ref b246), .val (.ref b276), .val (.ref b377), .val g435, .unset] [g438])) rfl rfl (hb hby at_297)
    refine own_st (T' := T439) (g' := (mkF m 300 #[.val (.int p1), .val (.int p2), .val (.int p3), .val (.int p4), .val (.int (1 : Int32)), .val (.int z15), .val (.int z27), .val (.ref b1), .val (.ref b146), .val (.ref b168), .val (.ref b192), .val (.ref b218), .val (.ref b246), .val (.ref b276), .val (.ref b377), .val g435, .unset] [g438])) (fun _ k => (st439) _ k) ?_
    refine own_st (T' := T439) (g' := (mkF m 302 #[.val (.int p1), .val (.int p2), .val (.int p3), .val (.int p4), .val (.int (1 : Int32)), .val (.int z15), .val (.int z27), .val (.ref b1), .val (.ref b146), .val (.ref b168), .val (.ref b192), .val (.ref b218), .val (.ref b246), .val (.ref b276), .val (.ref b377), .val g435, .val g438] [])) (fun _ k => Jvm.Free.XS.astore (g := (mkF m 300 #[.val (.int p1), .val (.int p2), .val (.int p3), .val (.int p4), .val (.int (1 : Int32)), .val (.int z15), .val (.int z27), .val (.ref b1), .val (.ref b146), .val (.ref b168), .val (.ref b192), .val (.ref b218), .val (.ref b246), .val (.ref b276), .val (.ref b377), .val g435, .unset] [g438])) X439.here hx rfl (hb hby at_300) rfl ((Rg438.rf)).isRef (l' := #[.val (.int p1), .val (.int p2), .val (.int p3), .val (.int p4), .val (.int (1 : Int32)), .val (.int z15), .val (.int z27), .val (.ref b1), .val (.ref b146), .val (.ref b168), .val (.ref b192), .val (.ref b218), .val (.ref b246), .val (.ref b276), .val (.ref b377), .val g435, .val g438]) (by rcases (Rg438.rf) with rfl | ⟨_, rfl⟩ <;> rfl) k) ?_
    refine own_st (T' := T439) (g' := (mkF m 304 #[.val (.int p1), .val (.int p2), .val (.int p3), .val (.int p4), .val (.int (1 : Int32)), .val (.int z15), .val (.int z27), .val (.ref b1), .val (.ref b146), .val (.ref b168), .val (.ref b192), .val (.ref b218), .val (.ref b246), .val (.ref b276), .val (.ref b377), .val g435, .val g438] [g435])) (fun _ k => Jvm.Free.XS.aload (g := (mkF m 302 #[.val (.int p1), .val (.int p2), .val (.int p3), .val (.int p4), .val (.int (1 : Int32)), .val (.int z15), .val (.int z27), .val (.ref b1), .val (.ref b146), .val (.ref b168), .val (.ref b192), .val (.ref b218), .val (.ref b246), .val (.ref b276), .val (.ref b377), .val g435, .val g438] [])) X439.here hx rfl (hb hby at_302) rfl ((Rg435.rf)).isRef k) ?_
    refine own_st (T' := T439) (g' := (mkF m 306 #[.val (.int p1), .val (.int p2), .val (.int p3), .val (.int p4), .val (.int (1 : Int32)), .val (.int z15), .val (.int z27), .val (.ref b1), .val (.ref b146), .val (.ref b168), .val (.ref b192), .val (.ref b218), .val (.ref b246), .val (.ref b276), .val (.ref b377), .val g435, .val g438] [(.int z15), g435])) (fun _ k => Jvm.Free.XS.iload (g := (mkF m 304 #[.val (.int p1), .val (.int p2), .val (.int p3), .val (.int p4), .val (.int (1 : Int32)), .val (.int z15), .val (.int z27), .val (.ref b1), .val (.ref b146), .val (.ref b168), .val (.ref b192), .val (.ref b218), .val (.ref b246), .val (.ref b276), .val (.ref b377), .val g435, .val g438] [g435])) X439.here hx rfl (hb hby at_304) rfl k) ?_
    refine own_st (T' := T439) (g' := (mkF m 308 #[.val (.int p1), .val (.int p2), .val (.int p3), .val (.int p4), .val (.int (1 : Int32)), .val (.int z15), .val (.int z27), .val (.ref b1), .val (.ref b146), .val (.ref b168), .val (.ref b192), .val (.ref b218), .val (.ref b246), .val (.ref b276), .val (.ref b377), .val g435, .val g438] [(.int (1 : Int32)), (.int z15), g435])) (fun _ k => Jvm.Free.XS.iload (g := (mkF m 306 #[.val (.int p1), .val (.int p2), .val (.int p3), .val (.int p4), .val (.int (1 : Int32)), .val (.int z15), .val (.int z27), .val (.ref b1), .val (.ref b146), .val (.ref b168), .val (.ref b192), .val (.ref b218), .val (.ref b246), .val (.ref b276), .val (.ref b377), .val g435, .val g438] [(.int z15), g435])) X439.here hx rfl (hb hby at_306) rfl k) ?_
    refine own_st (T' := T439) (g' := (mkF m 310 #[.val (.int p1), .val (.int p2), .val (.int p3), .val (.int p4), .val (.int (1 : Int32)), .val (.int z15), .val (.int z27), .val (.ref b1), .val (.ref b146), .val (.ref b168), .val (.ref b192), .val (.ref b218), .val (.ref b246), .val (.ref b276), .val (.ref b377), .val g435, .val g438] [(.ref b1), (.int (1 : Int32)), (.int z15), g435])) (fun _ k => Jvm.Free.XS.aload (g := (mkF m 308 #[.val (.int p1), .val (.int p2), .val (.int p3), .val (.int p4), .val (.int (1 : Int32)), .val (.int z15), .val (.int z27), .val (.ref b1), .val (.ref b146), .val (.ref b168), .val (.ref b192), .val (.ref b218), .val (.ref b246), .val (.ref b276), .val (.ref b377), .val g435, .val g438] [(.int (1 : Int32)), (.int z15), g435])) X439.here hx rfl (hb hby at_308) rfl rfl k) ?_
    obtain ⟨v440, T440, L440, X440, hQ440, st440⟩ := own_packS (Jvm.LawKit.callS X439 hx (y := (⟨"com/example/hollow_tree/hollowtree/query/IdentityTableGetPinLaw", "expect", "(II[[I)[I"⟩ : MethodName)) hown (mvT hZ (hw _ (List.mem_of_getElem? (i := 52) rfl))) (mvT hZ (hw _ (List.mem_of_getElem? (i := 53) rfl))) (mvT hZ (hw _ (List.mem_of_getElem? (i := 54) rfl))) (mvT hZ (hw _ (List.mem_of_getElem? (i := 55) rfl))) (by decide) (backOf (W := 1) (rm7 l Z a0 hw [] z15 (1 : Int32) b1 k1 r0 r1 r2 r3 T420.heap n0 Zs420 Fa426 (fun v hv => by
        simp only [List.mem_cons, List.not_mem_nil, or_false] at hv
        rcases hv with rfl | rfl | rfl | rfl
        · exact Fa422.rf
        · exact Fa423.rf
        · exact Fa424.rf
        · exact Fa425.rf) (own_qn _ _ hq1 (by decide))) hZ (hw _ (List.mem_of_getElem? (i := 55) rfl)) (hw _ (List.mem_of_getElem? (i := 54) rfl)) (by decide) (by decide)) (g := (mkF m 310 #[.val (.int p1), .val (.int p2), .val (.int p3), .val (.int p4), .val (.int (1 : Int32)), .val (.int z15), .val (.int z27), .val (.ref b1), .val (.ref b146), .val (.ref b168), .val (.ref b192), .val (.ref b218), .val (.ref b246), .val (.ref b276), .val (.ref b377), .val g435, .val g438] [(.ref b1), (.int (1 : Int32)), (.int z15), g435])) rfl (by rw [hml]; rfl) (argsL := [(.int z15), (.int (1 : Int32)), (.ref b1)]) (rest := [g435]) (lenOf own_pd0_2 rfl) rfl (by show 2 * 0 + _ ≤ _; simp [((Rg435.rf)).cat]) (hb hby at_310) (fun _ _ => ⟨rfl, e439, (by decide : 13 + 0 ≤ _), (by decide : 38 + 0 ≤ _)⟩))
    obtain ⟨x440, rfl, hx440, hrx440, N440q, e440⟩ := hQ440
    obtain ⟨lc440, X440, N440⟩ := own_loc X440 (Fr.app N438 N440q)
    refine own_st (T' := T440) (g' := (mkF m 313 #[.val (.int p1), .val (.int p2), .val (.int p3), .val (.int p4), .val (.int (1 : Int32)), .val (.int z15), .val (.int z27), .val (.ref b1), .val (.ref b146), .val (.ref b168), .val (.ref b192), .val (.ref b218), .val (.ref b246), .val (.ref b276), .val (.ref b377), .val g435, .val g438] [x440, g435])) (fun _ k => (st440) _ k) ?_
    have ac313 := fun t => Jvm.RoadKit.acmp (target := t) (e := e) (g := (mkF m 313 #[.val (.int p1), .val (.int p2), .val (.int p3), .val (.int p4), .val (.int (1 : Int32)), .val (.int z15), .val (.int z27), .val (.ref b1), .val (.ref b146), .val (.ref b168), .val (.ref b192), .val (.ref b218), .val (.ref b246), .val (.ref b276), .val (.ref b377), .val g435, .val g438] [x440, g435])) X440 hx rfl ((Rg435.rf)).isRef (hrx440).isRef (pc0 := 313) (pc' := 316) (same := true) rfl (hb hby at_313) rfl (decide_eq_true (hg435.trans ((show own_lk [(b146, r0)] kq434 = own_ex z15 (1 : Int32) [r0, r1, r2, r3] from by rw [hkq434]; exact own_same1 z15 hq1 b146 b168 b192 b218 b246 r0 r1 r2 r3 ne_b146_b168 ne_b146_b192 ne_b146_b218 ne_b146_b246 ne_b168_b192 ne_b168_b218 ne_b168_b246 ne_b192_b218 ne_b192_b246 ne_b218_b246).trans hx440.symm))) (by decide) (by decide)
    refine own_st (T' := T440) (g' := (mkF m 316 #[.val (.int p1), .val (.int p2), .val (.int p3), .val (.int p4), .val (.int (1 : Int32)), .val (.int z15), .val (.int z27), .val (.ref b1), .val (.ref b146), .val (.ref b168), .val (.ref b192), .val (.ref b218), .val (.ref b246), .val (.ref b276), .val (.ref b377), .val g435, .val g438] [])) (fun _ k => (ac313) _ k) ?_
    refine own_st (T' := T440) (g' := (mkF m 318 #[.val (.int p1), .val (.int p2), .val (.int p3), .val (.int p4), .val (.int (1 : Int32)), .val (.int z15), .val (.int z27), .val (.ref b1), .val (.ref b146), .val (.ref b168), .val (.ref b192), .val (.ref b218), .val (.ref b246), .val (.ref b276), .val (.ref b377), .val g435, .val g438] [g438])) (fun _ k => Jvm.Free.XS.aload (g := (mkF m 316 #[.val (.int p1), .val (.int p2), .val (.int p3), .val (.int p4), .val (.int (1 : Int32)), .val (.int z15), .val (.int z27), .val (.ref b1), .val (.ref b146), .val (.ref b168), .val (.ref b192), .val (.ref b218), .val (.ref b246), .val (.ref b276), .val (.ref b377), .val g435, .val g438] [])) X440.here hx rfl (hb hby at_316) rfl ((Rg438.rf)).isRef k) ?_
    refine own_st (T' := T440) (g' := (mkF m 320 #[.val (.int p1), .val (.int p2), .val (.int p3), .val (.int p4), .val (.int (1 : Int32)), .val (.int z15), .val (.int z27), .val (.ref b1), .val (.ref b146), .val (.ref b168), .val (.ref b192), .val (.ref b218), .val (.ref b246), .val (.ref b276), .val (.ref b377), .val g435, .val g438] [(.int z27), g438])) (fun _ k => Jvm.Free.XS.iload (g := (mkF m 318 #[.val (.int p1), .val (.int p2), .val (.int p3), .val (.int p4), .val (.int (1 : Int32)), .val (.int z15), .val (.int z27), .val (.ref b1), .val (.ref b146), .val (.ref b168), .val (.ref b192), .val (.ref b218), .val (.ref b246), .val (.ref b276), .val (.ref b377), .val g435, .val g438] [g438])) X440.here hx rfl (hb hby at_318) rfl k) ?_
    refine own_st (T' := T440) (g' := (mkF m 322 #[.val (.int p1), .val (.int p2), .val (.int p3), .val (.int p4), .val (.int (1 : Int32)), .val (.int z15), .val (.int z27), .val (.ref b1), .val (.ref b146), .val (.ref b168), .val (.ref b192), .val (.ref b218), .val (.ref b246), .val (.ref b276), .val (.ref b377), .val g435, .val g438] [(.int (1 : Int32)), (.int z27), g438])) (fun _ k => Jvm.Free.XS.iload (g := (mkF m 320 #[.val (.int p1), .val (.int p2), .val (.int p3), .val (.int p4), .val (.int (1 : Int32)), .val (.int z15), .val (.int z27), .val (.ref b1), .val (.ref b146), .val (.ref b168), .val (.ref b192), .val (.ref b218), .val (.ref b246), .val (.ref b276), .val (.ref b377), .val g435, .val g438] [(.int z27), g438])) X440.here hx rfl (hb hby at_320) rfl k) ?_
    refine own_st (T' := T440) (g' := (mkF m 324 #[.val (.int p1), .val (.int p2), .val (.int p3), .val (.int p4), .val (.int (1 : Int32)), .val (.int z15), .val (.int z27), .val (.ref b1), .val (.ref b146), .val (.ref b168), .val (.ref b192), .val (.ref b218), .val (.ref b246), .val (.ref b276), .val (.ref b377), .val g435, .val g438] [(.ref b1), (.int (1 : Int32)), (.int z27), g438])) (fun _ k => Jvm.Free.XS.aload (g := (mkF m 322 #[.val (.int p1), .val (.int p2), .val (.int p3), .val (.int p4), .val (.int (1 : Int32)), .val (.int z15), .val (.int z27), .val (.ref b1), .val (.ref b146), .val (.ref b168), .val (.ref b192), .val (.ref b218), .val (.ref b246), .val (.ref b276), .val (.ref b377), .val g435, .val g438] [(.int (1 : Int32)), (.int z27), g438])) X440.here hx rfl (hb hby at_322) rfl rfl k) ?_
    obtain ⟨v441, T441, L441, X441, hQ441, st441⟩ := own_packS (Jvm.LawKit.callS X440 hx (y := (⟨"com/example/hollow_tree/hollowtree/query/IdentityTableGetPinLaw", "expect", "(II[[I)[I"⟩ : MethodName)) hown (mvT hZ (hw _ (List.mem_of_getElem? (i := 52) rfl))) (mvT hZ (hw _ (List.mem_of_getElem? (i := 53) rfl))) (mvT hZ (hw _ (List.mem_of_getElem? (i := 54) rfl))) (mvT hZ (hw _ (List.mem_of_getElem? (i := 55) rfl))) (by decide) (backOf (W := 1) (rm7 l Z a0 hw [] z27 (1 : Int32) b1 k1 r0 r1 r2 r3 T420.heap n0 Zs420 Fa426 (fun v hv => by
        simp only [List.mem_cons, List.not_mem_nil, or_false] at hv
        rcases hv with rfl | rfl | rfl | rfl
        · exact Fa422.rf
        · exact Fa423.rf
        · exact Fa424.rf
        · exact Fa425.rf) (own_qn _ _ hq2 (by decide))) hZ (hw _ (List.mem_of_getElem? (i := 55) rfl)) (hw _ (List.mem_of_getElem? (i := 54) rfl)) (by decide) (by decide)) (g := (mkF m 324 #[.val (.int p1), .val (.int p2), .val (.int p3), .val (.int p4), .val (.int (1 : Int32)), .val (.int z15), .val (.int z27), .val (.ref b1), .val (.ref b146), .val (.ref b168), .val (.ref b192), .val (.ref b218), .val (.ref b246), .val (.ref b276), .val (.ref b377), .val g435, .val g438] [(.ref b1), (.int (1 : Int32)), (.int z27), g438])) rfl (by rw [hml]; rfl) (argsL := [(.int z27), (.int (1 : Int32)), (.ref b1)]) (rest := [g438]) (lenOf own_pd0_2 rfl) rfl (by show 2 * 0 + _ ≤ _; simp [((Rg438.rf)).cat]) (hb hby at_324) (fun _ _ => ⟨rfl, e440, (by decide : 13 + 0 ≤ _), (by decide : 38 + 0 ≤ _)⟩))
    obtain ⟨x441, rfl, hx441, hrx441, N441q, e441⟩ := hQ441
    obtain ⟨lc441, X441, N441⟩ := own_loc X441 (Fr.app N440 N441q)
    refine own_st (T' := T441) (g' := (mkF m 327 #[.val (.int p1), .val (.int p2), .val (.int p3), .val (.int p4), .val (.int (1 : Int32)), .val (.int z15), .val (.int z27), .val (.ref b1), .val (.ref b146), .val (.ref b168), .val (.ref b192), .val (.ref b218), .val (.ref b246), .val (.ref b276), .val (.ref b377), .val g435, .val g438] [x441, g438])) (fun _ k => (st441) _ k) ?_
    have ac327 := fun t => Jvm.RoadKit.acmp (target := t) (e := e) (g := (mkF m 327 #[.val (.int p1), .val (.int p2), .val (.int p3), .val (.int p4), .val (.int (1 : Int32)), .val (.int z15), .val (.int z27), .val (.ref b1), .val (.ref b146), .val (.ref b168), .val (.ref b192), .val (.ref b218), .val (.ref b246), .val (.ref b276), .val (.ref b377), .val g435, .val g438] [x441, g438])) X441 hx rfl ((Rg438.rf)).isRef (hrx441).isRef (pc0 := 327) (pc' := 330) (same := true) rfl (hb hby at_327) rfl (decide_eq_true (hg438.trans ((show own_lk [(b146, r0)] kq437 = own_ex z27 (1 : Int32) [r0, r1, r2, r3] from by rw [hkq437]; exact own_same1 z27 hq2 b146 b168 b192 b218 b246 r0 r1 r2 r3 ne_b146_b168 ne_b146_b192 ne_b146_b218 ne_b146_b246 ne_b168_b192 ne_b168_b218 ne_b168_b246 ne_b192_b218 ne_b192_b246 ne_b218_b246).trans hx441.symm))) (by decide) (by decide)
    refine own_st (T' := T441) (g' := (mkF m 330 #[.val (.int p1), .val (.int p2), .val (.int p3), .val (.int p4), .val (.int (1 : Int32)), .val (.int z15), .val (.int z27), .val (.ref b1), .val (.ref b146), .val (.ref b168), .val (.ref b192), .val (.ref b218), .val (.ref b246), .val (.ref b276), .val (.ref b377), .val g435, .val g438] [])) (fun _ k => (ac327) _ k) ?_
    refine own_st (T' := T441) (g' := (mkF m 331 #[.val (.int p1), .val (.int p2), .val (.int p3), .val (.int p4), .val (.int (1 : Int32)), .val (.int z15), .val (.int z27), .val (.ref b1), .val (.ref b146), .val (.ref b168), .val (.ref b192), .val (.ref b218), .val (.ref b246), .val (.ref b276), .val (.ref b377), .val g435, .val g438] [(.int (1 : Int32))])) (fun _ k => XS.iconst (g := (mkF m 330 #[.val (.int p1), .val (.int p2), .val (.int p3), .val (.int p4), .val (.int (1 : Int32)), .val (.int z15), .val (.int z27), .val (.ref b1), .val (.ref b146), .val (.ref b168), .val (.ref b192), .val (.ref b218), .val (.ref b246), .val (.ref b276), .val (.ref b377), .val g435, .val g438] [])) X441.here hx rfl (hb hby at_330) k) ?_
    refine own_st (T' := T441) (g' := (mkF m 335 #[.val (.int p1), .val (.int p2), .val (.int p3), .val (.int p4), .val (.int (1 : Int32)), .val (.int z15), .val (.int z27), .val (.ref b1), .val (.ref b146), .val (.ref b168), .val (.ref b192), .val (.ref b218), .val (.ref b246), .val (.ref b276), .val (.ref b377), .val g435, .val g438] [(.int (1 : Int32))])) (fun _ k => XS.goto (g := (mkF m 331 #[.val (.int p1), .val (.int p2), .val (.int p3), .val (.int p4), .val (.int (1 : Int32)), .val (.int z15), .val (.int z27), .val (.ref b1), .val (.ref b146), .val (.ref b168), .val (.ref b192), .val (.ref b218), .val (.ref b246), .val (.ref b276), .val (.ref b377), .val g435, .val g438] [(.int (1 : Int32))])) X441.here hx rfl (pc0 := 331) (pc' := 335) rfl (hb hby at_331) (by decide) (by decide) k) ?_
    exact own_end (Q := Q0 Z p1 p2 p3 p4 h0 n0) (v := some (.int (nar .boolean (1 : Int32)))) X441 (fun h => by rw [Bd.returns] at h; cases h) (fun fs hr => retN X441 hx (t := .boolean) Bd.returns (by simp) (hb hby at_335) hr) (⟨rfl, N441⟩) (by decide) (by decide)
  · refine own_st (T' := T394) (g' := (mkF m 207 #[.val (.int p1), .val (.int p2), .val (.int p3), .val (.int p4), .val (.int (2 : Int32)), .val (.int z15), .val (.int z27), .val (.ref b1), .val (.ref b146), .val (.ref b168), .val (.ref b192), .val (.ref b218), .val (.ref b246), .val (.ref b276), .val (.ref b377), .unset, .unset] [(.int (2 : Int32))])) (fun _ k => Jvm.Free.XS.iload (g := (mkF m 205 #[.val (.int p1), .val (.int p2), .val (.int p3), .val (.int p4), .val (.int (2 : Int32)), .val (.int z15), .val (.int z27), .val (.ref b1), .val (.ref b146), .val (.ref b168), .val (.ref b192), .val (.ref b218), .val (.ref b246), .val (.ref b276), .val (.ref b377), .unset, .unset] [])) X394.here hx rfl (hb hby at_205) rfl k) ?_
    refine own_st (T' := T394) (g' := (mkF m 210 #[.val (.int p1), .val (.int p2), .val (.int p3), .val (.int p4), .val (.int (2 : Int32)), .val (.int z15), .val (.int z27), .val (.ref b1), .val (.ref b146), .val (.ref b168), .val (.ref b192), .val (.ref b218), .val (.ref b246), .val (.ref b276), .val (.ref b377), .unset, .unset] [])) (fun _ k => XS.ifNo (g := (mkF m 207 #[.val (.int p1), .val (.int p2), .val (.int p3), .val (.int p4), .val (.int (2 : Int32)), .val (.int z15), .val (.int z27), .val (.ref b1), .val (.ref b146), .val (.ref b168), .val (.ref b192), .val (.ref b218), .val (.ref b246), .val (.ref b276), .val (.ref b377), .unset, .unset] [(.int (2 : Int32))])) X394.here hx rfl (hb hby at_207) rfl ((if0 _ _).trans (tlt (by decide : (0 : Int32) < (2 : Int32))).2.2.2) k) ?_
    refine own_st (T' := T394) (g' := (mkF m 212 #[.val (.int p1), .val (.int p2), .val (.int p3), .val (.int p4), .val (.int (2 : Int32)), .val (.int z15), .val (.int z27), .val (.ref b1), .val (.ref b146), .val (.ref b168), .val (.ref b192), .val (.ref b218), .val (.ref b246), .val (.ref b276), .val (.ref b377), .unset, .unset] [(.ref b377)])) (fun _ k => Jvm.Free.XS.aload (g := (mkF m 210 #[.val (.int p1), .val (.int p2), .val (.int p3), .val (.int p4), .val (.int (2 : Int32)), .val (.int z15), .val (.int z27), .val (.ref b1), .val (.ref b146), .val (.ref b168), .val (.ref b192), .val (.ref b218), .val (.ref b246), .val (.ref b276), .val (.ref b377), .unset, .unset] [])) X394.here hx rfl (hb hby at_210) rfl rfl k) ?_
    refine own_st (T' := T394) (g' := (mkF m 214 #[.val (.int p1), .val (.int p2), .val (.int p3), .val (.int p4), .val (.int (2 : Int32)), .val (.int z15), .val (.int z27), .val (.ref b1), .val (.ref b146), .val (.ref b168), .val (.ref b192), .val (.ref b218), .val (.ref b246), .val (.ref b276), .val (.ref b377), .unset, .unset] [(.ref b146), (.ref b377)])) (fun _ k => Jvm.Free.XS.aload (g := (mkF m 212 #[.val (.int p1), .val (.int p2), .val (.int p3), .val (.int p4), .val (.int (2 : Int32)), .val (.int z15), .val (.int z27), .val (.ref b1), .val (.ref b146), .val (.ref b168), .val (.ref b192), .val (.ref b218), .val (.ref b246), .val (.ref b276), .val (.ref b377), .unset, .unset] [(.ref b377)])) X394.here hx rfl (hb hby at_212) rfl rfl k) ?_
    refine own_st (T' := T394) (g' := (mkF m 216 #[.val (.int p1), .val (.int p2), .val (.int p3), .val (.int p4), .val (.int (2 : Int32)), .val (.int z15), .val (.int z27), .val (.ref b1), .val (.ref b146), .val (.ref b168), .val (.ref b192), .val (.ref b218), .val (.ref b246), .val (.ref b276), .val (.ref b377), .unset, .unset] [(.ref b1), (.ref b146), (.ref b377)])) (fun _ k => Jvm.Free.XS.aload (g := (mkF m 214 #[.val (.int p1), .val (.int p2), .val (.int p3), .val (.int p4), .val (.int (2 : Int32)), .val (.int z15), .val (.int z27), .val (.ref b1), .val (.ref b146), .val (.ref b168), .val (.ref b192), .val (.ref b218), .val (.ref b246), .val (.ref b276), .val (.ref b377), .unset, .unset] [(.ref b146), (.ref b377)])) X394.here hx rfl (hb hby at_214) rfl rfl k) ?_
    refine own_st (T' := T394) (g' := (mkF m 217 #[.val (.int p1), .val (.int p2), .val (.int p3), .val (.int p4), .val (.int (2 : Int32)), .val (.int z15), .val (.int z27), .val (.ref b1), .val (.ref b146), .val (.ref b168), .val (.ref b192), .val (.ref b218), .val (.ref b246), .val (.ref b276), .val (.ref b377), .unset, .unset] [(.int (0 : Int32)), (.ref b1), (.ref b146), (.ref b377)])) (fun _ k => XS.iconst (g := (mkF m 216 #[.val (.int p1), .val (.int p2), .val (.int p3), .val (.int p4), .val (.int (2 : Int32)), .val (.int z15), .val (.int z27), .val (.ref b1), .val (.ref b146), .val (.ref b168), .val (.ref b192), .val (.ref b218), .val (.ref b246), .val (.ref b276), .val (.ref b377), .unset, .unset] [(.ref b1), (.ref b146), (.ref b377)])) X394.here hx rfl (hb hby at_216) k) ?_
    obtain ⟨cl442, Ar442, -, Sz442, Nn442, Hs442, Gs442⟩ := id Fa403
    have hin442 : ¬ ((0 : Int32) < 0 ∨ cl442.slots.size ≤ ((0 : Int32)).toNatClampNeg) := inb_of Sz442 ⟨by decide, by decide⟩
    have hat442 : cl442.slots[((0 : Int32)).toNatClampNeg]? = some r0 := Has.at Hs442 hin442 rfl
    refine own_st (T' := T394) (g' := (mkF m 218 #[.val (.int p1), .val (.int p2), .val (.int p3), .val (.int p4), .val (.int (2 : Int32)), .val (.int z15), .val (.int z27), .val (.ref b1), .val (.ref b146), .val (.ref b168), .val (.ref b192), .val (.ref b218), .val (.ref b246), .val (.ref b276), .val (.ref b377), .unset, .unset] [r0, (.ref b146), (.ref b377)])) (fun _ k => (X394.aaload hx (j := (0 : Int32)) (v := r0) Ar442.1 (State.isArrayOf_alike hZ.alike Ar442.2.1) rfl Ar442.2.2 hin442 hat442 (g := (mkF m 217 #[.val (.int p1), .val (.int p2), .val (.int p3), .val (.int p4), .val (.int (2 : Int32)), .val (.int z15), .val (.int z27), .val (.ref b1), .val (.ref b146), .val (.ref b168), .val (.ref b192), .val (.ref b218), .val (.ref b246), .val (.ref b276), .val (.ref b377), .unset, .unset] [(.int (0 : Int32)), (.ref b1), (.ref b146), (.ref b377)])) rfl rfl (hb hby at_217)) _ k) ?_
    obtain ⟨cq443, kq443, q443a, q443b, q443c⟩ := isOf hZ rfl Fq394_0
    obtain ⟨v443, T443, L443, X443, hQ443, st443⟩ := own_packV (X394.virtualBack hx (y := (⟨"com/example/hollow_tree/hollowtree/query/IdentityTable", "put", "(Ljava/lang/Object;Ljava/lang/Object;)V"⟩ : MethodName)) (z := (⟨"com/example/hollow_tree/hollowtree/query/IdentityTable", "put", "(Ljava/lang/Object;Ljava/lang/Object;)V"⟩ : MethodName)) hown (mvT hZ (hw _ (List.mem_of_getElem? (i := 56) rfl))) (mvT hZ (hw _ (List.mem_of_getElem? (i := 57) rfl))) (notFace_of_selects (args := #[]) (mvT hZ (hw _ (List.mem_of_getElem? (i := 59) rfl)))) (mvT hZ (hw _ (List.mem_of_getElem? (i := 59) rfl))) (mvT hZ (hw _ (List.mem_of_getElem? (i := 58) rfl))) (by decide) (backOf (W := 0) (rm8_0 l Z a0 hw [] b377 b146 r0 (Fa399.rf) no kN mr  T394.heap n0 Zs394 Fq394_0 Fq394_1 Fq394_2 Fa396 Fa397 (Or.inr ⟨b146, rfl, Ins.of_exa Fa404 (hw _ (List.mem_of_getElem? (i := 33) rfl))⟩) (Fa399.o (hw _ (List.mem_of_getElem? (i := 87) rfl))) gn_b377 Mm (Ne.symm ne_no_b377)) hZ (hw _ (List.mem_of_getElem? (i := 60) rfl)) (hw _ (List.mem_of_getElem? (i := 36) rfl)) (by decide) (by decide)) q443a q443c (g := (mkF m 218 #[.val (.int p1), .val (.int p2), .val (.int p3), .val (.int p4), .val (.int (2 : Int32)), .val (.int z15), .val (.int z27), .val (.ref b1), .val (.ref b146), .val (.ref b168), .val (.ref b192), .val (.ref b218), .val (.ref b246), .val (.ref b276), .val (.ref b377), .unset, .unset] [r0, (.ref b146), (.ref b377)])) rfl (by rw [hml]; rfl) (Steps.refl _) (argsL := [(.ref b146), r0]) (rest := []) (lenOf own_pd0_3 rfl) rfl (by show 2 * 0 + _ ≤ _; exact Nat.le_of_eq rfl) (hb hby at_218) (fun _ _ => ⟨rfl, rfl, (by decide : 12 + 1 ≤ _), (by decide : 30 + 8 ≤ _)⟩))
    obtain ⟨rfl, N443q, Kq443, Eq443, t443, kt443, hsz443, Fe443, Fs443, Vq443, Xq443, Oq443⟩ := hQ443
    obtain ⟨lc443, X443, N443⟩ := own_loc X443 (Fr.app N394 N443q)
    have ne_no_t443 : no ≠ t443 := Nat.ne_of_lt (Nat.lt_of_lt_of_le Fa396.lt hsz443)
    have ne_b1_t443 : b1 ≠ t443 := Nat.ne_of_lt (Nat.lt_of_lt_of_le Fa398.lt hsz443)
    have ne_b146_t443 : b146 ≠ t443 := Nat.ne_of_lt (Nat.lt_of_lt_of_le Fa404.lt hsz443)
    have ne_b168_t443 : b168 ≠ t443 := Nat.ne_of_lt (Nat.lt_of_lt_of_le Fa405.lt hsz443)
    have ne_b192_t443 : b192 ≠ t443 := Nat.ne_of_lt (Nat.lt_of_lt_of_le Fa406.lt hsz443)
    have ne_b218_t443 : b218 ≠ t443 := Nat.ne_of_lt (Nat.lt_of_lt_of_le Fa407.lt hsz443)
    have ne_b246_t443 : b246 ≠ t443 := Nat.ne_of_lt (Nat.lt_of_lt_of_le Fa408.lt hsz443)
    have ne_b276_t443 : b276 ≠ t443 := Nat.ne_of_lt (Nat.lt_of_lt_of_le Fa409.lt hsz443)
    have ne_b377_t443 : b377 ≠ t443 := Nat.ne_of_lt (Nat.lt_of_lt_of_le Fq394_0.lt hsz443)
    have gn_t443 : n0 ≤ t443 := Nat.le_trans Zs394 hsz443
    have Zs443 : n0 ≤ T443.heap.size := Nat.le_trans Zs394 Kq443.1
    have Fa444 : Exa Z T443.heap b1 "[[I" := Fa398.keep Kq443
    have Fa445 : own_R Z T443.heap r0 := Fa399.keep Kq443
    have Fa446 : own_R Z T443.heap r1 := Fa400.keep Kq443
    have Fa447 : own_R Z T443.heap r2 := Fa401.keep Kq443
    have Fa448 : own_R Z T443.heap r3 := Fa402.keep Kq443
    have Fa449 : Arv Z T443.heap b1 k1 (.array .int) (4 : Int32) [r0, r1, r2, r3] .null := Fa403.keep Kq443 (ninS ne_b1_b377 nin0)
    have Fa450 : Exa Z T443.heap b146 "java/util/ArrayList" := Fa404.keep Kq443
    have Fa451 : Exa Z T443.heap b168 "java/util/ArrayList" := Fa405.keep Kq443
    have Fa452 : Exa Z T443.heap b192 "java/util/ArrayList" := Fa406.keep Kq443
    have Fa453 : Exa Z T443.heap b218 "java/util/ArrayList" := Fa407.keep Kq443
    have Fa454 : Exa Z T443.heap b246 "java/util/ArrayList" := Fa408.keep Kq443
    have Fa455 : Exa Z T443.heap b276 "[Ljava/lang/Object;" := Fa409.keep Kq443
    have Fa456 : Arv Z T443.heap b276 k276 (.object "java/lang/Object") (5 : Int32) [(.ref b146), (.ref b168), (.ref b192), (.ref b218), (.ref b246)] .null := Fa410.keep Kq443 (ninS ne_b276_b377 nin0)
    refine own_st (T' := T443) (g' := (mkF m 221 #[.val (.int p1), .val (.int p2), .val (.int p3), .val (.int p4), .val (.int (2 : Int32)), .val (.int z15), .val (.int z27), .val (.ref b1), .val (.ref b146), .val (.ref b168), .val (.ref b192), .val (.ref b218), .val (.ref b246), .val (.ref b276), .val (.ref b377), .unset, .unset] [])) (fun _ k => (st443) _ k) ?_
    refine own_st (T' := T443) (g' := (mkF m 223 #[.val (.int p1), .val (.int p2), .val (.int p3), .val (.int p4), .val (.int (2 : Int32)), .val (.int z15), .val (.int z27), .val (.ref b1), .val (.ref b146), .val (.ref b168), .val (.ref b192), .val (.ref b218), .val (.ref b246), .val (.ref b276), .val (.ref b377), .unset, .unset] [(.int (2 : Int32))])) (fun _ k => Jvm.Free.XS.iload (g := (mkF m 221 #[.val (.int p1), .val (.int p2), .val (.int p3), .val (.int p4), .val (.int (2 : Int32)), .val (.int z15), .val (.int z27), .val (.ref b1), .val (.ref b146), .val (.ref b168), .val (.ref b192), .val (.ref b218), .val (.ref b246), .val (.ref b276), .val (.ref b377), .unset, .unset] [])) X443.here hx rfl (hb hby at_221) rfl k) ?_
    refine own_st (T' := T443) (g' := (mkF m 224 #[.val (.int p1), .val (.int p2), .val (.int p3), .val (.int p4), .val (.int (2 : Int32)), .val (.int z15), .val (.int z27), .val (.ref b1), .val (.ref b146), .val (.ref b168), .val (.ref b192), .val (.ref b218), .val (.ref b246), .val (.ref b276), .val (.ref b377), .unset, .unset] [(.int (1 : Int32)), (.int (2 : Int32))])) (fun _ k => XS.iconst (g := (mkF m 223 #[.val (.int p1), .val (.int p2), .val (.int p3), .val (.int p4), .val (.int (2 : Int32)), .val (.int z15), .val (.int z27), .val (.ref b1), .val (.ref b146), .val (.ref b168), .val (.ref b192), .val (.ref b218), .val (.ref b246), .val (.ref b276), .val (.ref b377), .unset, .unset] [(.int (2 : Int32))])) X443.here hx rfl (hb hby at_223) k) ?_
    refine own_st (T' := T443) (g' := (mkF m 227 #[.val (.int p1), .val (.int p2), .val (.int p3), .val (.int p4), .val (.int (2 : Int32)), .val (.int z15), .val (.int z27), .val (.ref b1), .val (.ref b146), .val (.ref b168), .val (.ref b192), .val (.ref b218), .val (.ref b246), .val (.ref b276), .val (.ref b377), .unset, .unset] [])) (fun _ k => XS.icmpNo (g := (mkF m 224 #[.val (.int p1), .val (.int p2), .val (.int p3), .val (.int p4), .val (.int (2 : Int32)), .val (.int z15), .val (.int z27), .val (.ref b1), .val (.ref b146), .val (.ref b168), .val (.ref b192), .val (.ref b218), .val (.ref b246), .val (.ref b276), .val (.ref b377), .unset, .unset] [(.int (1 : Int32)), (.int (2 : Int32))])) X443.here hx rfl (hb hby at_224) rfl (tlt (by decide : (1 : Int32) < (2 : Int32))).2.2.2 k) ?_
    refine own_st (T' := T443) (g' := (mkF m 229 #[.val (.int p1), .val (.int p2), .val (.int p3), .val (.int p4), .val (.int (2 : Int32)), .val (.int z15), .val (.int z27), .val (.ref b1), .val (.ref b146), .val (.ref b168), .val (.ref b192), .val (.ref b218), .val (.ref b246), .val (.ref b276), .val (.ref b377), .unset, .unset] [(.ref b377)])) (fun _ k => Jvm.Free.XS.aload (g := (mkF m 227 #[.val (.int p1), .val (.int p2), .val (.int p3), .val (.int p4), .val (.int (2 : Int32)), .val (.int z15), .val (.int z27), .val (.ref b1), .val (.ref b146), .val (.ref b168), .val (.ref b192), .val (.ref b218), .val (.ref b246), .val (.ref b276), .val (.ref b377), .unset, .unset] [])) X443.here hx rfl (hb hby at_227) rfl rfl k) ?_
    refine own_st (T' := T443) (g' := (mkF m 231 #[.val (.int p1), .val (.int p2), .val (.int p3), .val (.int p4), .val (.int (2 : Int32)), .val (.int z15), .val (.int z27), .val (.ref b1), .val (.ref b146), .val (.ref b168), .val (.ref b192), .val (.ref b218), .val (.ref b246), .val (.ref b276), .val (.ref b377), .unset, .unset] [(.ref b168), (.ref b377)])) (fun _ k => Jvm.Free.XS.aload (g := (mkF m 229 #[.val (.int p1), .val (.int p2), .val (.int p3), .val (.int p4), .val (.int (2 : Int32)), .val (.int z15), .val (.int z27), .val (.ref b1), .val (.ref b146), .val (.ref b168), .val (.ref b192), .val (.ref b218), .val (.ref b246), .val (.ref b276), .val (.ref b377), .unset, .unset] [(.ref b377)])) X443.here hx rfl (hb hby at_229) rfl rfl k) ?_
    refine own_st (T' := T443) (g' := (mkF m 233 #[.val (.int p1), .val (.int p2), .val (.int p3), .val (.int p4), .val (.int (2 : Int32)), .val (.int z15), .val (.int z27), .val (.ref b1), .val (.ref b146), .val (.ref b168), .val (.ref b192), .val (.ref b218), .val (.ref b246), .val (.ref b276), .val (.ref b377), .unset, .unset] [(.ref b1), (.ref b168), (.ref b377)])) (fun _ k => Jvm.Free.XS.aload (g := (mkF m 231 #[.val (.int p1), .val (.int p2), .val (.int p3), .val (.int p4), .val (.int (2 : Int32)), .val (.int z15), .val (.int z27), .val (.ref b1), .val (.ref b146), .val (.ref b168), .val (.ref b192), .val (.ref b218), .val (.ref b246), .val (.ref b276), .val (.ref b377), .unset, .unset] [(.ref b168), (.ref b377)])) X443.here hx rfl (hb hby at_231) rfl rfl k) ?_
    refine own_st (T' := T443) (g' := (mkF m 234 #[.val (.int p1), .val (.int p2), .val (.int p3), .val (.int p4), .val (.int (2 : Int32)), .val (.int z15), .val (.int z27), .val (.ref b1), .val (.ref b146), .val (.ref b168), .val (.ref b192), .val (.ref b218), .val (.ref b246), .val (.ref b276), .val (.ref b377), .unset, .unset] [(.int (1 : Int32)), (.ref b1), (.ref b168), (.ref b377)])) (fun _ k => XS.iconst (g := (mkF m 233 #[.val (.int p1), .val (.int p2), .val (.int p3), .val (.int p4), .val (.int (2 : Int32)), .val (.int z15), .val (.int z27), .val (.ref b1), .val (.ref b146), .val (.ref b168), .val (.ref b192), .val (.ref b218), .val (.ref b246), .val (.ref b276), .val (.ref b377), .unset, .unset] [(.ref b1), (.ref b168), (.ref b377)])) X443.here hx rfl (hb hby at_233) k) ?_
    obtain ⟨cl457, Ar457, -, Sz457, Nn457, Hs457, Gs457⟩ := id Fa449
    have hin457 : ¬ ((1 : Int32) < 0 ∨ cl457.slots.size ≤ ((1 : Int32)).toNatClampNeg) := inb_of Sz457 ⟨by decide, by decide⟩
    have hat457 : cl457.slots[((1 : Int32)).toNatClampNeg]? = some r1 := Has.at Hs457 hin457 rfl
    refine own_st (T' := T443) (g' := (mkF m 235 #[.val (.int p1), .val (.int p2), .val (.int p3), .val (.int p4), .val (.int (2 : Int32)), .val (.int z15), .val (.int z27), .val (.ref b1), .val (.ref b146), .val (.ref b168), .val (.ref b192), .val (.ref b218), .val (.ref b246), .val (.ref b276), .val (.ref b377), .unset, .unset] [r1, (.ref b168), (.ref b377)])) (fun _ k => (X443.aaload hx (j := (1 : Int32)) (v := r1) Ar457.1 (State.isArrayOf_alike hZ.alike Ar457.2.1) rfl Ar457.2.2 hin457 hat457 (g := (mkF m 234 #[.val (.int p1), .val (.int p2), .val (.int p3), .val (.int p4), .val (.int (2 : Int32)), .val (.int z15), .val (.int z27), .val (.ref b1), .val (.ref b146), .val (.ref b168), .val (.ref b192), .val (.ref b218), .val (.ref b246), .val (.ref b276), .val (.ref b377), .unset, .unset] [(.int (1 : Int32)), (.ref b1), (.ref b168), (.ref b377)])) rfl rfl (hb hby at_234)) _ k) ?_
    obtain ⟨cq458, kq458, q458a, q458b, q458c⟩ := isOf hZ rfl Eq443
    obtain ⟨v458, T458, L458, X458, hQ458, st458⟩ := own_packV (X443.virtualBack hx (y := (⟨"com/example/hollow_tree/hollowtree/query/IdentityTable", "put", "(Ljava/lang/Object;Ljava/lang/Object;)V"⟩ : MethodName)) (z := (⟨"com/example/hollow_tree/hollowtree/query/IdentityTable", "put", "(Ljava/lang/Object;Ljava/lang/Object;)V"⟩ : MethodName)) hown (mvT hZ (hw _ (List.mem_of_getElem? (i := 56) rfl))) (mvT hZ (hw _ (List.mem_of_getElem? (i := 57) rfl))) (notFace_of_selects (args := #[]) (mvT hZ (hw _ (List.mem_of_getElem? (i := 59) rfl)))) (mvT hZ (hw _ (List.mem_of_getElem? (i := 59) rfl))) (mvT hZ (hw _ (List.mem_of_getElem? (i := 58) rfl))) (by decide) (backOf (W := 0) (rm8_1 l Z a0 hw [] b377 b168 r1 (Fa446.rf) t443 kt443 mr (.ref b146) r0 T443.heap n0 Zs443 Eq443 Fe443 Fs443 Vq443 Xq443 (Or.inr ⟨b146, rfl, Ins.of_exa Fa450 (hw _ (List.mem_of_getElem? (i := 33) rfl))⟩) (Fa445.o (hw _ (List.mem_of_getElem? (i := 87) rfl))) (Or.inr ⟨b168, rfl, Ins.of_exa Fa451 (hw _ (List.mem_of_getElem? (i := 33) rfl))⟩) (Fa446.o (hw _ (List.mem_of_getElem? (i := 87) rfl))) gn_b377 Mm ne_b377_t443) hZ (hw _ (List.mem_of_getElem? (i := 60) rfl)) (hw _ (List.mem_of_getElem? (i := 36) rfl)) (by decide) (by decide)) q458a q458c (g := (mkF m 235 #[.val (.int p1), .val (.int p2), .val (.int p3), .val (.int p4), .val (.int (2 : Int32)), .val (.int z15), .val (.int z27), .val (.ref b1), .val (.ref b146), .val (.ref b168), .val (.ref b192), .val (.ref b218), .val (.ref b246), .val (.ref b276), .val (.ref b377), .unset, .unset] [r1, (.ref b168), (.ref b377)])) rfl (by rw [hml]; rfl) (Steps.refl _) (argsL := [(.ref b168), r1]) (rest := []) (lenOf own_pd0_3 rfl) rfl (by show 2 * 0 + _ ≤ _; exact Nat.le_of_eq rfl) (hb hby at_235) (fun _ _ => ⟨rfl, rfl, (by decide : 13 + 1 ≤ _), (by decide : 38 + 8 ≤ _)⟩))
    obtain ⟨rfl, N458q, Kq458, Eq458, t458, kt458, hsz458, Fe458, Fs458, Vq458, Xq458, Oq458⟩ := hQ458
    obtain ⟨lc458, X458, N458⟩ := own_loc X458 (Fr.app N443 N458q)
    have ne_b1_t458 : b1 ≠ t458 := Nat.ne_of_lt (Nat.lt_of_lt_of_le Fa444.lt hsz458)
    have ne_b146_t458 : b146 ≠ t458 := Nat.ne_of_lt (Nat.lt_of_lt_of_le Fa450.lt hsz458)
    have ne_b168_t458 : b168 ≠ t458 := Nat.ne_of_lt (Nat.lt_of_lt_of_le Fa451.lt hsz458)
    have ne_b192_t458 : b192 ≠ t458 := Nat.ne_of_lt (Nat.lt_of_lt_of_le Fa452.lt hsz458)
    have ne_b218_t458 : b218 ≠ t458 := Nat.ne_of_lt (Nat.lt_of_lt_of_le Fa453.lt hsz458)
    have ne_b246_t458 : b246 ≠ t458 := Nat.ne_of_lt (Nat.lt_of_lt_of_le Fa454.lt hsz458)
    have ne_b276_t458 : b276 ≠ t458 := Nat.ne_of_lt (Nat.lt_of_lt_of_le Fa455.lt hsz458)
    have ne_b377_t458 : b377 ≠ t458 := Nat.ne_of_lt (Nat.lt_of_lt_of_le Eq443.lt hsz458)
    have ne_t443_t458 : t443 ≠ t458 := Nat.ne_of_lt (Nat.lt_of_lt_of_le Vq443.lt hsz458)
    have gn_t458 : n0 ≤ t458 := Nat.le_trans Zs443 hsz458
    have Zs458 : n0 ≤ T458.heap.size := Nat.le_trans Zs443 Kq458.1
    have Fa459 : Exa Z T458.heap b1 "[[I" := Fa444.keep Kq458
    have Fa460 : own_R Z T458.heap r0 := Fa445.keep Kq458
    have Fa461 : own_R Z T458.heap r1 := Fa446.keep Kq458
    have Fa462 : own_R Z T458.heap r2 := Fa447.keep Kq458
    have Fa463 : own_R Z T458.heap r3 := Fa448.keep Kq458
    have Fa464 : Arv Z T458.heap b1 k1 (.array .int) (4 : Int32) [r0, r1, r2, r3] .null := Fa449.keep Kq458 (ninS ne_b1_b377 nin0)
    have Fa465 : Exa Z T458.heap b146 "java/util/ArrayList" := Fa450.keep Kq458
    have Fa466 : Exa Z T458.heap b168 "java/util/ArrayList" := Fa451.keep Kq458
    have Fa467 : Exa Z T458.heap b192 "java/util/ArrayList" := Fa452.keep Kq458
    have Fa468 : Exa Z T458.heap b218 "java/util/ArrayList" := Fa453.keep Kq458
    have Fa469 : Exa Z T458.heap b246 "java/util/ArrayList" := Fa454.keep Kq458
    have Fa470 : Exa Z T458.heap b276 "[Ljava/lang/Object;" := Fa455.keep Kq458
    have Fa471 : Arv Z T458.heap b276 k276 (.object "java/lang/Object") (5 : Int32) [(.ref b146), (.ref b168), (.ref b192), (.ref b218), (.ref b246)] .null := Fa456.keep Kq458 (ninS ne_b276_b377 nin0)
    refine own_st (T' := T458) (g' := (mkF m 238 #[.val (.int p1), .val (.int p2), .val (.int p3), .val (.int p4), .val (.int (2 : Int32)), .val (.int z15), .val (.int z27), .val (.ref b1), .val (.ref b146), .val (.ref b168), .val (.ref b192), .val (.ref b218), .val (.ref b246), .val (.ref b276), .val (.ref b377), .unset, .unset] [])) (fun _ k => (st458) _ k) ?_
    refine own_st (T' := T458) (g' := (mkF m 240 #[.val (.int p1), .val (.int p2), .val (.int p3), .val (.int p4), .val (.int (2 : Int32)), .val (.int z15), .val (.int z27), .val (.ref b1), .val (.ref b146), .val (.ref b168), .val (.ref b192), .val (.ref b218), .val (.ref b246), .val (.ref b276), .val (.ref b377), .unset, .unset] [(.int (2 : Int32))])) (fun _ k => Jvm.Free.XS.iload (g := (mkF m 238 #[.val (.int p1), .val (.int p2), .val (.int p3), .val (.int p4), .val (.int (2 : Int32)), .val (.int z15), .val (.int z27), .val (.ref b1), .val (.ref b146), .val (.ref b168), .val (.ref b192), .val (.ref b218), .val (.ref b246), .val (.ref b276), .val (.ref b377), .unset, .unset] [])) X458.here hx rfl (hb hby at_238) rfl k) ?_
    refine own_st (T' := T458) (g' := (mkF m 241 #[.val (.int p1), .val (.int p2), .val (.int p3), .val (.int p4), .val (.int (2 : Int32)), .val (.int z15), .val (.int z27), .val (.ref b1), .val (.ref b146), .val (.ref b168), .val (.ref b192), .val (.ref b218), .val (.ref b246), .val (.ref b276), .val (.ref b377), .unset, .unset] [(.int (2 : Int32)), (.int (2 : Int32))])) (fun _ k => XS.iconst (g := (mkF m 240 #[.val (.int p1), .val (.int p2), .val (.int p3), .val (.int p4), .val (.int (2 : Int32)), .val (.int z15), .val (.int z27), .val (.ref b1), .val (.ref b146), .val (.ref b168), .val (.ref b192), .val (.ref b218), .val (.ref b246), .val (.ref b276), .val (.ref b377), .unset, .unset] [(.int (2 : Int32))])) X458.here hx rfl (hb hby at_240) k) ?_
    refine own_st (T' := T458) (g' := (mkF m 255 #[.val (.int p1), .val (.int p2), .val (.int p3), .val (.int p4), .val (.int (2 : Int32)), .val (.int z15), .val (.int z27), .val (.ref b1), .val (.ref b146), .val (.ref b168), .val (.ref b192), .val (.ref b218), .val (.ref b246), .val (.ref b276), .val (.ref b377), .unset, .unset] [])) (fun _ k => XS.icmpYes (g := (mkF m 241 #[.val (.int p1), .val (.int p2), .val (.int p3), .val (.int p4), .val (.int (2 : Int32)), .val (.int z15), .val (.int z27), .val (.ref b1), .val (.ref b146), .val (.ref b168), .val (.ref b192), .val (.ref b218), .val (.ref b246), .val (.ref b276), .val (.ref b377), .unset, .unset] [(.int (2 : Int32)), (.int (2 : Int32))])) X458.here hx rfl (pc0 := 241) (pc' := 255) rfl (hb hby at_241) rfl (flt (by decide : ¬ ((2 : Int32) < (2 : Int32)))).2.2.2 (by decide) (by decide) k) ?_
    refine own_st (T' := T458) (g' := (mkF m 257 #[.val (.int p1), .val (.int p2), .val (.int p3), .val (.int p4), .val (.int (2 : Int32)), .val (.int z15), .val (.int z27), .val (.ref b1), .val (.ref b146), .val (.ref b168), .val (.ref b192), .val (.ref b218), .val (.ref b246), .val (.ref b276), .val (.ref b377), .unset, .unset] [(.int (2 : Int32))])) (fun _ k => Jvm.Free.XS.iload (g := (mkF m 255 #[.val (.int p1), .val (.int p2), .val (.int p3), .val (.int p4), .val (.int (2 : Int32)), .val (.int z15), .val (.int z27), .val (.ref b1), .val (.ref b146), .val (.ref b168), .val (.ref b192), .val (.ref b218), .val (.ref b246), .val (.ref b276), .val (.ref b377), .unset, .unset] [])) X458.here hx rfl (hb hby at_255) rfl k) ?_
    refine own_st (T' := T458) (g' := (mkF m 258 #[.val (.int p1), .val (.int p2), .val (.int p3), .val (.int p4), .val (.int (2 : Int32)), .val (.int z15), .val (.int z27), .val (.ref b1), .val (.ref b146), .val (.ref b168), .val (.ref b192), .val (.ref b218), .val (.ref b246), .val (.ref b276), .val (.ref b377), .unset, .unset] [(.int (3 : Int32)), (.int (2 : Int32))])) (fun _ k => XS.iconst (g := (mkF m 257 #[.val (.int p1), .val (.int p2), .val (.int p3), .val (.int p4), .val (.int (2 : Int32)), .val (.int z15), .val (.int z27), .val (.ref b1), .val (.ref b146), .val (.ref b168), .val (.ref b192), .val (.ref b218), .val (.ref b246), .val (.ref b276), .val (.ref b377), .unset, .unset] [(.int (2 : Int32))])) X458.here hx rfl (hb hby at_257) k) ?_
    refine own_st (T' := T458) (g' := (mkF m 272 #[.val (.int p1), .val (.int p2), .val (.int p3), .val (.int p4), .val (.int (2 : Int32)), .val (.int z15), .val (.int z27), .val (.ref b1), .val (.ref b146), .val (.ref b168), .val (.ref b192), .val (.ref b218), .val (.ref b246), .val (.ref b276), .val (.ref b377), .unset, .unset] [])) (fun _ k => XS.icmpYes (g := (mkF m 258 #[.val (.int p1), .val (.int p2), .val (.int p3), .val (.int p4), .val (.int (2 : Int32)), .val (.int z15), .val (.int z27), .val (.ref b1), .val (.ref b146), .val (.ref b168), .val (.ref b192), .val (.ref b218), .val (.ref b246), .val (.ref b276), .val (.ref b377), .unset, .unset] [(.int (3 : Int32)), (.int (2 : Int32))])) X458.here hx rfl (pc0 := 258) (pc' := 272) rfl (hb hby at_258) rfl (flt (by decide : ¬ ((3 : Int32) < (2 : Int32)))).2.2.2 (by decide) (by decide) k) ?_
    refine own_st (T' := T458) (g' := (mkF m 274 #[.val (.int p1), .val (.int p2), .val (.int p3), .val (.int p4), .val (.int (2 : Int32)), .val (.int z15), .val (.int z27), .val (.ref b1), .val (.ref b146), .val (.ref b168), .val (.ref b192), .val (.ref b218), .val (.ref b246), .val (.ref b276), .val (.ref b377), .unset, .unset] [(.ref b377)])) (fun _ k => Jvm.Free.XS.aload (g := (mkF m 272 #[.val (.int p1), .val (.int p2), .val (.int p3), .val (.int p4), .val (.int (2 : Int32)), .val (.int z15), .val (.int z27), .val (.ref b1), .val (.ref b146), .val (.ref b168), .val (.ref b192), .val (.ref b218), .val (.ref b246), .val (.ref b276), .val (.ref b377), .unset, .unset] [])) X458.here hx rfl (hb hby at_272) rfl rfl k) ?_
    refine own_st (T' := T458) (g' := (mkF m 276 #[.val (.int p1), .val (.int p2), .val (.int p3), .val (.int p4), .val (.int (2 : Int32)), .val (.int z15), .val (.int z27), .val (.ref b1), .val (.ref b146), .val (.ref b168), .val (.ref b192), .val (.ref b218), .val (.ref b246), .val (.ref b276), .val (.ref b377), .unset, .unset] [(.ref b276), (.ref b377)])) (fun _ k => Jvm.Free.XS.aload (g := (mkF m 274 #[.val (.int p1), .val (.int p2), .val (.int p3), .val (.int p4), .val (.int (2 : Int32)), .val (.int z15), .val (.int z27), .val (.ref b1), .val (.ref b146), .val (.ref b168), .val (.ref b192), .val (.ref b218), .val (.ref b246), .val (.ref b276), .val (.ref b377), .unset, .unset] [(.ref b377)])) X458.here hx rfl (hb hby at_274) rfl rfl k) ?_
    refine own_st (T' := T458) (g' := (mkF m 278 #[.val (.int p1), .val (.int p2), .val (.int p3), .val (.int p4), .val (.int (2 : Int32)), .val (.int z15), .val (.int z27), .val (.ref b1), .val (.ref b146), .val (.ref b168), .val (.ref b192), .val (.ref b218), .val (.ref b246), .val (.ref b276), .val (.ref b377), .unset, .unset] [(.int z15), (.ref b276), (.ref b377)])) (fun _ k => Jvm.Free.XS.iload (g := (mkF m 276 #[.val (.int p1), .val (.int p2), .val (.int p3), .val (.int p4), .val (.int (2 : Int32)), .val (.int z15), .val (.int z27), .val (.ref b1), .val (.ref b146), .val (.ref b168), .val (.ref b192), .val (.ref b218), .val (.ref b246), .val (.ref b276), .val (.ref b377), .unset, .unset] [(.ref b276), (.ref b377)])) X458.here hx rfl (hb hby at_276) rfl k) ?_
    obtain ⟨cl472, Ar472, -, Sz472, Nn472, Hs472, Gs472⟩ := id Fa471
    obtain ⟨kq472, hkq472⟩ : ∃ z, z = ([b146, b168, b192, b218, b246] : List Addr).getD z15.toNatClampNeg 0 := ⟨_, rfl⟩
    have hin472 : ¬ (z15 < 0 ∨ cl472.slots.size ≤ (z15).toNatClampNeg) := inb_of Sz472 (own_q5 _ hq1).1
    have hat472 : cl472.slots[(z15).toNatClampNeg]? = some (.ref kq472) := Has.at Hs472 hin472 ((own_getR [b146, b168, b192, b218, b246] _ (own_q5 _ hq1).2).trans (congrArg Value.ref hkq472.symm))
    refine own_st (T' := T458) (g' := (mkF m 279 #[.val (.int p1), .val (.int p2), .val (.int p3), .val (.int p4), .val (.int (2 : Int32)), .val (.int z15), .val (.int z27), .val (.ref b1), .val (.ref b146), .val (.ref b168), .val (.ref b192), .val (.ref b218), .val (.ref b246), .val (.ref b276), .val (.ref b377), .unset, .unset] [(.ref kq472), (.ref b377)])) (fun _ k => (X458.aaload hx (j := z15) (v := (.ref kq472)) Ar472.1 (State.isArrayOf_alike hZ.alike Ar472.2.1) rfl Ar472.2.2 hin472 hat472 (g := (mkF m 278 #[.val (.int p1), .val (.int p2), .val (.int p3), .val (.int p4), .val (.int (2 : Int32)), .val (.int z15), .val (.int z27), .val (.ref b1), .val (.ref b146), .val (.ref b168), .val (.ref b192), .val (.ref b218), .val (.ref b246), .val (.ref b276), .val (.ref b377), .unset, .unset] [(.int z15), (.ref b276), (.ref b377)])) rfl rfl (hb hby at_278)) _ k) ?_
    obtain ⟨cq473, kq473, q473a, q473b, q473c⟩ := isOf hZ rfl Eq458
    obtain ⟨v473, T473, L473, X473, hQ473, st473⟩ := own_packV (X458.virtualBack hx (y := (⟨"com/example/hollow_tree/hollowtree/query/IdentityTable", "get", "(Ljava/lang/Object;)Ljava/lang/Object;"⟩ : MethodName)) (z := (⟨"com/example/hollow_tree/hollowtree/query/IdentityTable", "get", "(Ljava/lang/Object;)Ljava/lang/Object;"⟩ : MethodName)) hown (mvT hZ (hw _ (List.mem_of_getElem? (i := 45) rfl))) (mvT hZ (hw _ (List.mem_of_getElem? (i := 46) rfl))) (notFace_of_selects (args := #[]) (mvT hZ (hw _ (List.mem_of_getElem? (i := 48) rfl)))) (mvT hZ (hw _ (List.mem_of_getElem? (i := 48) rfl))) (mvT hZ (hw _ (List.mem_of_getElem? (i := 47) rfl))) (by decide) (backOf (W := 0) (rm6_2 l Z a0 hw [] b377 kq472 t458 kt458 b146 b168 r0 r1 T458.heap n0 Zs458 Fe458 Fs458 Vq458 Fa460 Fa461) hZ (hw _ (List.mem_of_getElem? (i := 49) rfl)) (hw _ (List.mem_of_getElem? (i := 36) rfl)) (by decide) (by decide)) q473a q473c (g := (mkF m 279 #[.val (.int p1), .val (.int p2), .val (.int p3), .val (.int p4), .val (.int (2 : Int32)), .val (.int z15), .val (.int z27), .val (.ref b1), .val (.ref b146), .val (.ref b168), .val (.ref b192), .val (.ref b218), .val (.ref b246), .val (.ref b276), .val (.ref b377), .unset, .unset] [(.ref kq472), (.ref b377)])) rfl (by rw [hml]; rfl) (Steps.refl _) (argsL := [(.ref kq472)]) (rest := []) (lenOf own_pd0_1 rfl) rfl (by show 2 * 0 + _ ≤ _; exact Nat.le_of_eq rfl) (hb hby at_279) (fun _ _ => ⟨rfl, rfl, (by decide : 14 + 0 ≤ _), (by decide : 46 + 0 ≤ _)⟩))
    obtain ⟨g473, rfl, hg473, N473q, e473⟩ := hQ473
    obtain ⟨lc473, X473, N473⟩ := own_loc X473 (Fr.app N458 N473q)
    have Rg473 : own_R Z T458.heap g473 := by
      rw [hg473]
      exact own_lk_R _ _ (fun q hq => by
        simp only [List.mem_cons, List.not_mem_nil, or_false] at hq
        rcases hq with rfl | rfl
        · exact Fa460
        · exact Fa461)
    refine own_st (T' := T473) (g' := (mkF m 282 #[.val (.int p1), .val (.int p2), .val (.int p3), .val (.int p4), .val (.int (2 : Int32)), .val (.int z15), .val (.int z27), .val (.ref b1), .val (.ref b146), .val (.ref b168), .val (.ref b192), .val (.ref b218), .val (.ref b246), .val (.ref b276), .val (.ref b377), .unset, .unset] [g473])) (fun _ k => (st473) _ k) ?_
    obtain ⟨T474, X474, e474, st474⟩ := own_castV X473 hx hZ hown (hw _ (List.mem_of_getElem? (i := 1) rfl)) e473 Rg473 (g := (mkF m 282 #[.val (.int p1), .val (.int p2), .val (.int p3), .val (.int p4), .val (.int (2 : Int32)), .val (.int z15), .val (.int z27), .val (.ref b1), .val (.ref b146), .val (.ref b168), .val (.ref b192), .val (.ref b218), .val (.ref b246), .val (.ref b276), .val (.ref b377), .unset, .unset] [g473])) rfl rfl (hb hby at_282)
    refine own_st (T' := T474) (g' := (mkF m 285 #[.val (.int p1), .val (.int p2), .val (.int p3), .val (.int p4), .val (.int (2 : Int32)), .val (.int z15), .val (.int z27), .val (.ref b1), .val (.ref b146), .val (.ref b168), .val (.ref b192), .val (.ref b218), .val (.ref b246), .val (.ref b276), .val (.ref b377), .unset, .unset] [g473])) (fun _ k => (st474) _ k) ?_
    refine own_st (T' := T474) (g' := (mkF m 287 #[.val (.int p1), .val (.int p2), .val (.int p3), .val (.int p4), .val (.int (2 : Int32)), .val (.int z15), .val (.int z27), .val (.ref b1), .val (.ref b146), .val (.ref b168), .val (.ref b192), .val (.ref b218), .val (.ref b246), .val (.ref b276), .val (.ref b377), .val g473, .unset] [])) (fun _ k => Jvm.Free.XS.astore (g := (mkF m 285 #[.val (.int p1), .val (.int p2), .val (.int p3), .val (.int p4), .val (.int (2 : Int32)), .val (.int z15), .val (.int z27), .val (.ref b1), .val (.ref b146), .val (.ref b168), .val (.ref b192), .val (.ref b218), .val (.ref b246), .val (.ref b276), .val (.ref b377), .unset, .unset] [g473])) X474.here hx rfl (hb hby at_285) rfl ((Rg473.rf)).isRef (l' := #[.val (.int p1), .val (.int p2), .val (.int p3), .val (.int p4), .val (.int (2 : Int32)), .val (.int z15), .val (.int z27), .val (.ref b1), .val (.ref b146), .val (.ref b168), .val (.ref b192), .val (.ref b218), .val (.ref b246), .val (.ref b276), .val (.ref b377), .val g473, .unset]) (by rcases (Rg473.rf) with rfl | ⟨_, rfl⟩ <;> rfl) k) ?_
    refine own_st (T' := T474) (g' := (mkF m 289 #[.val (.int p1), .val (.int p2), .val (.int p3), .val (.int p4), .val (.int (2 : Int32)), .val (.int z15), .val (.int z27), .val (.ref b1), .val (.ref b146), .val (.ref b168), .val (.ref b192), .val (.ref b218), .val (.ref b246), .val (.ref b276), .val (.ref b377), .val g473, .unset] [(.ref b377)])) (fun _ k => Jvm.Free.XS.aload (g := (mkF m 287 #[.val (.int p1), .val (.int p2), .val (.int p3), .val (.int p4), .val (.int (2 : Int32)), .val (.int z15), .val (.int z27), .val (.ref b1), .val (.ref b146), .val (.ref b168), .val (.ref b192), .val (.ref b218), .val (.ref b246), .val (.ref b276), .val (.ref b377), .val g473, .unset] [])) X474.here hx rfl (hb hby at_287) rfl rfl k) ?_
    refine own_st (T' := T474) (g' := (mkF m 291 #[.val (.int p1), .val (.int p2), .val (.int p3), .val (.int p4), .val (.int (2 : Int32)), .val (.int z15), .val (.int z27), .val (.ref b1), .val (.ref b146), .val (.ref b168), .val (.ref b192), .val (.ref b218), .val (.ref b246), .val (.ref b276), .val (.ref b377), .val g473, .unset] [(.ref b276), (.ref b377)])) (fun _ k => Jvm.Free.XS.aload (g := (mkF m 289 #[.val (.int p1), .val (.int p2), .val (.int p3), .val (.int p4), .val (.int (2 : Int32)), .val (.int z15), .val (.int z27), .val (.ref b1), .val (.ref b146), .val (.ref b168), .val (.ref b192), .val (.ref b218), .val (.ref b246), .val (.ref b276), .val (.ref b377), .val g473, .unset] [(.ref b377)])) X474.here hx rfl (hb hby at_289) rfl rfl k) ?_
    refine own_st (T' := T474) (g' := (mkF m 293 #[.val (.int p1), .val (.int p2), .val (.int p3), .val (.int p4), .val (.int (2 : Int32)), .val (.int z15), .val (.int z27), .val (.ref b1), .val (.ref b146), .val (.ref b168), .val (.ref b192), .val (.ref b218), .val (.ref b246), .val (.ref b276), .val (.ref b377), .val g473, .unset] [(.int z27), (.ref b276), (.ref b377)])) (fun _ k => Jvm.Free.XS.iload (g := (mkF m 291 #[.val (.int p1), .val (.int p2), .val (.int p3), .val (.int p4), .val (.int (2 : Int32)), .val (.int z15), .val (.int z27), .val (.ref b1), .val (.ref b146), .val (.ref b168), .val (.ref b192), .val (.ref b218), .val (.ref b246), .val (.ref b276), .val (.ref b377), .val g473, .unset] [(.ref b276), (.ref b377)])) X474.here hx rfl (hb hby at_291) rfl k) ?_
    obtain ⟨cl475, Ar475, -, Sz475, Nn475, Hs475, Gs475⟩ := id Fa471
    obtain ⟨kq475, hkq475⟩ : ∃ z, z = ([b146, b168, b192, b218, b246] : List Addr).getD z27.toNatClampNeg 0 := ⟨_, rfl⟩
    have hin475 : ¬ (z27 < 0 ∨ cl475.slots.size ≤ (z27).toNatClampNeg) := inb_of Sz475 (own_q5 _ hq2).1
    have hat475 : cl475.slots[(z27).toNatClampNeg]? = some (.ref kq475) := Has.at Hs475 hin475 ((own_getR [b146, b168, b192, b218, b246] _ (own_q5 _ hq2).2).trans (congrArg Value.ref hkq475.symm))
    refine own_st (T' := T474) (g' := (mkF m 294 #[.val (.int p1), .val (.int p2), .val (.int p3), .val (.int p4), .val (.int (2 : Int32)), .val (.int z15), .val (.int z27), .val (.ref b1), .val (.ref b146), .val (.ref b168), .val (.ref b192), .val (.ref b218), .val (.ref b246), .val (.ref b276), .val (.ref b377), .val g473, .unset] [(.ref kq475), (.ref b377)])) (fun _ k => (X474.aaload hx (j := z27) (v := (.ref kq475)) (by rw [e474]; exact Ar475.1) (State.isArrayOf_alike hZ.alike Ar475.2.1) rfl Ar475.2.2 hin475 hat475 (g := (mkF m 293 #[.val (.int p1), .val (.int p2), .val (.int p3), .val (.int p4), .val (.int (2 : Int32)), .val (.int z15), .val (.int z27), .val (.ref b1), .val (.ref b146), .val (.ref b168), .val (.ref b192), .val (.ref b218), .val (.ref b246), .val (.ref b276), .val (.ref b377), .val g473, .unset] [(.int z27), (.ref b276), (.ref b377)])) rfl rfl (hb hby at_293)) _ k) ?_
    obtain ⟨cq476, kq476, q476a, q476b, q476c⟩ := isOf hZ e474 Eq458
    obtain ⟨v476, T476, L476, X476, hQ476, st476⟩ := own_packV (X474.virtualBack hx (y := (⟨"com/example/hollow_tree/hollowtree/query/IdentityTable", "get", "(Ljava/lang/Object;)Ljava/lang/Object;"⟩ : MethodName)) (z := (⟨"com/example/hollow_tree/hollowtree/query/IdentityTable", "get", "(Ljava/lang/Object;)Ljava/lang/Object;"⟩ : MethodName)) hown (mvT hZ (hw _ (List.mem_of_getElem? (i := 45) rfl))) (mvT hZ (hw _ (List.mem_of_getElem? (i := 46) rfl))) (notFace_of_selects (args := #[]) (mvT hZ (hw _ (List.mem_of_getElem? (i := 48) rfl)))) (mvT hZ (hw _ (List.mem_of_getElem? (i := 48) rfl))) (mvT hZ (hw _ (List.mem_of_getElem? (i := 47) rfl))) (by decide) (backOf (W := 0) (rm6_2 l Z a0 hw [] b377 kq475 t458 kt458 b146 b168 r0 r1 T458.heap n0 Zs458 Fe458 Fs458 Vq458 Fa460 Fa461) hZ (hw _ (List.mem_of_getElem? (i := 49) rfl)) (hw _ (List.mem_of_getElem? (i := 36) rfl)) (by decide) (by decide)) q476a q476c (g := (mkF m 294 #[.val (.int p1), .val (.int p2), .val (.int p3), .val (.int p4), .val (.int (2 : Int32)), .val (.int z15), .val (.int z27), .val (.ref b1), .val (.ref b146), .val (.ref b168), .val (.ref b192), .val (.ref b218), .val (.ref b246), .val (.ref b276), .val (.ref b377), .val g473, .unset] [(.ref kq475), (.ref b377)])) rfl (by rw [hml]; rfl) (Steps.refl _) (argsL := [(.ref kq475)]) (rest := []) (lenOf own_pd0_1 rfl) rfl (by show 2 * 0 + _ ≤ _; exact Nat.le_of_eq rfl) (hb hby at_294) (fun _ _ => ⟨rfl, e474, (by decide : 14 + 0 ≤ _), (by decide : 46 + 0 ≤ _)⟩))
    obtain ⟨g476, rfl, hg476, N476q, e476⟩ := hQ476
    obtain ⟨lc476, X476, N476⟩ := own_loc X476 (Fr.app N473 N476q)
    have Rg476 : own_R Z T458.heap g476 := by
      rw [hg476]
      exact own_lk_R _ _ (fun q hq => by
        simp only [List.mem_cons, List.not_mem_nil, or_false] at hq
        rcases hq with rfl | rfl
        · exact Fa460
        · exact Fa461)
    refine own_st (T' := T476) (g' := (mkF m 297 #[.val (.int p1), .val (.int p2), .val (.int p3), .val (.int p4), .val (.int (2 : Int32)), .val (.int z15), .val (.int z27), .val (.ref b1), .val (.ref b146), .val (.ref b168), .val (.ref b192), .val (.ref b218), .val (.ref b246), .val (.ref b276), .val (.ref b377), .val g473, .unset] [g476])) (fun _ k => (st476) _ k) ?_
    obtain ⟨T477, X477, e477, st477⟩ := own_castV X476 hx hZ hown (hw _ (List.mem_of_getElem? (i := 1) rfl)) e476 Rg476 (g := (mkF m 297 #[.val (.int p1), .val (.int p2), .val (.int p3), .val (.int p4), .val (.int (2 : Int32)), .val (.int z15), .val (.int z27), .val (.ref b1), .val (.ref b146), .val (.ref b168), .val (.ref b192), .val (.ref b218), .val (.ref b246), .val (.ref b276), .val (.ref b377), .val g473, .unset] [g476])) rfl rfl (hb hby at_297)
    refine own_st (T' := T477) (g' := (mkF m 300 #[.val (.int p1), .val (.int p2), .val (.int p3), .val (.int p4), .val (.int (2 : Int32)), .val (.int z15), .val (.int z27), .val (.ref b1), .val (.ref b146), .val (.ref b168), .val (.ref b192), .val (.ref b218), .val (.ref b246), .val (.ref b276), .val (.ref b377), .val g473, .unset] [g476])) (fun _ k => (st477) _ k) ?_
    refine own_st (T' := T477) (g' := (mkF m 302 #[.val (.int p1), .val (.int p2), .val (.int p3), .val (.int p4), .val (.int (2 : Int32)), .val (.int z15), .val (.int z27), .val (.ref b1), .val (.ref b146), .val (.ref b168), .val (.ref b192), .val (.ref b218), .val (.ref b246), .val (.ref b276), .val (.ref b377), .val g473, .val g476] [])) (fun _ k => Jvm.Free.XS.astore (g := (mkF m 300 #[.val (.int p1), .val (.int p2), .val (.int p3), .val (.int p4), .val (.int (2 : Int32)), .val (.int z15), .val (.int z27), .val (.ref b1), .val (.ref b146), .val (.ref b168), .val (.ref b192), .val (.ref b218), .val (.ref b246), .val (.ref b276), .val (.ref b377), .val g473, .unset] [g476])) X477.here hx rfl (hb hby at_300) rfl ((Rg476.rf)).isRef (l' := #[.val (.int p1), .val (.int p2), .val (.int p3), .val (.int p4), .val (.int (2 : Int32)), .val (.int z15), .val (.int z27), .val (.ref b1), .val (.ref b146), .val (.ref b168), .val (.ref b192), .val (.ref b218), .val (.ref b246), .val (.ref b276), .val (.ref b377), .val g473, .val g476]) (by rcases (Rg476.rf) with rfl | ⟨_, rfl⟩ <;> rfl) k) ?_
    refine own_st (T' := T477) (g' := (mkF m 304 #[.val (.int p1), .val (.int p2), .val (.int p3), .val (.int p4), .val (.int (2 : Int32)), .val (.int z15), .val (.int z27), .val (.ref b1), .val (.ref b146), .val (.ref b168), .val (.ref b192), .val (.ref b218), .val (.ref b246), .val (.ref b276), .val (.ref b377), .val g473, .val g476] [g473])) (fun _ k => Jvm.Free.XS.aload (g := (mkF m 302 #[.val (.int p1), .val (.int p2), .val (.int p3), .val (.int p4), .val (.int (2 : Int32)), .val (.int z15), .val (.int z27), .val (.ref b1), .val (.ref b146), .val (.ref b168), .val (.ref b192), .val (.ref b218), .val (.ref b246), .val (.ref b276), .val (.ref b377), .val g473, .val g476] [])) X477.here hx rfl (hb hby at_302) rfl ((Rg473.rf)).isRef k) ?_
    refine own_st (T' := T477) (g' := (mkF m 306 #[.val (.int p1), .val (.int p2), .val (.int p3), .val (.int p4), .val (.int (2 : Int32)), .val (.int z15), .val (.int z27), .val (.ref b1), .val (.ref b146), .val (.ref b168), .val (.ref b192), .val (.ref b218), .val (.ref b246), .val (.ref b276), .val (.ref b377), .val g473, .val g476] [(.int z15), g473])) (fun _ k => Jvm.Free.XS.iload (g := (mkF m 304 #[.val (.int p1), .val (.int p2), .val (.int p3), .val (.int p4), .val (.int (2 : Int32)), .val (.int z15), .val (.int z27), .val (.ref b1), .val (.ref b146), .val (.ref b168), .val (.ref b192), .val (.ref b218), .val (.ref b246), .val (.ref b276), .val (.ref b377), .val g473, .val g476] [g473])) X477.here hx rfl (hb hby at_304) rfl k) ?_
    refine own_st (T' := T477) (g' := (mkF m 308 #[.val (.int p1), .val (.int p2), .val (.int p3), .val (.int p4), .val (.int (2 : Int32)), .val (.int z15), .val (.int z27), .val (.ref b1), .val (.ref b146), .val (.ref b168), .val (.ref b192), .val (.ref b218), .val (.ref b246), .val (.ref b276), .val (.ref b377), .val g473, .val g476] [(.int (2 : Int32)), (.int z15), g473])) (fun _ k => Jvm.Free.XS.iload (g := (mkF m 306 #[.val (.int p1), .val (.int p2), .val (.int p3), .val (.int p4), .val (.int (2 : Int32)), .val (.int z15), .val (.int z27), .val (.ref b1), .val (.ref b146), .val (.ref b168), .val (.ref b192), .val (.ref b218), .val (.ref b246), .val (.ref b276), .val (.ref b377), .val g473, .val g476] [(.int z15), g473])) X477.here hx rfl (hb hby at_306) rfl k) ?_
    refine own_st (T' := T477) (g' := (mkF m 310 #[.val (.int p1), .val (.int p2), .val (.int p3), .val (.int p4), .val (.int (2 : Int32)), .val (.int z15), .val (.int z27), .val (.ref b1), .val (.ref b146), .val (.ref b168), .val (.ref b192), .val (.ref b218), .val (.ref b246), .val (.ref b276), .val (.ref b377), .val g473, .val g476] [(.ref b1), (.int (2 : Int32)), (.int z15), g473])) (fun _ k => Jvm.Free.XS.aload (g := (mkF m 308 #[.val (.int p1), .val (.int p2), .val (.int p3), .val (.int p4), .val (.int (2 : Int32)), .val (.int z15), .val (.int z27), .val (.ref b1), .val (.ref b146), .val (.ref b168), .val (.ref b192), .val (.ref b218), .val (.ref b246), .val (.ref b276), .val (.ref b377), .val g473, .val g476] [(.int (2 : Int32)), (.int z15), g473])) X477.here hx rfl (hb hby at_308) rfl rfl k) ?_
    obtain ⟨v478, T478, L478, X478, hQ478, st478⟩ := own_packS (Jvm.LawKit.callS X477 hx (y := (⟨"com/example/hollow_tree/hollowtree/query/IdentityTableGetPinLaw", "expect", "(II[[I)[I"⟩ : MethodName)) hown (mvT hZ (hw _ (List.mem_of_getElem? (i := 52) rfl))) (mvT hZ (hw _ (List.mem_of_getElem? (i := 53) rfl))) (mvT hZ (hw _ (List.mem_of_getElem? (i := 54) rfl))) (mvT hZ (hw _ (List.mem_of_getElem? (i := 55) rfl))) (by decide) (backOf (W := 1) (rm7 l Z a0 hw [] z15 (2 : Int32) b1 k1 r0 r1 r2 r3 T458.heap n0 Zs458 Fa464 (fun v hv => by
        simp only [List.mem_cons, List.not_mem_nil, or_false] at hv
        rcases hv with rfl | rfl | rfl | rfl
        · exact Fa460.rf
        · exact Fa461.rf
        · exact Fa462.rf
        · exact Fa463.rf) (own_qn _ _ hq1 (by decide))) hZ (hw _ (List.mem_of_getElem? (i := 55) rfl)) (hw _ (List.mem_of_getElem? (i := 54) rfl)) (by decide) (by decide)) (g := (mkF m 310 #[.val (.int p1), .val (.int p2), .val (.int p3), .val (.int p4), .val (.int (2 : Int32)), .val (.int z15), .val (.int z27), .val (.ref b1), .val (.ref b146), .val (.ref b168), .val (.ref b192), .val (.ref b218), .val (.ref b246), .val (.ref b276), .val (.ref b377), .val g473, .val g476] [(.ref b1), (.int (2 : Int32)), (.int z15), g473])) rfl (by rw [hml]; rfl) (argsL := [(.int z15), (.int (2 : Int32)), (.ref b1)]) (rest := [g473]) (lenOf own_pd0_2 rfl) rfl (by show 2 * 0 + _ ≤ _; simp [((Rg473.rf)).cat]) (hb hby at_310) (fun _ _ => ⟨rfl, e477, (by decide : 14 + 0 ≤ _), (by decide : 46 + 0 ≤ _)⟩))
    obtain ⟨x478, rfl, hx478, hrx478, N478q, e478⟩ := hQ478
    obtain ⟨lc478, X478, N478⟩ := own_loc X478 (Fr.app N476 N478q)
    refine own_st (T' := T478) (g' := (mkF m 313 #[.val (.int p1), .val (.int p2), .val (.int p3), .val (.int p4), .val (.int (2 : Int32)), .val (.int z15), .val (.int z27), .val (.ref b1), .val (.ref b146), .val (.ref b168), .val (.ref b192), .val (.ref b218), .val (.ref b246), .val (.ref b276), .val (.ref b377), .val g473, .val g476] [x478, g473])) (fun _ k => (st478) _ k) ?_
    have ac313 := fun t => Jvm.RoadKit.acmp (target := t) (e := e) (g := (mkF m 313 #[.val (.int p1), .val (.int p2), .val (.int p3), .val (.int p4), .val (.int (2 : Int32)), .val (.int z15), .val (.int z27), .val (.ref b1), .val (.ref b146), .val (.ref b168), .val (.ref b192), .val (.ref b218), .val (.ref b246), .val (.ref b276), .val (.ref b377), .val g473, .val g476] [x478, g473])) X478 hx rfl ((Rg473.rf)).isRef (hrx478).isRef (pc0 := 313) (pc' := 316) (same := true) rfl (hb hby at_313) rfl (decide_eq_true (hg473.trans ((show own_lk [(b146, r0), (b168, r1)] kq472 = own_ex z15 (2 : Int32) [r0, r1, r2, r3] from by rw [hkq472]; exact own_same2 z15 hq1 b146 b168 b192 b218 b246 r0 r1 r2 r3 ne_b146_b168 ne_b146_b192 ne_b146_b218 ne_b146_b246 ne_b168_b192 ne_b168_b218 ne_b168_b246 ne_b192_b218 ne_b192_b246 ne_b218_b246).trans hx478.symm))) (by decide) (by decide)
    refine own_st (T' := T478) (g' := (mkF m 316 #[.val (.int p1), .val (.int p2), .val (.int p3), .val (.int p4), .val (.int (2 : Int32)), .val (.int z15), .val (.int z27), .val (.ref b1), .val (.ref b146), .val (.ref b168), .val (.ref b192), .val (.ref b218), .val (.ref b246), .val (.ref b276), .val (.ref b377), .val g473, .val g476] [])) (fun _ k => (ac313) _ k) ?_
    refine own_st (T' := T478) (g' := (mkF m 318 #[.val (.int p1), .val (.int p2), .val (.int p3), .val (.int p4), .val (.int (2 : Int32)), .val (.int z15), .val (.int z27), .val (.ref b1), .val (.ref b146), .val (.ref b168), .val (.ref b192), .val (.ref b218), .val (.ref b246), .val (.ref b276), .val (.ref b377), .val g473, .val g476] [g476])) (fun _ k => Jvm.Free.XS.aload (g := (mkF m 316 #[.val (.int p1), .val (.int p2), .val (.int p3), .val (.int p4), .val (.int (2 : Int32)), .val (.int z15), .val (.int z27), .val (.ref b1), .val (.ref b146), .val (.ref b168), .val (.ref b192), .val (.ref b218), .val (.ref b246), .val (.ref b276), .val (.ref b377), .val g473, .val g476] [])) X478.here hx rfl (hb hby at_316) rfl ((Rg476.rf)).isRef k) ?_
    refine own_st (T' := T478) (g' := (mkF m 320 #[.val (.int p1), .val (.int p2), .val (.int p3), .val (.int p4), .val (.int (2 : Int32)), .val (.int z15), .val (.int z27), .val (.ref b1), .val (.ref b146), .val (.ref b168), .val (.ref b192), .val (.ref b218), .val (.ref b246), .val (.ref b276), .val (.ref b377), .val g473, .val g476] [(.int z27), g476])) (fun _ k => Jvm.Free.XS.iload (g := (mkF m 318 #[.val (.int p1), .val (.int p2), .val (.int p3), .val (.int p4), .val (.int (2 : Int32)), .val (.int z15), .val (.int z27), .val (.ref b1), .val (.ref b146), .val (.ref b168), .val (.ref b192), .val (.ref b218), .val (.ref b246), .val (.ref b276), .val (.ref b377), .val g473, .val g476] [g476])) X478.here hx rfl (hb hby at_318) rfl k) ?_
    refine own_st (T' := T478) (g' := (mkF m 322 #[.val (.int p1), .val (.int p2), .val (.int p3), .val (.int p4), .val (.int (2 : Int32)), .val (.int z15), .val (.int z27), .val (.ref b1), .val (.ref b146), .val (.ref b168), .val (.ref b192), .val (.ref b218), .val (.ref b246), .val (.ref b276), .val (.ref b377), .val g473, .val g476] [(.int (2 : Int32)), (.int z27), g476])) (fun _ k => Jvm.Free.XS.iload (g := (mkF m 320 #[.val (.int p1), .val (.int p2), .val (.int p3), .val (.int p4), .val (.int (2 : Int32)), .val (.int z15), .val (.int z27), .val (.ref b1), .val (.ref b146), .val (.ref b168), .val (.ref b192), .val (.ref b218), .val (.ref b246), .val (.ref b276), .val (.ref b377), .val g473, .val g476] [(.int z27), g476])) X478.here hx rfl (hb hby at_320) rfl k) ?_
    refine own_st (T' := T478) (g' := (mkF m 324 #[.val (.int p1), .val (.int p2), .val (.int p3), .val (.int p4), .val (.int (2 : Int32)), .val (.int z15), .val (.int z27), .val (.ref b1), .val (.ref b146), .val (.ref b168), .val (.ref b192), .val (.ref b218), .val (.ref b246), .val (.ref b276), .val (.ref b377), .val g473, .val g476] [(.ref b1), (.int (2 : Int32)), (.int z27), g476])) (fun _ k => Jvm.Free.XS.aload (g := (mkF m 322 #[.val (.int p1), .val (.int p2), .val (.int p3), .val (.int p4), .val (.int (2 : Int32)), .val (.int z15), .val (.int z27), .val (.ref b1), .val (.ref b146), .val (.ref b168), .val (.ref b192), .val (.ref b218), .val (.ref b246), .val (.ref b276), .val (.ref b377), .val g473, .val g476] [(.int (2 : Int32)), (.int z27), g476])) X478.here hx rfl (hb hby at_322) rfl rfl k) ?_
    obtain ⟨v479, T479, L479, X479, hQ479, st479⟩ := own_packS (Jvm.LawKit.callS X478 hx (y := (⟨"com/example/hollow_tree/hollowtree/query/IdentityTableGetPinLaw", "expect", "(II[[I)[I"⟩ : MethodName)) hown (mvT hZ (hw _ (List.mem_of_getElem? (i := 52) rfl))) (mvT hZ (hw _ (List.mem_of_getElem? (i := 53) rfl))) (mvT hZ (hw _ (List.mem_of_getElem? (i := 54) rfl))) (mvT hZ (hw _ (List.mem_of_getElem? (i := 55) rfl))) (by decide) (backOf (W := 1) (rm7 l Z a0 hw [] z27 (2 : Int32) b1 k1 r0 r1 r2 r3 T458.heap n0 Zs458 Fa464 (fun v hv => by
        simp only [List.mem_cons, List.not_mem_nil, or_false] at hv
        rcases hv with rfl | rfl | rfl | rfl
        · exact Fa460.rf
        · exact Fa461.rf
        · exact Fa462.rf
        · exact Fa463.rf) (own_qn _ _ hq2 (by decide))) hZ (hw _ (List.mem_of_getElem? (i := 55) rfl)) (hw _ (List.mem_of_getElem? (i := 54) rfl)) (by decide) (by decide)) (g := (mkF m 324 #[.val (.int p1), .val (.int p2), .val (.int p3), .val (.int p4), .val (.int (2 : Int32)), .val (.int z15), .val (.int z27), .val (.ref b1), .val (.ref b146), .val (.ref b168), .val (.ref b192), .val (.ref b218), .val (.ref b246), .val (.ref b276), .val (.ref b377), .val g473, .val g476] [(.ref b1), (.int (2 : Int32)), (.int z27), g476])) rfl (by rw [hml]; rfl) (argsL := [(.int z27), (.int (2 : Int32)), (.ref b1)]) (rest := [g476]) (lenOf own_pd0_2 rfl) rfl (by show 2 * 0 + _ ≤ _; simp [((Rg476.rf)).cat]) (hb hby at_324) (fun _ _ => ⟨rfl, e478, (by decide : 14 + 0 ≤ _), (by decide : 46 + 0 ≤ _)⟩))
    obtain ⟨x479, rfl, hx479, hrx479, N479q, e479⟩ := hQ479
    obtain ⟨lc479, X479, N479⟩ := own_loc X479 (Fr.app N478 N479q)
    refine own_st (T' := T479) (g' := (mkF m 327 #[.val (.int p1), .val (.int p2), .val (.int p3), .val (.int p4), .val (.int (2 : Int32)), .val (.int z15), .val (.int z27), .val (.ref b1), .val (.ref b146), .val (.ref b168), .val (.ref b192), .val (.ref b218), .val (.ref b246), .val (.ref b276), .val (.ref b377), .val g473, .val g476] [x479, g476])) (fun _ k => (st479) _ k) ?_
    have ac327 := fun t => Jvm.RoadKit.acmp (target := t) (e := e) (g := (mkF m 327 #[.val (.int p1), .val (.int p2), .val (.int p3), .val (.int p4), .val (.int (2 : Int32)), .val (.int z15), .val (.int z27), .val (.ref b1), .val (.ref b146), .val (.ref b168), .val (.ref b192), .val (.ref b218), .val (.ref b246), .val (.ref b276), .val (.ref b377), .val g473, .val g476] [x479, g476])) X479 hx rfl ((Rg476.rf)).isRef (hrx479).isRef (pc0 := 327) (pc' := 330) (same := true) rfl (hb hby at_327) rfl (decide_eq_true (hg476.trans ((show own_lk [(b146, r0), (b168, r1)] kq475 = own_ex z27 (2 : Int32) [r0, r1, r2, r3] from by rw [hkq475]; exact own_same2 z27 hq2 b146 b168 b192 b218 b246 r0 r1 r2 r3 ne_b146_b168 ne_b146_b192 ne_b146_b218 ne_b146_b246 ne_b168_b192 ne_b168_b218 ne_b168_b246 ne_b192_b218 ne_b192_b246 ne_b218_b246).trans hx479.symm))) (by decide) (by decide)
    refine own_st (T' := T479) (g' := (mkF m 330 #[.val (.int p1), .val (.int p2), .val (.int p3), .val (.int p4), .val (.int (2 : Int32)), .val (.int z15), .val (.int z27), .val (.ref b1), .val (.ref b146), .val (.ref b168), .val (.ref b192), .val (.ref b218), .val (.ref b246), .val (.ref b276), .val (.ref b377), .val g473, .val g476] [])) (fun _ k => (ac327) _ k) ?_
    refine own_st (T' := T479) (g' := (mkF m 331 #[.val (.int p1), .val (.int p2), .val (.int p3), .val (.int p4), .val (.int (2 : Int32)), .val (.int z15), .val (.int z27), .val (.ref b1), .val (.ref b146), .val (.ref b168), .val (.ref b192), .val (.ref b218), .val (.ref b246), .val (.ref b276), .val (.ref b377), .val g473, .val g476] [(.int (1 : Int32))])) (fun _ k => XS.iconst (g := (mkF m 330 #[.val (.int p1), .val (.int p2), .val (.int p3), .val (.int p4), .val (.int (2 : Int32)), .val (.int z15), .val (.int z27), .val (.ref b1), .val (.ref b146), .val (.ref b168), .val (.ref b192), .val (.ref b218), .val (.ref b246), .val (.ref b276), .val (.ref b377), .val g473, .val g476] [])) X479.here hx rfl (hb hby at_330) k) ?_
    refine own_st (T' := T479) (g' := (mkF m 335 #[.val (.int p1), .val (.int p2), .val (.int p3), .val (.int p4), .val (.int (2 : Int32)), .val (.int z15), .val (.int z27), .val (.ref b1), .val (.ref b146), .val (.ref b168), .val (.ref b192), .val (.ref b218), .val (.ref b246), .val (.ref b276), .val (.ref b377), .val g473, .val g476] [(.int (1 : Int32))])) (fun _ k => XS.goto (g := (mkF m 331 #[.val (.int p1), .val (.int p2), .val (.int p3), .val (.int p4), .val (.int (2 : Int32)), .val (.int z15), .val (.int z27), .val (.ref b1), .val (.ref b146), .val (.ref b168), .val (.ref b192), .val (.ref b218), .val (.ref b246), .val (.ref b276), .val (.ref b377), .val g473, .val g476] [(.int (1 : Int32))])) X479.here hx rfl (pc0 := 331) (pc' := 335) rfl (hb hby at_331) (by decide) (by decide) k) ?_
    exact own_end (Q := Q0 Z p1 p2 p3 p4 h0 n0) (v := some (.int (nar .boolean (1 : Int32)))) X479 (fun h => by rw [Bd.returns] at h; cases h) (fun fs hr => retN X479 hx (t := .boolean) Bd.returns (by simp) (hb hby at_335) hr) (⟨rfl, N479⟩) (by decide) (by decide)
  · refine own_st (T' := T394) (g' := (mkF m 207 #[.val (.int p1), .val (.int p2), .val (.int p3), .val (.int p4), .val (.int (3 : Int32)), .val (.int z15), .val (.int z27), .val (.ref b1), .val (.ref b146), .val (.ref b168), .val (.ref b192), .val (.ref b218), .val (.ref b246), .val (.ref b276), .val (.ref b377), .unset, .unset] [(.int (3 : Int32))])) (fun _ k => Jvm.Free.XS.iload (g := (mkF m 205 #[.val (.int p1), .val (.int p2), .val (.int p3), .val (.int p4), .val (.int (3 : Int32)), .val (.int z15), .val (.int z27), .val (.ref b1), .val (.ref b146), .val (.ref b168), .val (.ref b192), .val (.ref b218), .val (.ref b246), .val (.ref b276), .val (.ref b377), .unset, .unset] [])) X394.here hx rfl (hb hby at_205) rfl k) ?_
    refine own_st (T' := T394) (g' := (mkF m 210 #[.val (.int p1), .val (.int p2), .val (.int p3), .val (.int p4), .val (.int (3 : Int32)), .val (.int z15), .val (.int z27), .val (.ref b1), .val (.ref b146), .val (.ref b168), .val (.ref b192), .val (.ref b218), .val (.ref b246), .val (.ref b276), .val (.ref b377), .unset, .unset] [])) (fun _ k => XS.ifNo (g := (mkF m 207 #[.val (.int p1), .val (.int p2), .val (.int p3), .val (.int p4), .val (.int (3 : Int32)), .val (.int z15), .val (.int z27), .val (.ref b1), .val (.ref b146), .val (.ref b168), .val (.ref b192), .val (.ref b218), .val (.ref b246), .val (.ref b276), .val (.ref b377), .unset, .unset] [(.int (3 : Int32))])) X394.here hx rfl (hb hby at_207) rfl ((if0 _ _).trans (tlt (by decide : (0 : Int32) < (3 : Int32))).2.2.2) k) ?_
    refine own_st (T' := T394) (g' := (mkF m 212 #[.val (.int p1), .val (.int p2), .val (.int p3), .val (.int p4), .val (.int (3 : Int32)), .val (.int z15), .val (.int z27), .val (.ref b1), .val (.ref b146), .val (.ref b168), .val (.ref b192), .val (.ref b218), .val (.ref b246), .val (.ref b276), .val (.ref b377), .unset, .unset] [(.ref b377)])) (fun _ k => Jvm.Free.XS.aload (g := (mkF m 210 #[.val (.int p1), .val (.int p2), .val (.int p3), .val (.int p4), .val (.int (3 : Int32)), .val (.int z15), .val (.int z27), .val (.ref b1), .val (.ref b146), .val (.ref b168), .val (.ref b192), .val (.ref b218), .val (.ref b246), .val (.ref b276), .val (.ref b377), .unset, .unset] [])) X394.here hx rfl (hb hby at_210) rfl rfl k) ?_
    refine own_st (T' := T394) (g' := (mkF m 214 #[.val (.int p1), .val (.int p2), .val (.int p3), .val (.int p4), .val (.int (3 : Int32)), .val (.int z15), .val (.int z27), .val (.ref b1), .val (.ref b146), .val (.ref b168), .val (.ref b192), .val (.ref b218), .val (.ref b246), .val (.ref b276), .val (.ref b377), .unset, .unset] [(.ref b146), (.ref b377)])) (fun _ k => Jvm.Free.XS.aload (g := (mkF m 212 #[.val (.int p1), .val (.int p2), .val (.int p3), .val (.int p4), .val (.int (3 : Int32)), .val (.int z15), .val (.int z27), .val (.ref b1), .val (.ref b146), .val (.ref b168), .val (.ref b192), .val (.ref b218), .val (.ref b246), .val (.ref b276), .val (.ref b377), .unset, .unset] [(.ref b377)])) X394.here hx rfl (hb hby at_212) rfl rfl k) ?_
    refine own_st (T' := T394) (g' := (mkF m 216 #[.val (.int p1), .val (.int p2), .val (.int p3), .val (.int p4), .val (.int (3 : Int32)), .val (.int z15), .val (.int z27), .val (.ref b1), .val (.ref b146), .val (.ref b168), .val (.ref b192), .val (.ref b218), .val (.ref b246), .val (.ref b276), .val (.ref b377), .unset, .unset] [(.ref b1), (.ref b146), (.ref b377)])) (fun _ k => Jvm.Free.XS.aload (g := (mkF m 214 #[.val (.int p1), .val (.int p2), .val (.int p3), .val (.int p4), .val (.int (3 : Int32)), .val (.int z15), .val (.int z27), .val (.ref b1), .val (.ref b146), .val (.ref b168), .val (.ref b192), .val (.ref b218), .val (.ref b246), .val (.ref b276), .val (.ref b377), .unset, .unset] [(.ref b146), (.ref b377)])) X394.here hx rfl (hb hby at_214) rfl rfl k) ?_
    refine own_st (T' := T394) (g' := (mkF m 217 #[.val (.int p1), .val (.int p2), .val (.int p3), .val (.int p4), .val (.int (3 : Int32)), .val (.int z15), .val (.int z27), .val (.ref b1), .val (.ref b146), .val (.ref b168), .val (.ref b192), .val (.ref b218), .val (.ref b246), .val (.ref b276), .val (.ref b377), .unset, .unset] [(.int (0 : Int32)), (.ref b1), (.ref b146), (.ref b377)])) (fun _ k => XS.iconst (g := (mkF m 216 #[.val (.int p1), .val (.int p2), .val (.int p3), .val (.int p4), .val (.int (3 : Int32)), .val (.int z15), .val (.int z27), .val (.ref b1), .val (.ref b146), .val (.ref b168), .val (.ref b192), .val (.ref b218), .val (.ref b246), .val (.ref b276), .val (.ref b377), .unset, .unset] [(.ref b1), (.ref b146), (.ref b377)])) X394.here hx rfl (hb hby at_216) k) ?_
    obtain ⟨cl480, Ar480, -, Sz480, Nn480, Hs480, Gs480⟩ := id Fa403
    have hin480 : ¬ ((0 : Int32) < 0 ∨ cl480.slots.size ≤ ((0 : Int32)).toNatClampNeg) := inb_of Sz480 ⟨by decide, by decide⟩
    have hat480 : cl480.slots[((0 : Int32)).toNatClampNeg]? = some r0 := Has.at Hs480 hin480 rfl
    refine own_st (T' := T394) (g' := (mkF m 218 #[.val (.int p1), .val (.int p2), .val (.int p3), .val (.int p4), .val (.int (3 : Int32)), .val (.int z15), .val (.int z27), .val (.ref b1), .val (.ref b146), .val (.ref b168), .val (.ref b192), .val (.ref b218), .val (.ref b246), .val (.ref b276), .val (.ref b377), .unset, .unset] [r0, (.ref b146), (.ref b377)])) (fun _ k => (X394.aaload hx (j := (0 : Int32)) (v := r0) Ar480.1 (State.isArrayOf_alike hZ.alike Ar480.2.1) rfl Ar480.2.2 hin480 hat480 (g := (mkF m 217 #[.val (.int p1), .val (.int p2), .val (.int p3), .val (.int p4), .val (.int (3 : Int32)), .val (.int z15), .val (.int z27), .val (.ref b1), .val (.ref b146), .val (.ref b168), .val (.ref b192), .val (.ref b218), .val (.ref b246), .val (.ref b276), .val (.ref b377), .unset, .unset] [(.int (0 : Int32)), (.ref b1), (.ref b146), (.ref b377)])) rfl rfl (hb hby at_217)) _ k) ?_
    obtain ⟨cq481, kq481, q481a, q481b, q481c⟩ := isOf hZ rfl Fq394_0
    obtain ⟨v481, T481, L481, X481, hQ481, st481⟩ := own_packV (X394.virtualBack hx (y := (⟨"com/example/hollow_tree/hollowtree/query/IdentityTable", "put", "(Ljava/lang/Object;Ljava/lang/Object;)V"⟩ : MethodName)) (z := (⟨"com/example/hollow_tree/hollowtree/query/IdentityTable", "put", "(Ljava/lang/Object;Ljava/lang/Object;)V"⟩ : MethodName)) hown (mvT hZ (hw _ (List.mem_of_getElem? (i := 56) rfl))) (mvT hZ (hw _ (List.mem_of_getElem? (i := 57) rfl))) (notFace_of_selects (args := #[]) (mvT hZ (hw _ (List.mem_of_getElem? (i := 59) rfl)))) (mvT hZ (hw _ (List.mem_of_getElem? (i := 59) rfl))) (mvT hZ (hw _ (List.mem_of_getElem? (i := 58) rfl))) (by decide) (backOf (W := 0) (rm8_0 l Z a0 hw [] b377 b146 r0 (Fa399.rf) no kN mr  T394.heap n0 Zs394 Fq394_0 Fq394_1 Fq394_2 Fa396 Fa397 (Or.inr ⟨b146, rfl, Ins.of_exa Fa404 (hw _ (List.mem_of_getElem? (i := 33) rfl))⟩) (Fa399.o (hw _ (List.mem_of_getElem? (i := 87) rfl))) gn_b377 Mm (Ne.symm ne_no_b377)) hZ (hw _ (List.mem_of_getElem? (i := 60) rfl)) (hw _ (List.mem_of_getElem? (i := 36) rfl)) (by decide) (by decide)) q481a q481c (g := (mkF m 218 #[.val (.int p1), .val (.int p2), .val (.int p3), .val (.int p4), .val (.int (3 : Int32)), .val (.int z15), .val (.int z27), .val (.ref b1), .val (.ref b146), .val (.ref b168), .val (.ref b192), .val (.ref b218), .val (.ref b246), .val (.ref b276), .val (.ref b377), .unset, .unset] [r0, (.ref b146), (.ref b377)])) rfl (by rw [hml]; rfl) (Steps.refl _) (argsL := [(.ref b146), r0]) (rest := []) (lenOf own_pd0_3 rfl) rfl (by show 2 * 0 + _ ≤ _; exact Nat.le_of_eq rfl) (hb hby at_218) (fun _ _ => ⟨rfl, rfl, (by decide : 12 + 1 ≤ _), (by decide : 30 + 8 ≤ _)⟩))
    obtain ⟨rfl, N481q, Kq481, Eq481, t481, kt481, hsz481, Fe481, Fs481, Vq481, Xq481, Oq481⟩ := hQ481
    obtain ⟨lc481, X481, N481⟩ := own_loc X481 (Fr.app N394 N481q)
    have ne_no_t481 : no ≠ t481 := Nat.ne_of_lt (Nat.lt_of_lt_of_le Fa396.lt hsz481)
    have ne_b1_t481 : b1 ≠ t481 := Nat.ne_of_lt (Nat.lt_of_lt_of_le Fa398.lt hsz481)
    have ne_b146_t481 : b146 ≠ t481 := Nat.ne_of_lt (Nat.lt_of_lt_of_le Fa404.lt hsz481)
    have ne_b168_t481 : b168 ≠ t481 := Nat.ne_of_lt (Nat.lt_of_lt_of_le Fa405.lt hsz481)
    have ne_b192_t481 : b192 ≠ t481 := Nat.ne_of_lt (Nat.lt_of_lt_of_le Fa406.lt hsz481)
    have ne_b218_t481 : b218 ≠ t481 := Nat.ne_of_lt (Nat.lt_of_lt_of_le Fa407.lt hsz481)
    have ne_b246_t481 : b246 ≠ t481 := Nat.ne_of_lt (Nat.lt_of_lt_of_le Fa408.lt hsz481)
    have ne_b276_t481 : b276 ≠ t481 := Nat.ne_of_lt (Nat.lt_of_lt_of_le Fa409.lt hsz481)
    have ne_b377_t481 : b377 ≠ t481 := Nat.ne_of_lt (Nat.lt_of_lt_of_le Fq394_0.lt hsz481)
    have gn_t481 : n0 ≤ t481 := Nat.le_trans Zs394 hsz481
    have Zs481 : n0 ≤ T481.heap.size := Nat.le_trans Zs394 Kq481.1
    have Fa482 : Exa Z T481.heap b1 "[[I" := Fa398.keep Kq481
    have Fa483 : own_R Z T481.heap r0 := Fa399.keep Kq481
    have Fa484 : own_R Z T481.heap r1 := Fa400.keep Kq481
    have Fa485 : own_R Z T481.heap r2 := Fa401.keep Kq481
    have Fa486 : own_R Z T481.heap r3 := Fa402.keep Kq481
    have Fa487 : Arv Z T481.heap b1 k1 (.array .int) (4 : Int32) [r0, r1, r2, r3] .null := Fa403.keep Kq481 (ninS ne_b1_b377 nin0)
    have Fa488 : Exa Z T481.heap b146 "java/util/ArrayList" := Fa404.keep Kq481
    have Fa489 : Exa Z T481.heap b168 "java/util/ArrayList" := Fa405.keep Kq481
    have Fa490 : Exa Z T481.heap b192 "java/util/ArrayList" := Fa406.keep Kq481
    have Fa491 : Exa Z T481.heap b218 "java/util/ArrayList" := Fa407.keep Kq481
    have Fa492 : Exa Z T481.heap b246 "java/util/ArrayList" := Fa408.keep Kq481
    have Fa493 : Exa Z T481.heap b276 "[Ljava/lang/Object;" := Fa409.keep Kq481
    have Fa494 : Arv Z T481.heap b276 k276 (.object "java/lang/Object") (5 : Int32) [(.ref b146), (.ref b168), (.ref b192), (.ref b218), (.ref b246)] .null := Fa410.keep Kq481 (ninS ne_b276_b377 nin0)
    refine own_st (T' := T481) (g' := (mkF m 221 #[.val (.int p1), .val (.int p2), .val (.int p3), .val (.int p4), .val (.int (3 : Int32)), .val (.int z15), .val (.int z27), .val (.ref b1), .val (.ref b146), .val (.ref b168), .val (.ref b192), .val (.ref b218), .val (.ref b246), .val (.ref b276), .val (.ref b377), .unset, .unset] [])) (fun _ k => (st481) _ k) ?_
    refine own_st (T' := T481) (g' := (mkF m 223 #[.val (.int p1), .val (.int p2), .val (.int p3), .val (.int p4), .val (.int (3 : Int32)), .val (.int z15), .val (.int z27), .val (.ref b1), .val (.ref b146), .val (.ref b168), .val (.ref b192), .val (.ref b218), .val (.ref b246), .val (.ref b276), .val (.ref b377), .unset, .unset] [(.int (3 : Int32))])) (fun _ k => Jvm.Free.XS.iload (g := (mkF m 221 #[.val (.int p1), .val (.int p2), .val (.int p3), .val (.int p4), .val (.int (3 : Int32)), .val (.int z15), .val (.int z27), .val (.ref b1), .val (.ref b146), .val (.ref b168), .val (.ref b192), .val (.ref b218), .val (.ref b246), .val (.ref b276), .val (.ref b377), .unset, .unset] [])) X481.here hx rfl (hb hby at_221) rfl k) ?_
    refine own_st (T' := T481) (g' := (mkF m 224 #[.val (.int p1), .val (.int p2), .val (.int p3), .val (.int p4), .val (.int (3 : Int32)), .val (.int z15), .val (.int z27), .val (.ref b1), .val (.ref b146), .val (.ref b168), .val (.ref b192), .val (.ref b218), .val (.ref b246), .val (.ref b276), .val (.ref b377), .unset, .unset] [(.int (1 : Int32)), (.int (3 : Int32))])) (fun _ k => XS.iconst (g := (mkF m 223 #[.val (.int p1), .val (.int p2), .val (.int p3), .val (.int p4), .val (.int (3 : Int32)), .val (.int z15), .val (.int z27), .val (.ref b1), .val (.ref b146), .val (.ref b168), .val (.ref b192), .val (.ref b218), .val (.ref b246), .val (.ref b276), .val (.ref b377), .unset, .unset] [(.int (3 : Int32))])) X481.here hx rfl (hb hby at_223) k) ?_
    refine own_st (T' := T481) (g' := (mkF m 227 #[.val (.int p1), .val (.int p2), .val (.int p3), .val (.int p4), .val (.int (3 : Int32)), .val (.int z15), .val (.int z27), .val (.ref b1), .val (.ref b146), .val (.ref b168), .val (.ref b192), .val (.ref b218), .val (.ref b246), .val (.ref b276), .val (.ref b377), .unset, .unset] [])) (fun _ k => XS.icmpNo (g := (mkF m 224 #[.val (.int p1), .val (.int p2), .val (.int p3), .val (.int p4), .val (.int (3 : Int32)), .val (.int z15), .val (.int z27), .val (.ref b1), .val (.ref b146), .val (.ref b168), .val (.ref b192), .val (.ref b218), .val (.ref b246), .val (.ref b276), .val (.ref b377), .unset, .unset] [(.int (1 : Int32)), (.int (3 : Int32))])) X481.here hx rfl (hb hby at_224) rfl (tlt (by decide : (1 : Int32) < (3 : Int32))).2.2.2 k) ?_
    refine own_st (T' := T481) (g' := (mkF m 229 #[.val (.int p1), .val (.int p2), .val (.int p3), .val (.int p4), .val (.int (3 : Int32)), .val (.int z15), .val (.int z27), .val (.ref b1), .val (.ref b146), .val (.ref b168), .val (.ref b192), .val (.ref b218), .val (.ref b246), .val (.ref b276), .val (.ref b377), .unset, .unset] [(.ref b377)])) (fun _ k => Jvm.Free.XS.aload (g := (mkF m 227 #[.val (.int p1), .val (.int p2), .val (.int p3), .val (.int p4), .val (.int (3 : Int32)), .val (.int z15), .val (.int z27), .val (.ref b1), .val (.ref b146), .val (.ref b168), .val (.ref b192), .val (.ref b218), .val (.ref b246), .val (.ref b276), .val (.ref b377), .unset, .unset] [])) X481.here hx rfl (hb hby at_227) rfl rfl k) ?_
    refine own_st (T' := T481) (g' := (mkF m 231 #[.val (.int p1), .val (.int p2), .val (.int p3), .val (.int p4), .val (.int (3 : Int32)), .val (.int z15), .val (.int z27), .val (.ref b1), .val (.ref b146), .val (.ref b168), .val (.ref b192), .val (.ref b218), .val (.ref b246), .val (.ref b276), .val (.ref b377), .unset, .unset] [(.ref b168), (.ref b377)])) (fun _ k => Jvm.Free.XS.aload (g := (mkF m 229 #[.val (.int p1), .val (.int p2), .val (.int p3), .val (.int p4), .val (.int (3 : Int32)), .val (.int z15), .val (.int z27), .val (.ref b1), .val (.ref b146), .val (.ref b168), .val (.ref b192), .val (.ref b218), .val (.ref b246), .val (.ref b276), .val (.ref b377), .unset, .unset] [(.ref b377)])) X481.here hx rfl (hb hby at_229) rfl rfl k) ?_
    refine own_st (T' := T481) (g' := (mkF m 233 #[.val (.int p1), .val (.int p2), .val (.int p3), .val (.int p4), .val (.int (3 : Int32)), .val (.int z15), .val (.int z27), .val (.ref b1), .val (.ref b146), .val (.ref b168), .val (.ref b192), .val (.ref b218), .val (.ref b246), .val (.ref b276), .val (.ref b377), .unset, .unset] [(.ref b1), (.ref b168), (.ref b377)])) (fun _ k => Jvm.Free.XS.aload (g := (mkF m 231 #[.val (.int p1), .val (.int p2), .val (.int p3), .val (.int p4), .val (.int (3 : Int32)), .val (.int z15), .val (.int z27), .val (.ref b1), .val (.ref b146), .val (.ref b168), .val (.ref b192), .val (.ref b218), .val (.ref b246), .val (.ref b276), .val (.ref b377), .unset, .unset] [(.ref b168), (.ref b377)])) X481.here hx rfl (hb hby at_231) rfl rfl k) ?_
    refine own_st (T' := T481) (g' := (mkF m 234 #[.val (.int p1), .val (.int p2), .val (.int p3), .val (.int p4), .val (.int (3 : Int32)), .val (.int z15), .val (.int z27), .val (.ref b1), .val (.ref b146), .val (.ref b168), .val (.ref b192), .val (.ref b218), .val (.ref b246), .val (.ref b276), .val (.ref b377), .unset, .unset] [(.int (1 : Int32)), (.ref b1), (.ref b168), (.ref b377)])) (fun _ k => XS.iconst (g := (mkF m 233 #[.val (.int p1), .val (.int p2), .val (.int p3), .val (.int p4), .val (.int (3 : Int32)), .val (.int z15), .val (.int z27), .val (.ref b1), .val (.ref b146), .val (.ref b168), .val (.ref b192), .val (.ref b218), .val (.ref b246), .val (.ref b276), .val (.ref b377), .unset, .unset] [(.ref b1), (.ref b168), (.ref b377)])) X481.here hx rfl (hb hby at_233) k) ?_
    obtain ⟨cl495, Ar495, -, Sz495, Nn495, Hs495, Gs495⟩ := id Fa487
    have hin495 : ¬ ((1 : Int32) < 0 ∨ cl495.slots.size ≤ ((1 : Int32)).toNatClampNeg) := inb_of Sz495 ⟨by decide, by decide⟩
    have hat495 : cl495.slots[((1 : Int32)).toNatClampNeg]? = some r1 := Has.at Hs495 hin495 rfl
    refine own_st (T' := T481) (g' := (mkF m 235 #[.val (.int p1), .val (.int p2), .val (.int p3), .val (.int p4), .val (.int (3 : Int32)), .val (.int z15), .val (.int z27), .val (.ref b1), .val (.ref b146), .val (.ref b168), .val (.ref b192), .val (.ref b218), .val (.ref b246), .val (.ref b276), .val (.ref b377), .unset, .unset] [r1, (.ref b168), (.ref b377)])) (fun _ k => (X481.aaload hx (j := (1 : Int32)) (v := r1) Ar495.1 (State.isArrayOf_alike hZ.alike Ar495.2.1) rfl Ar495.2.2 hin495 hat495 (g := (mkF m 234 #[.val (.int p1), .val (.int p2), .val (.int p3), .val (.int p4), .val (.int (3 : Int32)), .val (.int z15), .val (.int z27), .val (.ref b1), .val (.ref b146), .val (.ref b168), .val (.ref b192), .val (.ref b218), .val (.ref b246), .val (.ref b276), .val (.ref b377), .unset, .unset] [(.int (1 : Int32)), (.ref b1), (.ref b168), (.ref b377)])) rfl rfl (hb hby at_234)) _ k) ?_
    obtain ⟨cq496, kq496, q496a, q496b, q496c⟩ := isOf hZ rfl Eq481
    obtain ⟨v496, T496, L496, X496, hQ496, st496⟩ := own_packV (X481.virtualBack hx (y := (⟨"com/example/hollow_tree/hollowtree/query/IdentityTable", "put", "(Ljava/lang/Object;Ljava/lang/Object;)V"⟩ : MethodName)) (z := (⟨"com/example/hollow_tree/hollowtree/query/IdentityTable", "put", "(Ljava/lang/Object;Ljava/lang/Object;)V"⟩ : MethodName)) hown (mvT hZ (hw _ (List.mem_of_getElem? (i := 56) rfl))) (mvT hZ (hw _ (List.mem_of_getElem? (i := 57) rfl))) (notFace_of_selects (args := #[]) (mvT hZ (hw _ (List.mem_of_getElem? (i := 59) rfl)))) (mvT hZ (hw _ (List.mem_of_getElem? (i := 59) rfl))) (mvT hZ (hw _ (List.mem_of_getElem? (i := 58) rfl))) (by decide) (backOf (W := 0) (rm8_1 l Z a0 hw [] b377 b168 r1 (Fa484.rf) t481 kt481 mr (.ref b146) r0 T481.heap n0 Zs481 Eq481 Fe481 Fs481 Vq481 Xq481 (Or.inr ⟨b146, rfl, Ins.of_exa Fa488 (hw _ (List.mem_of_getElem? (i := 33) rfl))⟩) (Fa483.o (hw _ (List.mem_of_getElem? (i := 87) rfl))) (Or.inr ⟨b168, rfl, Ins.of_exa Fa489 (hw _ (List.mem_of_getElem? (i := 33) rfl))⟩) (Fa484.o (hw _ (List.mem_of_getElem? (i := 87) rfl))) gn_b377 Mm ne_b377_t481) hZ (hw _ (List.mem_of_getElem? (i := 60) rfl)) (hw _ (List.mem_of_getElem? (i := 36) rfl)) (by decide) (by decide)) q496a q496c (g := (mkF m 235 #[.val (.int p1), .val (.int p2), .val (.int p3), .val (.int p4), .val (.int (3 : Int32)), .val (.int z15), .val (.int z27), .val (.ref b1), .val (.ref b146), .val (.ref b168), .val (.ref b192), .val (.ref b218), .val (.ref b246), .val (.ref b276), .val (.ref b377), .unset, .unset] [r1, (.ref b168), (.ref b377)])) rfl (by rw [hml]; rfl) (Steps.refl _) (argsL := [(.ref b168), r1]) (rest := []) (lenOf own_pd0_3 rfl) rfl (by show 2 * 0 + _ ≤ _; exact Nat.le_of_eq rfl) (hb hby at_235) (fun _ _ => ⟨rfl, rfl, (by decide : 13 + 1 ≤ _), (by decide : 38 + 8 ≤ _)⟩))
    obtain ⟨rfl, N496q, Kq496, Eq496, t496, kt496, hsz496, Fe496, Fs496, Vq496, Xq496, Oq496⟩ := hQ496
    obtain ⟨lc496, X496, N496⟩ := own_loc X496 (Fr.app N481 N496q)
    have ne_b1_t496 : b1 ≠ t496 := Nat.ne_of_lt (Nat.lt_of_lt_of_le Fa482.lt hsz496)
    have ne_b146_t496 : b146 ≠ t496 := Nat.ne_of_lt (Nat.lt_of_lt_of_le Fa488.lt hsz496)
    have ne_b168_t496 : b168 ≠ t496 := Nat.ne_of_lt (Nat.lt_of_lt_of_le Fa489.lt hsz496)
    have ne_b192_t496 : b192 ≠ t496 := Nat.ne_of_lt (Nat.lt_of_lt_of_le Fa490.lt hsz496)
    have ne_b218_t496 : b218 ≠ t496 := Nat.ne_of_lt (Nat.lt_of_lt_of_le Fa491.lt hsz496)
    have ne_b246_t496 : b246 ≠ t496 := Nat.ne_of_lt (Nat.lt_of_lt_of_le Fa492.lt hsz496)
    have ne_b276_t496 : b276 ≠ t496 := Nat.ne_of_lt (Nat.lt_of_lt_of_le Fa493.lt hsz496)
    have ne_b377_t496 : b377 ≠ t496 := Nat.ne_of_lt (Nat.lt_of_lt_of_le Eq481.lt hsz496)
    have ne_t481_t496 : t481 ≠ t496 := Nat.ne_of_lt (Nat.lt_of_lt_of_le Vq481.lt hsz496)
    have gn_t496 : n0 ≤ t496 := Nat.le_trans Zs481 hsz496
    have Zs496 : n0 ≤ T496.heap.size := Nat.le_trans Zs481 Kq496.1
    have Fa497 : Exa Z T496.heap b1 "[[I" := Fa482.keep Kq496
    have Fa498 : own_R Z T496.heap r0 := Fa483.keep Kq496
    have Fa499 : own_R Z T496.heap r1 := Fa484.keep Kq496
    have Fa500 : own_R Z T496.heap r2 := Fa485.keep Kq496
    have Fa501 : own_R Z T496.heap r3 := Fa486.keep Kq496
    have Fa502 : Arv Z T496.heap b1 k1 (.array .int) (4 : Int32) [r0, r1, r2, r3] .null := Fa487.keep Kq496 (ninS ne_b1_b377 nin0)
    have Fa503 : Exa Z T496.heap b146 "java/util/ArrayList" := Fa488.keep Kq496
    have Fa504 : Exa Z T496.heap b168 "java/util/ArrayList" := Fa489.keep Kq496
    have Fa505 : Exa Z T496.heap b192 "java/util/ArrayList" := Fa490.keep Kq496
    have Fa506 : Exa Z T496.heap b218 "java/util/ArrayList" := Fa491.keep Kq496
    have Fa507 : Exa Z T496.heap b246 "java/util/ArrayList" := Fa492.keep Kq496
    have Fa508 : Exa Z T496.heap b276 "[Ljava/lang/Object;" := Fa493.keep Kq496
    have Fa509 : Arv Z T496.heap b276 k276 (.object "java/lang/Object") (5 : Int32) [(.ref b146), (.ref b168), (.ref b192), (.ref b218), (.ref b246)] .null := Fa494.keep Kq496 (ninS ne_b276_b377 nin0)
    refine own_st (T' := T496) (g' := (mkF m 238 #[.val (.int p1), .val (.int p2), .val (.int p3), .val (.int p4), .val (.int (3 : Int32)), .val (.int z15), .val (.int z27), .val (.ref b1), .val (.ref b146), .val (.ref b168), .val (.ref b192), .val (.ref b218), .val (.ref b246), .val (.ref b276), .val (.ref b377), .unset, .unset] [])) (fun _ k => (st496) _ k) ?_
    refine own_st (T' := T496) (g' := (mkF m 240 #[.val (.int p1), .val (.int p2), .val (.int p3), .val (.int p4), .val (.int (3 : Int32)), .val (.int z15), .val (.int z27), .val (.ref b1), .val (.ref b146), .val (.ref b168), .val (.ref b192), .val (.ref b218), .val (.ref b246), .val (.ref b276), .val (.ref b377), .unset, .unset] [(.int (3 : Int32))])) (fun _ k => Jvm.Free.XS.iload (g := (mkF m 238 #[.val (.int p1), .val (.int p2), .val (.int p3), .val (.int p4), .val (.int (3 : Int32)), .val (.int z15), .val (.int z27), .val (.ref b1), .val (.ref b146), .val (.ref b168), .val (.ref b192), .val (.ref b218), .val (.ref b246), .val (.ref b276), .val (.ref b377), .unset, .unset] [])) X496.here hx rfl (hb hby at_238) rfl k) ?_
    refine own_st (T' := T496) (g' := (mkF m 241 #[.val (.int p1), .val (.int p2), .val (.int p3), .val (.int p4), .val (.int (3 : Int32)), .val (.int z15), .val (.int z27), .val (.ref b1), .val (.ref b146), .val (.ref b168), .val (.ref b192), .val (.ref b218), .val (.ref b246), .val (.ref b276), .val (.ref b377), .unset, .unset] [(.int (2 : Int32)), (.int (3 : Int32))])) (fun _ k => XS.iconst (g := (mkF m 240 #[.val (.int p1), .val (.int p2), .val (.int p3), .val (.int p4), .val (.int (3 : Int32)), .val (.int z15), .val (.int z27), .val (.ref b1), .val (.ref b146), .val (.ref b168), .val (.ref b192), .val (.ref b218), .val (.ref b246), .val (.ref b276), .val (.ref b377), .unset, .unset] [(.int (3 : Int32))])) X496.here hx rfl (hb hby at_240) k) ?_
    refine own_st (T' := T496) (g' := (mkF m 244 #[.val (.int p1), .val (.int p2), .val (.int p3), .val (.int p4), .val (.int (3 : Int32)), .val (.int z15), .val (.int z27), .val (.ref b1), .val (.ref b146), .val (.ref b168), .val (.ref b192), .val (.ref b218), .val (.ref b246), .val (.ref b276), .val (.ref b377), .unset, .unset] [])) (fun _ k => XS.icmpNo (g := (mkF m 241 #[.val (.int p1), .val (.int p2), .val (.int p3), .val (.int p4), .val (.int (3 : Int32)), .val (.int z15), .val (.int z27), .val (.ref b1), .val (.ref b146), .val (.ref b168), .val (.ref b192), .val (.ref b218), .val (.ref b246), .val (.ref b276), .val (.ref b377), .unset, .unset] [(.int (2 : Int32)), (.int (3 : Int32))])) X496.here hx rfl (hb hby at_241) rfl (tlt (by decide : (2 : Int32) < (3 : Int32))).2.2.2 k) ?_
    refine own_st (T' := T496) (g' := (mkF m 246 #[.val (.int p1), .val (.int p2), .val (.int p3), .val (.int p4), .val (.int (3 : Int32)), .val (.int z15), .val (.int z27), .val (.ref b1), .val (.ref b146), .val (.ref b168), .val (.ref b192), .val (.ref b218), .val (.ref b246), .val (.ref b276), .val (.ref b377), .unset, .unset] [(.ref b377)])) (fun _ k => Jvm.Free.XS.aload (g := (mkF m 244 #[.val (.int p1), .val (.int p2), .val (.int p3), .val (.int p4), .val (.int (3 : Int32)), .val (.int z15), .val (.int z27), .val (.ref b1), .val (.ref b146), .val (.ref b168), .val (.ref b192), .val (.ref b218), .val (.ref b246), .val (.ref b276), .val (.ref b377), .unset, .unset] [])) X496.here hx rfl (hb hby at_244) rfl rfl k) ?_
    refine own_st (T' := T496) (g' := (mkF m 248 #[.val (.int p1), .val (.int p2), .val (.int p3), .val (.int p4), .val (.int (3 : Int32)), .val (.int z15), .val (.int z27), .val (.ref b1), .val (.ref b146), .val (.ref b168), .val (.ref b192), .val (.ref b218), .val (.ref b246), .val (.ref b276), .val (.ref b377), .unset, .unset] [(.ref b192), (.ref b377)])) (fun _ k => Jvm.Free.XS.aload (g := (mkF m 246 #[.val (.int p1), .val (.int p2), .val (.int p3), .val (.int p4), .val (.int (3 : Int32)), .val (.int z15), .val (.int z27), .val (.ref b1), .val (.ref b146), .val (.ref b168), .val (.ref b192), .val (.ref b218), .val (.ref b246), .val (.ref b276), .val (.ref b377), .unset, .unset] [(.ref b377)])) X496.here hx rfl (hb hby at_246) rfl rfl k) ?_
    refine own_st (T' := T496) (g' := (mkF m 250 #[.val (.int p1), .val (.int p2), .val (.int p3), .val (.int p4), .val (.int (3 : Int32)), .val (.int z15), .val (.int z27), .val (.ref b1), .val (.ref b146), .val (.ref b168), .val (.ref b192), .val (.ref b218), .val (.ref b246), .val (.ref b276), .val (.ref b377), .unset, .unset] [(.ref b1), (.ref b192), (.ref b377)])) (fun _ k => Jvm.Free.XS.aload (g := (mkF m 248 #[.val (.int p1), .val (.int p2), .val (.int p3), .val (.int p4), .val (.int (3 : Int32)), .val (.int z15), .val (.int z27), .val (.ref b1), .val (.ref b146), .val (.ref b168), .val (.ref b192), .val (.ref b218), .val (.ref b246), .val (.ref b276), .val (.ref b377), .unset, .unset] [(.ref b192), (.ref b377)])) X496.here hx rfl (hb hby at_248) rfl rfl k) ?_
    refine own_st (T' := T496) (g' := (mkF m 251 #[.val (.int p1), .val (.int p2), .val (.int p3), .val (.int p4), .val (.int (3 : Int32)), .val (.int z15), .val (.int z27), .val (.ref b1), .val (.ref b146), .val (.ref b168), .val (.ref b192), .val (.ref b218), .val (.ref b246), .val (.ref b276), .val (.ref b377), .unset, .unset] [(.int (2 : Int32)), (.ref b1), (.ref b192), (.ref b377)])) (fun _ k => XS.iconst (g := (mkF m 250 #[.val (.int p1), .val (.int p2), .val (.int p3), .val (.int p4), .val (.int (3 : Int32)), .val (.int z15), .val (.int z27), .val (.ref b1), .val (.ref b146), .val (.ref b168), .val (.ref b192), .val (.ref b218), .val (.ref b246), .val (.ref b276), .val (.ref b377), .unset, .unset] [(.ref b1), (.ref b192), (.ref b377)])) X496.here hx rfl (hb hby at_250) k) ?_
    obtain ⟨cl510, Ar510, -, Sz510, Nn510, Hs510, Gs510⟩ := id Fa502
    have hin510 : ¬ ((2 : Int32) < 0 ∨ cl510.slots.size ≤ ((2 : Int32)).toNatClampNeg) := inb_of Sz510 ⟨by decide, by decide⟩
    have hat510 : cl510.slots[((2 : Int32)).toNatClampNeg]? = some r2 := Has.at Hs510 hin510 rfl
    refine own_st (T' := T496) (g' := (mkF m 252 #[.val (.int p1), .val (.int p2), .val (.int p3), .val (.int p4), .val (.int (3 : Int32)), .val (.int z15), .val (.int z27), .val (.ref b1), .val (.ref b146), .val (.ref b168), .val (.ref b192), .val (.ref b218), .val (.ref b246), .val (.ref b276), .val (.ref b377), .unset, .unset] [r2, (.ref b192), (.ref b377)])) (fun _ k => (X496.aaload hx (j := (2 : Int32)) (v := r2) Ar510.1 (State.isArrayOf_alike hZ.alike Ar510.2.1) rfl Ar510.2.2 hin510 hat510 (g := (mkF m 251 #[.val (.int p1), .val (.int p2), .val (.int p3), .val (.int p4), .val (.int (3 : Int32)), .val (.int z15), .val (.int z27), .val (.ref b1), .val (.ref b146), .val (.ref b168), .val (.ref b192), .val (.ref b218), .val (.ref b246), .val (.ref b276), .val (.ref b377), .unset, .unset] [(.int (2 : Int32)), (.ref b1), (.ref b192), (.ref b377)])) rfl rfl (hb hby at_251)) _ k) ?_
    obtain ⟨cq511, kq511, q511a, q511b, q511c⟩ := isOf hZ rfl Eq496
    obtain ⟨v511, T511, L511, X511, hQ511, st511⟩ := own_packV (X496.virtualBack hx (y := (⟨"com/example/hollow_tree/hollowtree/query/IdentityTable", "put", "(Ljava/lang/Object;Ljava/lang/Object;)V"⟩ : MethodName)) (z := (⟨"com/example/hollow_tree/hollowtree/query/IdentityTable", "put", "(Ljava/lang/Object;Ljava/lang/Object;)V"⟩ : MethodName)) hown (mvT hZ (hw _ (List.mem_of_getElem? (i := 56) rfl))) (mvT hZ (hw _ (List.mem_of_getElem? (i := 57) rfl))) (notFace_of_selects (args := #[]) (mvT hZ (hw _ (List.mem_of_getElem? (i := 59) rfl)))) (mvT hZ (hw _ (List.mem_of_getElem? (i := 59) rfl))) (mvT hZ (hw _ (List.mem_of_getElem? (i := 58) rfl))) (by decide) (backOf (W := 0) (rm8_2 l Z a0 hw [] b377 b192 r2 (Fa500.rf) t496 kt496 mr (.ref b146) r0 (.ref b168) r1 T496.heap n0 Zs496 Eq496 Fe496 Fs496 Vq496 Xq496 (Or.inr ⟨b146, rfl, Ins.of_exa Fa503 (hw _ (List.mem_of_getElem? (i := 33) rfl))⟩) (Fa498.o (hw _ (List.mem_of_getElem? (i := 87) rfl))) (Or.inr ⟨b168, rfl, Ins.of_exa Fa504 (hw _ (List.mem_of_getElem? (i := 33) rfl))⟩) (Fa499.o (hw _ (List.mem_of_getElem? (i := 87) rfl))) (Or.inr ⟨b192, rfl, Ins.of_exa Fa505 (hw _ (List.mem_of_getElem? (i := 33) rfl))⟩) (Fa500.o (hw _ (List.mem_of_getElem? (i := 87) rfl))) gn_b377 Mm ne_b377_t496) hZ (hw _ (List.mem_of_getElem? (i := 60) rfl)) (hw _ (List.mem_of_getElem? (i := 36) rfl)) (by decide) (by decide)) q511a q511c (g := (mkF m 252 #[.val (.int p1), .val (.int p2), .val (.int p3), .val (.int p4), .val (.int (3 : Int32)), .val (.int z15), .val (.int z27), .val (.ref b1), .val (.ref b146), .val (.ref b168), .val (.ref b192), .val (.ref b218), .val (.ref b246), .val (.ref b276), .val (.ref b377), .unset, .unset] [r2, (.ref b192), (.ref b377)])) rfl (by rw [hml]; rfl) (Steps.refl _) (argsL := [(.ref b192), r2]) (rest := []) (lenOf own_pd0_3 rfl) rfl (by show 2 * 0 + _ ≤ _; exact Nat.le_of_eq rfl) (hb hby at_252) (fun _ _ => ⟨rfl, rfl, (by decide : 14 + 1 ≤ _), (by decide : 46 + 8 ≤ _)⟩))
    obtain ⟨rfl, N511q, Kq511, Eq511, t511, kt511, hsz511, Fe511, Fs511, Vq511, Xq511, Oq511⟩ := hQ511
    obtain ⟨lc511, X511, N511⟩ := own_loc X511 (Fr.app N496 N511q)
    have ne_b1_t511 : b1 ≠ t511 := Nat.ne_of_lt (Nat.lt_of_lt_of_le Fa497.lt hsz511)
    have ne_b146_t511 : b146 ≠ t511 := Nat.ne_of_lt (Nat.lt_of_lt_of_le Fa503.lt hsz511)
    have ne_b168_t511 : b168 ≠ t511 := Nat.ne_of_lt (Nat.lt_of_lt_of_le Fa504.lt hsz511)
    have ne_b192_t511 : b192 ≠ t511 := Nat.ne_of_lt (Nat.lt_of_lt_of_le Fa505.lt hsz511)
    have ne_b218_t511 : b218 ≠ t511 := Nat.ne_of_lt (Nat.lt_of_lt_of_le Fa506.lt hsz511)
    have ne_b246_t511 : b246 ≠ t511 := Nat.ne_of_lt (Nat.lt_of_lt_of_le Fa507.lt hsz511)
    have ne_b276_t511 : b276 ≠ t511 := Nat.ne_of_lt (Nat.lt_of_lt_of_le Fa508.lt hsz511)
    have ne_b377_t511 : b377 ≠ t511 := Nat.ne_of_lt (Nat.lt_of_lt_of_le Eq496.lt hsz511)
    have ne_t496_t511 : t496 ≠ t511 := Nat.ne_of_lt (Nat.lt_of_lt_of_le Vq496.lt hsz511)
    have gn_t511 : n0 ≤ t511 := Nat.le_trans Zs496 hsz511
    have Zs511 : n0 ≤ T511.heap.size := Nat.le_trans Zs496 Kq511.1
    have Fa512 : Exa Z T511.heap b1 "[[I" := Fa497.keep Kq511
    have Fa513 : own_R Z T511.heap r0 := Fa498.keep Kq511
    have Fa514 : own_R Z T511.heap r1 := Fa499.keep Kq511
    have Fa515 : own_R Z T511.heap r2 := Fa500.keep Kq511
    have Fa516 : own_R Z T511.heap r3 := Fa501.keep Kq511
    have Fa517 : Arv Z T511.heap b1 k1 (.array .int) (4 : Int32) [r0, r1, r2, r3] .null := Fa502.keep Kq511 (ninS ne_b1_b377 nin0)
    have Fa518 : Exa Z T511.heap b146 "java/util/ArrayList" := Fa503.keep Kq511
    have Fa519 : Exa Z T511.heap b168 "java/util/ArrayList" := Fa504.keep Kq511
    have Fa520 : Exa Z T511.heap b192 "java/util/ArrayList" := Fa505.keep Kq511
    have Fa521 : Exa Z T511.heap b218 "java/util/ArrayList" := Fa506.keep Kq511
    have Fa522 : Exa Z T511.heap b246 "java/util/ArrayList" := Fa507.keep Kq511
    have Fa523 : Exa Z T511.heap b276 "[Ljava/lang/Object;" := Fa508.keep Kq511
    have Fa524 : Arv Z T511.heap b276 k276 (.object "java/lang/Object") (5 : Int32) [(.ref b146), (.ref b168), (.ref b192), (.ref b218), (.ref b246)] .null := Fa509.keep Kq511 (ninS ne_b276_b377 nin0)
    refine own_st (T' := T511) (g' := (mkF m 255 #[.val (.int p1), .val (.int p2), .val (.int p3), .val (.int p4), .val (.int (3 : Int32)), .val (.int z15), .val (.int z27), .val (.ref b1), .val (.ref b146), .val (.ref b168), .val (.ref b192), .val (.ref b218), .val (.ref b246), .val (.ref b276), .val (.ref b377), .unset, .unset] [])) (fun _ k => (st511) _ k) ?_
    refine own_st (T' := T511) (g' := (mkF m 257 #[.val (.int p1), .val (.int p2), .val (.int p3), .val (.int p4), .val (.int (3 : Int32)), .val (.int z15), .val (.int z27), .val (.ref b1), .val (.ref b146), .val (.ref b168), .val (.ref b192), .val (.ref b218), .val (.ref b246), .val (.ref b276), .val (.ref b377), .unset, .unset] [(.int (3 : Int32))])) (fun _ k => Jvm.Free.XS.iload (g := (mkF m 255 #[.val (.int p1), .val (.int p2), .val (.int p3), .val (.int p4), .val (.int (3 : Int32)), .val (.int z15), .val (.int z27), .val (.ref b1), .val (.ref b146), .val (.ref b168), .val (.ref b192), .val (.ref b218), .val (.ref b246), .val (.ref b276), .val (.ref b377), .unset, .unset] [])) X511.here hx rfl (hb hby at_255) rfl k) ?_
    refine own_st (T' := T511) (g' := (mkF m 258 #[.val (.int p1), .val (.int p2), .val (.int p3), .val (.int p4), .val (.int (3 : Int32)), .val (.int z15), .val (.int z27), .val (.ref b1), .val (.ref b146), .val (.ref b168), .val (.ref b192), .val (.ref b218), .val (.ref b246), .val (.ref b276), .val (.ref b377), .unset, .unset] [(.int (3 : Int32)), (.int (3 : Int32))])) (fun _ k => XS.iconst (g := (mkF m 257 #[.val (.int p1), .val (.int p2), .val (.int p3), .val (.int p4), .val (.int (3 : Int32)), .val (.int z15), .val (.int z27), .val (.ref b1), .val (.ref b146), .val (.ref b168), .val (.ref b192), .val (.ref b218), .val (.ref b246), .val (.ref b276), .val (.ref b377), .unset, .unset] [(.int (3 : Int32))])) X511.here hx rfl (hb hby at_257) k) ?_
    refine own_st (T' := T511) (g' := (mkF m 272 #[.val (.int p1), .val (.int p2), .val (.int p3), .val (.int p4), .val (.int (3 : Int32)), .val (.int z15), .val (.int z27), .val (.ref b1), .val (.ref b146), .val (.ref b168), .val (.ref b192), .val (.ref b218), .val (.ref b246), .val (.ref b276), .val (.ref b377), .unset, .unset] [])) (fun _ k => XS.icmpYes (g := (mkF m 258 #[.val (.int p1), .val (.int p2), .val (.int p3), .val (.int p4), .val (.int (3 : Int32)), .val (.int z15), .val (.int z27), .val (.ref b1), .val (.ref b146), .val (.ref b168), .val (.ref b192), .val (.ref b218), .val (.ref b246), .val (.ref b276), .val (.ref b377), .unset, .unset] [(.int (3 : Int32)), (.int (3 : Int32))])) X511.here hx rfl (pc0 := 258) (pc' := 272) rfl (hb hby at_258) rfl (flt (by decide : ¬ ((3 : Int32) < (3 : Int32)))).2.2.2 (by decide) (by decide) k) ?_
    refine own_st (T' := T511) (g' := (mkF m 274 #[.val (.int p1), .val (.int p2), .val (.int p3), .val (.int p4), .val (.int (3 : Int32)), .val (.int z15), .val (.int z27), .val (.ref b1), .val (.ref b146), .val (.ref b168), .val (.ref b192), .val (.ref b218), .val (.ref b246), .val (.ref b276), .val (.ref b377), .unset, .unset] [(.ref b377)])) (fun _ k => Jvm.Free.XS.aload (g := (mkF m 272 #[.val (.int p1), .val (.int p2), .val (.int p3), .val (.int p4), .val (.int (3 : Int32)), .val (.int z15), .val (.int z27), .val (.ref b1), .val (.ref b146), .val (.ref b168), .val (.ref b192), .val (.ref b218), .val (.ref b246), .val (.ref b276), .val (.ref b377), .unset, .unset] [])) X511.here hx rfl (hb hby at_272) rfl rfl k) ?_
    refine own_st (T' := T511) (g' := (mkF m 276 #[.val (.int p1), .val (.int p2), .val (.int p3), .val (.int p4), .val (.int (3 : Int32)), .val (.int z15), .val (.int z27), .val (.ref b1), .val (.ref b146), .val (.ref b168), .val (.ref b192), .val (.ref b218), .val (.ref b246), .val (.ref b276), .val (.ref b377), .unset, .unset] [(.ref b276), (.ref b377)])) (fun _ k => Jvm.Free.XS.aload (g := (mkF m 274 #[.val (.int p1), .val (.int p2), .val (.int p3), .val (.int p4), .val (.int (3 : Int32)), .val (.int z15), .val (.int z27), .val (.ref b1), .val (.ref b146), .val (.ref b168), .val (.ref b192), .val (.ref b218), .val (.ref b246), .val (.ref b276), .val (.ref b377), .unset, .unset] [(.ref b377)])) X511.here hx rfl (hb hby at_274) rfl rfl k) ?_
    refine own_st (T' := T511) (g' := (mkF m 278 #[.val (.int p1), .val (.int p2), .val (.int p3), .val (.int p4), .val (.int (3 : Int32)), .val (.int z15), .val (.int z27), .val (.ref b1), .val (.ref b146), .val (.ref b168), .val (.ref b192), .val (.ref b218), .val (.ref b246), .val (.ref b276), .val (.ref b377), .unset, .unset] [(.int z15), (.ref b276), (.ref b377)])) (fun _ k => Jvm.Free.XS.iload (g := (mkF m 276 #[.val (.int p1), .val (.int p2), .val (.int p3), .val (.int p4), .val (.int (3 : Int32)), .val (.int z15), .val (.int z27), .val (.ref b1), .val (.ref b146), .val (.ref b168), .val (.ref b192), .val (.ref b218), .val (.ref b246), .val (.ref b276), .val (.ref b377), .unset, .unset] [(.ref b276), (.ref b377)])) X511.here hx rfl (hb hby at_276) rfl k) ?_
    obtain ⟨cl525, Ar525, -, Sz525, Nn525, Hs525, Gs525⟩ := id Fa524
    obtain ⟨kq525, hkq525⟩ : ∃ z, z = ([b146, b168, b192, b218, b246] : List Addr).getD z15.toNatClampNeg 0 := ⟨_, rfl⟩
    have hin525 : ¬ (z15 < 0 ∨ cl525.slots.size ≤ (z15).toNatClampNeg) := inb_of Sz525 (own_q5 _ hq1).1
    have hat525 : cl525.slots[(z15).toNatClampNeg]? = some (.ref kq525) := Has.at Hs525 hin525 ((own_getR [b146, b168, b192, b218, b246] _ (own_q5 _ hq1).2).trans (congrArg Value.ref hkq525.symm))
    refine own_st (T' := T511) (g' := (mkF m 279 #[.val (.int p1), .val (.int p2), .val (.int p3), .val (.int p4), .val (.int (3 : Int32)), .val (.int z15), .val (.int z27), .val (.ref b1), .val (.ref b146), .val (.ref b168), .val (.ref b192), .val (.ref b218), .val (.ref b246), .val (.ref b276), .val (.ref b377), .unset, .unset] [(.ref kq525), (.ref b377)])) (fun _ k => (X511.aaload hx (j := z15) (v := (.ref kq525)) Ar525.1 (State.isArrayOf_alike hZ.alike Ar525.2.1) rfl Ar525.2.2 hin525 hat525 (g := (mkF m 278 #[.val (.int p1), .val (.int p2), .val (.int p3), .val (.int p4), .val (.int (3 : Int32)), .val (.int z15), .val (.int z27), .val (.ref b1), .val (.ref b146), .val (.ref b168), .val (.ref b192), .val (.ref b218), .val (.ref b246), .val (.ref b276), .val (.ref b377), .unset, .unset] [(.int z15), (.ref b276), (.ref b377)])) rfl rfl (hb hby at_278)) _ k) ?_
    obtain ⟨cq526, kq526, q526a, q526b, q526c⟩ := isOf hZ rfl Eq511
    obtain ⟨v526, T526, L526, X526, hQ526, st526⟩ := own_packV (X511.virtualBack hx (y := (⟨"com/example/hollow_tree/hollowtree/query/IdentityTable", "get", "(Ljava/lang/Object;)Ljava/lang/Object;"⟩ : MethodName)) (z := (⟨"com/example/hollow_tree/hollowtree/query/IdentityTable", "get", "(Ljava/lang/Object;)Ljava/lang/Object;"⟩ : MethodName)) hown (mvT hZ (hw _ (List.mem_of_getElem? (i := 45) rfl))) (mvT hZ (hw _ (List.mem_of_getElem? (i := 46) rfl))) (notFace_of_selects (args := #[]) (mvT hZ (hw _ (List.mem_of_getElem? (i := 48) rfl)))) (mvT hZ (hw _ (List.mem_of_getElem? (i := 48) rfl))) (mvT hZ (hw _ (List.mem_of_getElem? (i := 47) rfl))) (by decide) (backOf (W := 0) (rm6_3 l Z a0 hw [] b377 kq525 t511 kt511 b146 b168 b192 r0 r1 r2 T511.heap n0 Zs511 Fe511 Fs511 Vq511 Fa513 Fa514 Fa515) hZ (hw _ (List.mem_of_getElem? (i := 49) rfl)) (hw _ (List.mem_of_getElem? (i := 36) rfl)) (by decide) (by decide)) q526a q526c (g := (mkF m 279 #[.val (.int p1), .val (.int p2), .val (.int p3), .val (.int p4), .val (.int (3 : Int32)), .val (.int z15), .val (.int z27), .val (.ref b1), .val (.ref b146), .val (.ref b168), .val (.ref b192), .val (.ref b218), .val (.ref b246), .val (.ref b276), .val (.ref b377), .unset, .unset] [(.ref kq525), (.ref b377)])) rfl (by rw [hml]; rfl) (Steps.refl _) (argsL := [(.ref kq525)]) (rest := []) (lenOf own_pd0_1 rfl) rfl (by show 2 * 0 + _ ≤ _; exact Nat.le_of_eq rfl) (hb hby at_279) (fun _ _ => ⟨rfl, rfl, (by decide : 15 + 0 ≤ _), (by decide : 54 + 0 ≤ _)⟩))
    obtain ⟨g526, rfl, hg526, N526q, e526⟩ := hQ526
    obtain ⟨lc526, X526, N526⟩ := own_loc X526 (Fr.app N511 N526q)
    have Rg526 : own_R Z T511.heap g526 := by
      rw [hg526]
      exact own_lk_R _ _ (fun q hq => by
        simp only [List.mem_cons, List.not_mem_nil, or_false] at hq
        rcases hq with rfl | rfl | rfl
        · exact Fa513
        · exact Fa514
        · exact Fa515)
    refine own_st (T' := T526) (g' := (mkF m 282 #[.val (.int p1), .val (.int p2), .val (.int p3), .val (.int p4), .val (.int (3 : Int32)), .val (.int z15), .val (.int z27), .val (.ref b1), .val (.ref b146), .val (.ref b168), .val (.ref b192), .val (.ref b218), .val (.ref b246), .val (.ref b276), .val (.ref b377), .unset, .unset] [g526])) (fun _ k => (st526) _ k) ?_
    obtain ⟨T527, X527, e527, st527⟩ := own_castV X526 hx hZ hown (hw _ (List.mem_of_getElem? (i := 1) rfl)) e526 Rg526 (g := (mkF m 282 #[.val (.int p1), .val (.int p2), .val (.int p3), .val (.int p4), .val (.int (3 : Int32)), .val (.int z15), .val (.int z27), .val (.ref b1), .val (.ref b146), .val (.ref b168), .val (.ref b192), .val (.ref b218), .val (.ref b246), .val (.ref b276), .val (.ref b377), .unset, .unset] [g526])) rfl rfl (hb hby at_282)
    refine own_st (T' := T527) (g' := (mkF m 285 #[.val (.int p1), .val (.int p2), .val (.int p3), .val (.int p4), .val (.int (3 : Int32)), .val (.int z15), .val (.int z27), .val (.ref b1), .val (.ref b146), .val (.ref b168), .val (.ref b192), .val (.ref b218), .val (.ref b246), .val (.ref b276), .val (.ref b377), .unset, .unset] [g526])) (fun _ k => (st527) _ k) ?_
    refine own_st (T' := T527) (g' := (mkF m 287 #[.val (.int p1), .val (.int p2), .val (.int p3), .val (.int p4), .val (.int (3 : Int32)), .val (.int z15), .val (.int z27), .val (.ref b1), .val (.ref b146), .val (.ref b168), .val (.ref b192), .val (.ref b218), .val (.ref b246), .val (.ref b276), .val (.ref b377), .val g526, .unset] [])) (fun _ k => Jvm.Free.XS.astore (g := (mkF m 285 #[.val (.int p1), .val (.int p2), .val (.int p3), .val (.int p4), .val (.int (3 : Int32)), .val (.int z15), .val (.int z27), .val (.ref b1), .val (.ref b146), .val (.ref b168), .val (.ref b192), .val (.ref b218), .val (.ref b246), .val (.ref b276), .val (.ref b377), .unset, .unset] [g526])) X527.here hx rfl (hb hby at_285) rfl ((Rg526.rf)).isRef (l' := #[.val (.int p1), .val (.int p2), .val (.int p3), .val (.int p4), .val (.int (3 : Int32)), .val (.int z15), .val (.int z27), .val (.ref b1), .val (.ref b146), .val (.ref b168), .val (.ref b192), .val (.ref b218), .val (.ref b246), .val (.ref b276), .val (.ref b377), .val g526, .unset]) (by rcases (Rg526.rf) with rfl | ⟨_, rfl⟩ <;> rfl) k) ?_
    refine own_st (T' := T527) (g' := (mkF m 289 #[.val (.int p1), .val (.int p2), .val (.int p3), .val (.int p4), .val (.int (3 : Int32)), .val (.int z15), .val (.int z27), .val (.ref b1), .val (.ref b146), .val (.ref b168), .val (.ref b192), .val (.ref b218), .val (.ref b246), .val (.ref b276), .val (.ref b377), .val g526, .unset] [(.ref b377)])) (fun _ k => Jvm.Free.XS.aload (g := (mkF m 287 #[.val (.int p1), .val (.int p2), .val (.int p3), .val (.int p4), .val (.int (3 : Int32)), .val (.int z15), .val (.int z27), .val (.ref b1), .val (.ref b146), .val (.ref b168), .val (.ref b192), .val (.ref b218), .val (.ref b246), .val (.ref b276), .val (.ref b377), .val g526, .unset] [])) X527.here hx rfl (hb hby at_287) rfl rfl k) ?_
    refine own_st (T' := T527) (g' := (mkF m 291 #[.val (.int p1), .val (.int p2), .val (.int p3), .val (.int p4), .val (.int (3 : Int32)), .val (.int z15), .val (.int z27), .val (.ref b1), .val (.ref b146), .val (.ref b168), .val (.ref b192), .val (.ref b218), .val (.ref b246), .val (.ref b276), .val (.ref b377), .val g526, .unset] [(.ref b276), (.ref b377)])) (fun _ k => Jvm.Free.XS.aload (g := (mkF m 289 #[.val (.int p1), .val (.int p2), .val (.int p3), .val (.int p4), .val (.int (3 : Int32)), .val (.int z15), .val (.int z27), .val (.ref b1), .val (.ref b146), .val (.ref b168), .val (.ref b192), .val (.ref b218), .val (.ref b246), .val (.ref b276), .val (.ref b377), .val g526, .unset] [(.ref b377)])) X527.here hx rfl (hb hby at_289) rfl rfl k) ?_
    refine own_st (T' := T527) (g' := (mkF m 293 #[.val (.int p1), .val (.int p2), .val (.int p3), .val (.int p4), .val (.int (3 : Int32)), .val (.int z15), .val (.int z27), .val (.ref b1), .val (.ref b146), .val (.ref b168), .val (.ref b192), .val (.ref b218), .val (.ref b246), .val (.ref b276), .val (.ref b377), .val g526, .unset] [(.int z27), (.ref b276), (.ref b377)])) (fun _ k => Jvm.Free.XS.iload (g := (mkF m 291 #[.val (.int p1), .val (.int p2), .val (.int p3), .val (.int p4), .val (.int (3 : Int32)), .val (.int z15), .val (.int z27), .val (.ref b1), .val (.ref b146), .val (.ref b168), .val (.ref b192), .val (.ref b218), .val (.ref b246), .val (.ref b276), .val (.ref b377), .val g526, .unset] [(.ref b276), (.ref b377)])) X527.here hx rfl (hb hby at_291) rfl k) ?_
    obtain ⟨cl528, Ar528, -, Sz528, Nn528, Hs528, Gs528⟩ := id Fa524
    obtain ⟨kq528, hkq528⟩ : ∃ z, z = ([b146, b168, b192, b218, b246] : List Addr).getD z27.toNatClampNeg 0 := ⟨_, rfl⟩
    have hin528 : ¬ (z27 < 0 ∨ cl528.slots.size ≤ (z27).toNatClampNeg) := inb_of Sz528 (own_q5 _ hq2).1
    have hat528 : cl528.slots[(z27).toNatClampNeg]? = some (.ref kq528) := Has.at Hs528 hin528 ((own_getR [b146, b168, b192, b218, b246] _ (own_q5 _ hq2).2).trans (congrArg Value.ref hkq528.symm))
    refine own_st (T' := T527) (g' := (mkF m 294 #[.val (.int p1), .val (.int p2), .val (.int p3), .val (.int p4), .val (.int (3 : Int32)), .val (.int z15), .val (.int z27), .val (.ref b1), .val (.ref b146), .val (.ref b168), .val (.ref b192), .val (.ref b218), .val (.ref b246), .val (.ref b276), .val (.ref b377), .val g526, .unset] [(.ref kq528), (.ref b377)])) (fun _ k => (X527.aaload hx (j := z27) (v := (.ref kq528)) (by rw [e527]; exact Ar528.1) (State.isArrayOf_alike hZ.alike Ar528.2.1) rfl Ar528.2.2 hin528 hat528 (g := (mkF m 293 #[.val (.int p1), .val (.int p2), .val (.int p3), .val (.int p4), .val (.int (3 : Int32)), .val (.int z15), .val (.int z27), .val (.ref b1), .val (.ref b146), .val (.ref b168), .val (.ref b192), .val (.ref b218), .val (.ref b246), .val (.ref b276), .val (.ref b377), .val g526, .unset] [(.int z27), (.ref b276), (.ref b377)])) rfl rfl (hb hby at_293)) _ k) ?_
    obtain ⟨cq529, kq529, q529a, q529b, q529c⟩ := isOf hZ e527 Eq511
    obtain ⟨v529, T529, L529, X529, hQ529, st529⟩ := own_packV (X527.virtualBack hx (y := (⟨"com/example/hollow_tree/hollowtree/query/IdentityTable", "get", "(Ljava/lang/Object;)Ljava/lang/Object;"⟩ : MethodName)) (z := (⟨"com/example/hollow_tree/hollowtree/query/IdentityTable", "get", "(Ljava/lang/Object;)Ljava/lang/Object;"⟩ : MethodName)) hown (mvT hZ (hw _ (List.mem_of_getElem? (i := 45) rfl))) (mvT hZ (hw _ (List.mem_of_getElem? (i := 46) rfl))) (notFace_of_selects (args := #[]) (mvT hZ (hw _ (List.mem_of_getElem? (i := 48) rfl)))) (mvT hZ (hw _ (List.mem_of_getElem? (i := 48) rfl))) (mvT hZ (hw _ (List.mem_of_getElem? (i := 47) rfl))) (by decide) (backOf (W := 0) (rm6_3 l Z a0 hw [] b377 kq528 t511 kt511 b146 b168 b192 r0 r1 r2 T511.heap n0 Zs511 Fe511 Fs511 Vq511 Fa513 Fa514 Fa515) hZ (hw _ (List.mem_of_getElem? (i := 49) rfl)) (hw _ (List.mem_of_getElem? (i := 36) rfl)) (by decide) (by decide)) q529a q529c (g := (mkF m 294 #[.val (.int p1), .val (.int p2), .val (.int p3), .val (.int p4), .val (.int (3 : Int32)), .val (.int z15), .val (.int z27), .val (.ref b1), .val (.ref b146), .val (.ref b168), .val (.ref b192), .val (.ref b218), .val (.ref b246), .val (.ref b276), .val (.ref b377), .val g526, .unset] [(.ref kq528), (.ref b377)])) rfl (by rw [hml]; rfl) (Steps.refl _) (argsL := [(.ref kq528)]) (rest := []) (lenOf own_pd0_1 rfl) rfl (by show 2 * 0 + _ ≤ _; exact Nat.le_of_eq rfl) (hb hby at_294) (fun _ _ => ⟨rfl, e527, (by decide : 15 + 0 ≤ _), (by decide : 54 + 0 ≤ _)⟩))
    obtain ⟨g529, rfl, hg529, N529q, e529⟩ := hQ529
    obtain ⟨lc529, X529, N529⟩ := own_loc X529 (Fr.app N526 N529q)
    have Rg529 : own_R Z T511.heap g529 := by
      rw [hg529]
      exact own_lk_R _ _ (fun q hq => by
        simp only [List.mem_cons, List.not_mem_nil, or_false] at hq
        rcases hq with rfl | rfl | rfl
        · exact Fa513
        · exact Fa514
        · exact Fa515)
    refine own_st (T' := T529) (g' := (mkF m 297 #[.val (.int p1), .val (.int p2), .val (.int p3), .val (.int p4), .val (.int (3 : Int32)), .val (.int z15), .val (.int z27), .val (.ref b1), .val (.ref b146), .val (.ref b168), .val (.ref b192), .val (.ref b218), .val (.ref b246), .val (.ref b276), .val (.ref b377), .val g526, .unset] [g529])) (fun _ k => (st529) _ k) ?_
    obtain ⟨T530, X530, e530, st530⟩ := own_castV X529 hx hZ hown (hw _ (List.mem_of_getElem? (i := 1) rfl)) e529 Rg529 (g := (mkF m 297 #[.val (.int p1), .val (.int p2), .val (.int p3), .val (.int p4), .val (.int (3 : Int32)), .val (.int z15), .val (.int z27), .val (.ref b1), .val (.ref b146), .val (.ref b168), .val (.ref b192), .val (.ref b218), .val (.ref b246), .val (.ref b276), .val (.ref b377), .val g526, .unset] [g529])) rfl rfl (hb hby at_297)
    refine own_st (T' := T530) (g' := (mkF m 300 #[.val (.int p1), .val (.int p2), .val (.int p3), .val (.int p4), .val (.int (3 : Int32)), .val (.int z15), .val (.int z27), .val (.ref b1), .val (.ref b146), .val (.ref b168), .val (.ref b192), .val (.ref b218), .val (.ref b246), .val (.ref b276), .val (.ref b377), .val g526, .unset] [g529])) (fun _ k => (st530) _ k) ?_
    refine own_st (T' := T530) (g' := (mkF m 302 #[.val (.int p1), .val (.int p2), .val (.int p3), .val (.int p4), .val (.int (3 : Int32)), .val (.int z15), .val (.int z27), .val (.ref b1), .val (.ref b146), .val (.ref b168), .val (.ref b192), .val (.ref b218), .val (.ref b246), .val (.ref b276), .val (.ref b377), .val g526, .val g529] [])) (fun _ k => Jvm.Free.XS.astore (g := (mkF m 300 #[.val (.int p1), .val (.int p2), .val (.int p3), .val (.int p4), .val (.int (3 : Int32)), .val (.int z15), .val (.int z27), .val (.ref b1), .val (.ref b146), .val (.ref b168), .val (.ref b192), .val (.ref b218), .val (.ref b246), .val (.ref b276), .val (.ref b377), .val g526, .unset] [g529])) X530.here hx rfl (hb hby at_300) rfl ((Rg529.rf)).isRef (l' := #[.val (.int p1), .val (.int p2), .val (.int p3), .val (.int p4), .val (.int (3 : Int32)), .val (.int z15), .val (.int z27), .val (.ref b1), .val (.ref b146), .val (.ref b168), .val (.ref b192), .val (.ref b218), .val (.ref b246), .val (.ref b276), .val (.ref b377), .val g526, .val g529]) (by rcases (Rg529.rf) with rfl | ⟨_, rfl⟩ <;> rfl) k) ?_
    refine own_st (T' := T530) (g' := (mkF m 304 #[.val (.int p1), .val (.int p2), .val (.int p3), .val (.int p4), .val (.int (3 : Int32)), .val (.int z15), .val (.int z27), .val (.ref b1), .val (.ref b146), .val (.ref b168), .val (.ref b192), .val (.ref b218), .val (.ref b246), .val (.ref b276), .val (.ref b377), .val g526, .val g529] [g526])) (fun _ k => Jvm.Free.XS.aload (g := (mkF m 302 #[.val (.int p1), .val (.int p2), .val (.int p3), .val (.int p4), .val (.int (3 : Int32)), .val (.int z15), .val (.int z27), .val (.ref b1), .val (.ref b146), .val (.ref b168), .val (.ref b192), .val (.ref b218), .val (.ref b246), .val (.ref b276), .val (.ref b377), .val g526, .val g529] [])) X530.here hx rfl (hb hby at_302) rfl ((Rg526.rf)).isRef k) ?_
    refine own_st (T' := T530) (g' := (mkF m 306 #[.val (.int p1), .val (.int p2), .val (.int p3), .val (.int p4), .val (.int (3 : Int32)), .val (.int z15), .val (.int z27), .val (.ref b1), .val (.ref b146), .val (.ref b168), .val (.ref b192), .val (.ref b218), .val (.ref b246), .val (.ref b276), .val (.ref b377), .val g526, .val g529] [(.int z15), g526])) (fun _ k => Jvm.Free.XS.iload (g := (mkF m 304 #[.val (.int p1), .val (.int p2), .val (.int p3), .val (.int p4), .val (.int (3 : Int32)), .val (.int z15), .val (.int z27), .val (.ref b1), .val (.ref b146), .val (.ref b168), .val (.ref b192), .val (.ref b218), .val (.ref b246), .val (.ref b276), .val (.ref b377), .val g526, .val g529] [g526])) X530.here hx rfl (hb hby at_304) rfl k) ?_
    refine own_st (T' := T530) (g' := (mkF m 308 #[.val (.int p1), .val (.int p2), .val (.int p3), .val (.int p4), .val (.int (3 : Int32)), .val (.int z15), .val (.int z27), .val (.ref b1), .val (.ref b146), .val (.ref b168), .val (.ref b192), .val (.ref b218), .val (.ref b246), .val (.ref b276), .val (.ref b377), .val g526, .val g529] [(.int (3 : Int32)), (.int z15), g526])) (fun _ k => Jvm.Free.XS.iload (g := (mkF m 306 #[.val (.int p1), .val (.int p2), .val (.int p3), .val (.int p4), .val (.int (3 : Int32)), .val (.int z15), .val (.int z27), .val (.ref b1), .val (.ref b146), .val (.ref b168), .val (.ref b192), .val (.ref b218), .val (.ref b246), .val (.ref b276), .val (.ref b377), .val g526, .val g529] [(.int z15), g526])) X530.here hx rfl (hb hby at_306) rfl k) ?_
    refine own_st (T' := T530) (g' := (mkF m 310 #[.val (.int p1), .val (.int p2), .val (.int p3), .val (.int p4), .val (.int (3 : Int32)), .val (.int z15), .val (.int z27), .val (.ref b1), .val (.ref b146), .val (.ref b168), .val (.ref b192), .val (.ref b218), .val (.ref b246), .val (.ref b276), .val (.ref b377), .val g526, .val g529] [(.ref b1), (.int (3 : Int32)), (.int z15), g526])) (fun _ k => Jvm.Free.XS.aload (g := (mkF m 308 #[.val (.int p1), .val (.int p2), .val (.int p3), .val (.int p4), .val (.int (3 : Int32)), .val (.int z15), .val (.int z27), .val (.ref b1), .val (.ref b146), .val (.ref b168), .val (.ref b192), .val (.ref b218), .val (.ref b246), .val (.ref b276), .val (.ref b377), .val g526, .val g529] [(.int (3 : Int32)), (.int z15), g526])) X530.here hx rfl (hb hby at_308) rfl rfl k) ?_
    obtain ⟨v531, T531, L531, X531, hQ531, st531⟩ := own_packS (Jvm.LawKit.callS X530 hx (y := (⟨"com/example/hollow_tree/hollowtree/query/IdentityTableGetPinLaw", "expect", "(II[[I)[I"⟩ : MethodName)) hown (mvT hZ (hw _ (List.mem_of_getElem? (i := 52) rfl))) (mvT hZ (hw _ (List.mem_of_getElem? (i := 53) rfl))) (mvT hZ (hw _ (List.mem_of_getElem? (i := 54) rfl))) (mvT hZ (hw _ (List.mem_of_getElem? (i := 55) rfl))) (by decide) (backOf (W := 1) (rm7 l Z a0 hw [] z15 (3 : Int32) b1 k1 r0 r1 r2 r3 T511.heap n0 Zs511 Fa517 (fun v hv => by
        simp only [List.mem_cons, List.not_mem_nil, or_false] at hv
        rcases hv with rfl | rfl | rfl | rfl
        · exact Fa513.rf
        · exact Fa514.rf
        · exact Fa515.rf
        · exact Fa516.rf) (own_qn _ _ hq1 (by decide))) hZ (hw _ (List.mem_of_getElem? (i := 55) rfl)) (hw _ (List.mem_of_getElem? (i := 54) rfl)) (by decide) (by decide)) (g := (mkF m 310 #[.val (.int p1), .val (.int p2), .val (.int p3), .val (.int p4), .val (.int (3 : Int32)), .val (.int z15), .val (.int z27), .val (.ref b1), .val (.ref b146), .val (.ref b168), .val (.ref b192), .val (.ref b218), .val (.ref b246), .val (.ref b276), .val (.ref b377), .val g526, .val g529] [(.ref b1), (.int (3 : Int32)), (.int z15), g526])) rfl (by rw [hml]; rfl) (argsL := [(.int z15), (.int (3 : Int32)), (.ref b1)]) (rest := [g526]) (lenOf own_pd0_2 rfl) rfl (by show 2 * 0 + _ ≤ _; simp [((Rg526.rf)).cat]) (hb hby at_310) (fun _ _ => ⟨rfl, e530, (by decide : 15 + 0 ≤ _), (by decide : 54 + 0 ≤ _)⟩))
    obtain ⟨x531, rfl, hx531, hrx531, N531q, e531⟩ := hQ531
    obtain ⟨lc531, X531, N531⟩ := own_loc X531 (Fr.app N529 N531q)
    refine own_st (T' := T531) (g' := (mkF m 313 #[.val (.int p1), .val (.int p2), .val (.int p3), .val (.int p4), .val (.int (3 : Int32)), .val (.int z15), .val (.int z27), .val (.ref b1), .val (.ref b146), .val (.ref b168), .val (.ref b192), .val (.ref b218), .val (.ref b246), .val (.ref b276), .val (.ref b377), .val g526, .val g529] [x531, g526])) (fun _ k => (st531) _ k) ?_
    have ac313 := fun t => Jvm.RoadKit.acmp (target := t) (e := e) (g := (mkF m 313 #[.val (.int p1), .val (.int p2), .val (.int p3), .val (.int p4), .val (.int (3 : Int32)), .val (.int z15), .val (.int z27), .val (.ref b1), .val (.ref b146), .val (.ref b168), .val (.ref b192), .val (.ref b218), .val (.ref b246), .val (.ref b276), .val (.ref b377), .val g526, .val g529] [x531, g526])) X531 hx rfl ((Rg526.rf)).isRef (hrx531).isRef (pc0 := 313) (pc' := 316) (same := true) rfl (hb hby at_313) rfl (decide_eq_true (hg526.trans ((show own_lk [(b146, r0), (b168, r1), (b192, r2)] kq525 = own_ex z15 (3 : Int32) [r0, r1, r2, r3] from by rw [hkq525]; exact own_same3 z15 hq1 b146 b168 b192 b218 b246 r0 r1 r2 r3 ne_b146_b168 ne_b146_b192 ne_b146_b218 ne_b146_b246 ne_b168_b192 ne_b168_b218 ne_b168_b246 ne_b192_b218 ne_b192_b246 ne_b218_b246).trans hx531.symm))) (by decide) (by decide)
    refine own_st (T' := T531) (g' := (mkF m 316 #[.val (.int p1), .val (.int p2), .val (.int p3), .val (.int p4), .val (.int (3 : Int32)), .val (.int z15), .val (.int z27), .val (.ref b1), .val (.ref b146), .val (.ref b168), .val (.ref b192), .val (.ref b218), .val (.ref b246), .val (.ref b276), .val (.ref b377), .val g526, .val g529] [])) (fun _ k => (ac313) _ k) ?_
    refine own_st (T' := T531) (g' := (mkF m 318 #[.val (.int p1), .val (.int p2), .val (.int p3), .val (.int p4), .val (.int (3 : Int32)), .val (.int z15), .val (.int z27), .val (.ref b1), .val (.ref b146), .val (.ref b168), .val (.ref b192), .val (.ref b218), .val (.ref b246), .val (.ref b276), .val (.ref b377), .val g526, .val g529] [g529])) (fun _ k => Jvm.Free.XS.aload (g := (mkF m 316 #[.val (.int p1), .val (.int p2), .val (.int p3), .val (.int p4), .val (.int (3 : Int32)), .val (.int z15), .val (.int z27), .val (.ref b1), .val (.ref b146), .val (.ref b168), .val (.ref b192), .val (.ref b218), .val (.ref b246), .val (.ref b276), .val (.ref b377), .val g526, .val g529] [])) X531.here hx rfl (hb hby at_316) rfl ((Rg529.rf)).isRef k) ?_
    refine own_st (T' := T531) (g' := (mkF m 320 #[.val (.int p1), .val (.int p2), .val (.int p3), .val (.int p4), .val (.int (3 : Int32)), .val (.int z15), .val (.int z27), .val (.ref b1), .val (.ref b146), .val (.ref b168), .val (.ref b192), .val (.ref b218), .val (.ref b246), .val (.ref b276), .val (.ref b377), .val g526, .val g529] [(.int z27), g529])) (fun _ k => Jvm.Free.XS.iload (g := (mkF m 318 #[.val (.int p1), .val (.int p2), .val (.int p3), .val (.int p4), .val (.int (3 : Int32)), .val (.int z15), .val (.int z27), .val (.ref b1), .val (.ref b146), .val (.ref b168), .val (.ref b192), .val (.ref b218), .val (.ref b246), .val (.ref b276), .val (.ref b377), .val g526, .val g529] [g529])) X531.here hx rfl (hb hby at_318) rfl k) ?_
    refine own_st (T' := T531) (g' := (mkF m 322 #[.val (.int p1), .val (.int p2), .val (.int p3), .val (.int p4), .val (.int (3 : Int32)), .val (.int z15), .val (.int z27), .val (.ref b1), .val (.ref b146), .val (.ref b168), .val (.ref b192), .val (.ref b218), .val (.ref b246), .val (.ref b276), .val (.ref b377), .val g526, .val g529] [(.int (3 : Int32)), (.int z27), g529])) (fun _ k => Jvm.Free.XS.iload (g := (mkF m 320 #[.val (.int p1), .val (.int p2), .val (.int p3), .val (.int p4), .val (.int (3 : Int32)), .val (.int z15), .val (.int z27), .val (.ref b1), .val (.ref b146), .val (.ref b168), .val (.ref b192), .val (.ref b218), .val (.ref b246), .val (.ref b276), .val (.ref b377), .val g526, .val g529] [(.int z27), g529])) X531.here hx rfl (hb hby at_320) rfl k) ?_
    refine own_st (T' := T531) (g' := (mkF m 324 #[.val (.int p1), .val (.int p2), .val (.int p3), .val (.int p4), .val (.int (3 : Int32)), .val (.int z15), .val (.int z27), .val (.ref b1), .val (.ref b146), .val (.ref b168), .val (.ref b192), .val (.ref b218), .val (.ref b246), .val (.ref b276), .val (.ref b377), .val g526, .val g529] [(.ref b1), (.int (3 : Int32)), (.int z27), g529])) (fun _ k => Jvm.Free.XS.aload (g := (mkF m 322 #[.val (.int p1), .val (.int p2), .val (.int p3), .val (.int p4), .val (.int (3 : Int32)), .val (.int z15), .val (.int z27), .val (.ref b1), .val (.ref b146), .val (.ref b168), .val (.ref b192), .val (.ref b218), .val (.ref b246), .val (.ref b276), .val (.ref b377), .val g526, .val g529] [(.int (3 : Int32)), (.int z27), g529])) X531.here hx rfl (hb hby at_322) rfl rfl k) ?_
    obtain ⟨v532, T532, L532, X532, hQ532, st532⟩ := own_packS (Jvm.LawKit.callS X531 hx (y := (⟨"com/example/hollow_tree/hollowtree/query/IdentityTableGetPinLaw", "expect", "(II[[I)[I"⟩ : MethodName)) hown (mvT hZ (hw _ (List.mem_of_getElem? (i := 52) rfl))) (mvT hZ (hw _ (List.mem_of_getElem? (i := 53) rfl))) (mvT hZ (hw _ (List.mem_of_getElem? (i := 54) rfl))) (mvT hZ (hw _ (List.mem_of_getElem? (i := 55) rfl))) (by decide) (backOf (W := 1) (rm7 l Z a0 hw [] z27 (3 : Int32) b1 k1 r0 r1 r2 r3 T511.heap n0 Zs511 Fa517 (fun v hv => by
        simp only [List.mem_cons, List.not_mem_nil, or_false] at hv
        rcases hv with rfl | rfl | rfl | rfl
        · exact Fa513.rf
        · exact Fa514.rf
        · exact Fa515.rf
        · exact Fa516.rf) (own_qn _ _ hq2 (by decide))) hZ (hw _ (List.mem_of_getElem? (i := 55) rfl)) (hw _ (List.mem_of_getElem? (i := 54) rfl)) (by decide) (by decide)) (g := (mkF m 324 #[.val (.int p1), .val (.int p2), .val (.int p3), .val (.int p4), .val (.int (3 : Int32)), .val (.int z15), .val (.int z27), .val (.ref b1), .val (.ref b146), .val (.ref b168), .val (.ref b192), .val (.ref b218), .val (.ref b246), .val (.ref b276), .val (.ref b377), .val g526, .val g529] [(.ref b1), (.int (3 : Int32)), (.int z27), g529])) rfl (by rw [hml]; rfl) (argsL := [(.int z27), (.int (3 : Int32)), (.ref b1)]) (rest := [g529]) (lenOf own_pd0_2 rfl) rfl (by show 2 * 0 + _ ≤ _; simp [((Rg529.rf)).cat]) (hb hby at_324) (fun _ _ => ⟨rfl, e531, (by decide : 15 + 0 ≤ _), (by decide : 54 + 0 ≤ _)⟩))
    obtain ⟨x532, rfl, hx532, hrx532, N532q, e532⟩ := hQ532
    obtain ⟨lc532, X532, N532⟩ := own_loc X532 (Fr.app N531 N532q)
    refine own_st (T' := T532) (g' := (mkF m 327 #[.val (.int p1), .val (.int p2), .val (.int p3), .val (.int p4), .val (.int (3 : Int32)), .val (.int z15), .val (.int z27), .val (.ref b1), .val (.ref b146), .val (.ref b168), .val (.ref b192), .val (.ref b218), .val (.ref b246), .val (.ref b276), .val (.ref b377), .val g526, .val g529] [x532, g529])) (fun _ k => (st532) _ k) ?_
    have ac327 := fun t => Jvm.RoadKit.acmp (target := t) (e := e) (g := (mkF m 327 #[.val (.int p1), .val (.int p2), .val (.int p3), .val (.int p4), .val (.int (3 : Int32)), .val (.int z15), .val (.int z27), .val (.ref b1), .val (.ref b146), .val (.ref b168), .val (.ref b192), .val (.ref b218), .val (.ref b246), .val (.ref b276), .val (.ref b377), .val g526, .val g529] [x532, g529])) X532 hx rfl ((Rg529.rf)).isRef (hrx532).isRef (pc0 := 327) (pc' := 330) (same := true) rfl (hb hby at_327) rfl (decide_eq_true (hg529.trans ((show own_lk [(b146, r0), (b168, r1), (b192, r2)] kq528 = own_ex z27 (3 : Int32) [r0, r1, r2, r3] from by rw [hkq528]; exact own_same3 z27 hq2 b146 b168 b192 b218 b246 r0 r1 r2 r3 ne_b146_b168 ne_b146_b192 ne_b146_b218 ne_b146_b246 ne_b168_b192 ne_b168_b218 ne_b168_b246 ne_b192_b218 ne_b192_b246 ne_b218_b246).trans hx532.symm))) (by decide) (by decide)
    refine own_st (T' := T532) (g' := (mkF m 330 #[.val (.int p1), .val (.int p2), .val (.int p3), .val (.int p4), .val (.int (3 : Int32)), .val (.int z15), .val (.int z27), .val (.ref b1), .val (.ref b146), .val (.ref b168), .val (.ref b192), .val (.ref b218), .val (.ref b246), .val (.ref b276), .val (.ref b377), .val g526, .val g529] [])) (fun _ k => (ac327) _ k) ?_
    refine own_st (T' := T532) (g' := (mkF m 331 #[.val (.int p1), .val (.int p2), .val (.int p3), .val (.int p4), .val (.int (3 : Int32)), .val (.int z15), .val (.int z27), .val (.ref b1), .val (.ref b146), .val (.ref b168), .val (.ref b192), .val (.ref b218), .val (.ref b246), .val (.ref b276), .val (.ref b377), .val g526, .val g529] [(.int (1 : Int32))])) (fun _ k => XS.iconst (g := (mkF m 330 #[.val (.int p1), .val (.int p2), .val (.int p3), .val (.int p4), .val (.int (3 : Int32)), .val (.int z15), .val (.int z27), .val (.ref b1), .val (.ref b146), .val (.ref b168), .val (.ref b192), .val (.ref b218), .val (.ref b246), .val (.ref b276), .val (.ref b377), .val g526, .val g529] [])) X532.here hx rfl (hb hby at_330) k) ?_
    refine own_st (T' := T532) (g' := (mkF m 335 #[.val (.int p1), .val (.int p2), .val (.int p3), .val (.int p4), .val (.int (3 : Int32)), .val (.int z15), .val (.int z27), .val (.ref b1), .val (.ref b146), .val (.ref b168), .val (.ref b192), .val (.ref b218), .val (.ref b246), .val (.ref b276), .val (.ref b377), .val g526, .val g529] [(.int (1 : Int32))])) (fun _ k => XS.goto (g := (mkF m 331 #[.val (.int p1), .val (.int p2), .val (.int p3), .val (.int p4), .val (.int (3 : Int32)), .val (.int z15), .val (.int z27), .val (.ref b1), .val (.ref b146), .val (.ref b168), .val (.ref b192), .val (.ref b218), .val (.ref b246), .val (.ref b276), .val (.ref b377), .val g526, .val g529] [(.int (1 : Int32))])) X532.here hx rfl (pc0 := 331) (pc' := 335) rfl (hb hby at_331) (by decide) (by decide) k) ?_
    exact own_end (Q := Q0 Z p1 p2 p3 p4 h0 n0) (v := some (.int (nar .boolean (1 : Int32)))) X532 (fun h => by rw [Bd.returns] at h; cases h) (fun fs hr => retN X532 hx (t := .boolean) Bd.returns (by simp) (hb hby at_335) hr) (⟨rfl, N532⟩) (by decide) (by decide)
  · refine own_st (T' := T394) (g' := (mkF m 207 #[.val (.int p1), .val (.int p2), .val (.int p3), .val (.int p4), .val (.int (4 : Int32)), .val (.int z15), .val (.int z27), .val (.ref b1), .val (.ref b146), .val (.ref b168), .val (.ref b192), .val (.ref b218), .val (.ref b246), .val (.ref b276), .val (.ref b377), .unset, .unset] [(.int (4 : Int32))])) (fun _ k => Jvm.Free.XS.iload (g := (mkF m 205 #[.val (.int p1), .val (.int p2), .val (.int p3), .val (.int p4), .val (.int (4 : Int32)), .val (.int z15), .val (.int z27), .val (.ref b1), .val (.ref b146), .val (.ref b168), .val (.ref b192), .val (.ref b218), .val (.ref b246), .val (.ref b276), .val (.ref b377), .unset, .unset] [])) X394.here hx rfl (hb hby at_205) rfl k) ?_
    refine own_st (T' := T394) (g' := (mkF m 210 #[.val (.int p1), .val (.int p2), .val (.int p3), .val (.int p4), .val (.int (4 : Int32)), .val (.int z15), .val (.int z27), .val (.ref b1), .val (.ref b146), .val (.ref b168), .val (.ref b192), .val (.ref b218), .val (.ref b246), .val (.ref b276), .val (.ref b377), .unset, .unset] [])) (fun _ k => XS.ifNo (g := (mkF m 207 #[.val (.int p1), .val (.int p2), .val (.int p3), .val (.int p4), .val (.int (4 : Int32)), .val (.int z15), .val (.int z27), .val (.ref b1), .val (.ref b146), .val (.ref b168), .val (.ref b192), .val (.ref b218), .val (.ref b246), .val (.ref b276), .val (.ref b377), .unset, .unset] [(.int (4 : Int32))])) X394.here hx rfl (hb hby at_207) rfl ((if0 _ _).trans (tlt (by decide : (0 : Int32) < (4 : Int32))).2.2.2) k) ?_
    refine own_st (T' := T394) (g' := (mkF m 212 #[.val (.int p1), .val (.int p2), .val (.int p3), .val (.int p4), .val (.int (4 : Int32)), .val (.int z15), .val (.int z27), .val (.ref b1), .val (.ref b146), .val (.ref b168), .val (.ref b192), .val (.ref b218), .val (.ref b246), .val (.ref b276), .val (.ref b377), .unset, .unset] [(.ref b377)])) (fun _ k => Jvm.Free.XS.aload (g := (mkF m 210 #[.val (.int p1), .val (.int p2), .val (.int p3), .val (.int p4), .val (.int (4 : Int32)), .val (.int z15), .val (.int z27), .val (.ref b1), .val (.ref b146), .val (.ref b168), .val (.ref b192), .val (.ref b218), .val (.ref b246), .val (.ref b276), .val (.ref b377), .unset, .unset] [])) X394.here hx rfl (hb hby at_210) rfl rfl k) ?_
    refine own_st (T' := T394) (g' := (mkF m 214 #[.val (.int p1), .val (.int p2), .val (.int p3), .val (.int p4), .val (.int (4 : Int32)), .val (.int z15), .val (.int z27), .val (.ref b1), .val (.ref b146), .val (.ref b168), .val (.ref b192), .val (.ref b218), .val (.ref b246), .val (.ref b276), .val (.ref b377), .unset, .unset] [(.ref b146), (.ref b377)])) (fun _ k => Jvm.Free.XS.aload (g := (mkF m 212 #[.val (.int p1), .val (.int p2), .val (.int p3), .val (.int p4), .val (.int (4 : Int32)), .val (.int z15), .val (.int z27), .val (.ref b1), .val (.ref b146), .val (.ref b168), .val (.ref b192), .val (.ref b218), .val (.ref b246), .val (.ref b276), .val (.ref b377), .unset, .unset] [(.ref b377)])) X394.here hx rfl (hb hby at_212) rfl rfl k) ?_
    refine own_st (T' := T394) (g' := (mkF m 216 #[.val (.int p1), .val (.int p2), .val (.int p3), .val (.int p4), .val (.int (4 : Int32)), .val (.int z15), .val (.int z27), .val (.ref b1), .val (.ref b146), .val (.ref b168), .val (.ref b192), .val (.ref b218), .val (.ref b246), .val (.ref b276), .val (.ref b377), .unset, .unset] [(.ref b1), (.ref b146), (.ref b377)])) (fun _ k => Jvm.Free.XS.aload (g := (mkF m 214 #[.val (.int p1), .val (.int p2), .val (.int p3), .val (.int p4), .val (.int (4 : Int32)), .val (.int z15), .val (.int z27), .val (.ref b1), .val (.ref b146), .val (.ref b168), .val (.ref b192), .val (.ref b218), .val (.ref b246), .val (.ref b276), .val (.ref b377), .unset, .unset] [(.ref b146), (.ref b377)])) X394.here hx rfl (hb hby at_214) rfl rfl k) ?_
    refine own_st (T' := T394) (g' := (mkF m 217 #[.val (.int p1), .val (.int p2), .val (.int p3), .val (.int p4), .val (.int (4 : Int32)), .val (.int z15), .val (.int z27), .val (.ref b1), .val (.ref b146), .val (.ref b168), .val (.ref b192), .val (.ref b218), .val (.ref b246), .val (.ref b276), .val (.ref b377), .unset, .unset] [(.int (0 : Int32)), (.ref b1), (.ref b146), (.ref b377)])) (fun _ k => XS.iconst (g := (mkF m 216 #[.val (.int p1), .val (.int p2), .val (.int p3), .val (.int p4), .val (.int (4 : Int32)), .val (.int z15), .val (.int z27), .val (.ref b1), .val (.ref b146), .val (.ref b168), .val (.ref b192), .val (.ref b218), .val (.ref b246), .val (.ref b276), .val (.ref b377), .unset, .unset] [(.ref b1), (.ref b146), (.ref b377)])) X394.here hx rfl (hb hby at_216) k) ?_
    obtain ⟨cl533, Ar533, -, Sz533, Nn533, Hs533, Gs533⟩ := id Fa403
    have hin533 : ¬ ((0 : Int32) < 0 ∨ cl533.slots.size ≤ ((0 : Int32)).toNatClampNeg) := inb_of Sz533 ⟨by decide, by decide⟩
    have hat533 : cl533.slots[((0 : Int32)).toNatClampNeg]? = some r0 := Has.at Hs533 hin533 rfl
    refine own_st (T' := T394) (g' := (mkF m 218 #[.val (.int p1), .val (.int p2), .val (.int p3), .val (.int p4), .val (.int (4 : Int32)), .val (.int z15), .val (.int z27), .val (.ref b1), .val (.ref b146), .val (.ref b168), .val (.ref b192), .val (.ref b218), .val (.ref b246), .val (.ref b276), .val (.ref b377), .unset, .unset] [r0, (.ref b146), (.ref b377)])) (fun _ k => (X394.aaload hx (j := (0 : Int32)) (v := r0) Ar533.1 (State.isArrayOf_alike hZ.alike Ar533.2.1) rfl Ar533.2.2 hin533 hat533 (g := (mkF m 217 #[.val (.int p1), .val (.int p2), .val (.int p3), .val (.int p4), .val (.int (4 : Int32)), .val (.int z15), .val (.int z27), .val (.ref b1), .val (.ref b146), .val (.ref b168), .val (.ref b192), .val (.ref b218), .val (.ref b246), .val (.ref b276), .val (.ref b377), .unset, .unset] [(.int (0 : Int32)), (.ref b1), (.ref b146), (.ref b377)])) rfl rfl (hb hby at_217)) _ k) ?_
    obtain ⟨cq534, kq534, q534a, q534b, q534c⟩ := isOf hZ rfl Fq394_0
    obtain ⟨v534, T534, L534, X534, hQ534, st534⟩ := own_packV (X394.virtualBack hx (y := (⟨"com/example/hollow_tree/hollowtree/query/IdentityTable", "put", "(Ljava/lang/Object;Ljava/lang/Object;)V"⟩ : MethodName)) (z := (⟨"com/example/hollow_tree/hollowtree/query/IdentityTable", "put", "(Ljava/lang/Object;Ljava/lang/Object;)V"⟩ : MethodName)) hown (mvT hZ (hw _ (List.mem_of_getElem? (i := 56) rfl))) (mvT hZ (hw _ (List.mem_of_getElem? (i := 57) rfl))) (notFace_of_selects (args := #[]) (mvT hZ (hw _ (List.mem_of_getElem? (i := 59) rfl)))) (mvT hZ (hw _ (List.mem_of_getElem? (i := 59) rfl))) (mvT hZ (hw _ (List.mem_of_getElem? (i := 58) rfl))) (by decide) (backOf (W := 0) (rm8_0 l Z a0 hw [] b377 b146 r0 (Fa399.rf) no kN mr  T394.heap n0 Zs394 Fq394_0 Fq394_1 Fq394_2 Fa396 Fa397 (Or.inr ⟨b146, rfl, Ins.of_exa Fa404 (hw _ (List.mem_of_getElem? (i := 33) rfl))⟩) (Fa399.o (hw _ (List.mem_of_getElem? (i := 87) rfl))) gn_b377 Mm (Ne.symm ne_no_b377)) hZ (hw _ (List.mem_of_getElem? (i := 60) rfl)) (hw _ (List.mem_of_getElem? (i := 36) rfl)) (by decide) (by decide)) q534a q534c (g := (mkF m 218 #[.val (.int p1), .val (.int p2), .val (.int p3), .val (.int p4), .val (.int (4 : Int32)), .val (.int z15), .val (.int z27), .val (.ref b1), .val (.ref b146), .val (.ref b168), .val (.ref b192), .val (.ref b218), .val (.ref b246), .val (.ref b276), .val (.ref b377), .unset, .unset] [r0, (.ref b146), (.ref b377)])) rfl (by rw [hml]; rfl) (Steps.refl _) (argsL := [(.ref b146), r0]) (rest := []) (lenOf own_pd0_3 rfl) rfl (by show 2 * 0 + _ ≤ _; exact Nat.le_of_eq rfl) (hb hby at_218) (fun _ _ => ⟨rfl, rfl, (by decide : 12 + 1 ≤ _), (by decide : 30 + 8 ≤ _)⟩))
    obtain ⟨rfl, N534q, Kq534, Eq534, t534, kt534, hsz534, Fe534, Fs534, Vq534, Xq534, Oq534⟩ := hQ534
    obtain ⟨lc534, X534, N534⟩ := own_loc X534 (Fr.app N394 N534q)
    have ne_no_t534 : no ≠ t534 := Nat.ne_of_lt (Nat.lt_of_lt_of_le Fa396.lt hsz534)
    have ne_b1_t534 : b1 ≠ t534 := Nat.ne_of_lt (Nat.lt_of_lt_of_le Fa398.lt hsz534)
    have ne_b146_t534 : b146 ≠ t534 := Nat.ne_of_lt (Nat.lt_of_lt_of_le Fa404.lt hsz534)
    have ne_b168_t534 : b168 ≠ t534 := Nat.ne_of_lt (Nat.lt_of_lt_of_le Fa405.lt hsz534)
    have ne_b192_t534 : b192 ≠ t534 := Nat.ne_of_lt (Nat.lt_of_lt_of_le Fa406.lt hsz534)
    have ne_b218_t534 : b218 ≠ t534 := Nat.ne_of_lt (Nat.lt_of_lt_of_le Fa407.lt hsz534)
    have ne_b246_t534 : b246 ≠ t534 := Nat.ne_of_lt (Nat.lt_of_lt_of_le Fa408.lt hsz534)
    have ne_b276_t534 : b276 ≠ t534 := Nat.ne_of_lt (Nat.lt_of_lt_of_le Fa409.lt hsz534)
    have ne_b377_t534 : b377 ≠ t534 := Nat.ne_of_lt (Nat.lt_of_lt_of_le Fq394_0.lt hsz534)
    have gn_t534 : n0 ≤ t534 := Nat.le_trans Zs394 hsz534
    have Zs534 : n0 ≤ T534.heap.size := Nat.le_trans Zs394 Kq534.1
    have Fa535 : Exa Z T534.heap b1 "[[I" := Fa398.keep Kq534
    have Fa536 : own_R Z T534.heap r0 := Fa399.keep Kq534
    have Fa537 : own_R Z T534.heap r1 := Fa400.keep Kq534
    have Fa538 : own_R Z T534.heap r2 := Fa401.keep Kq534
    have Fa539 : own_R Z T534.heap r3 := Fa402.keep Kq534
    have Fa540 : Arv Z T534.heap b1 k1 (.array .int) (4 : Int32) [r0, r1, r2, r3] .null := Fa403.keep Kq534 (ninS ne_b1_b377 nin0)
    have Fa541 : Exa Z T534.heap b146 "java/util/ArrayList" := Fa404.keep Kq534
    have Fa542 : Exa Z T534.heap b168 "java/util/ArrayList" := Fa405.keep Kq534
    have Fa543 : Exa Z T534.heap b192 "java/util/ArrayList" := Fa406.keep Kq534
    have Fa544 : Exa Z T534.heap b218 "java/util/ArrayList" := Fa407.keep Kq534
    have Fa545 : Exa Z T534.heap b246 "java/util/ArrayList" := Fa408.keep Kq534
    have Fa546 : Exa Z T534.heap b276 "[Ljava/lang/Object;" := Fa409.keep Kq534
    have Fa547 : Arv Z T534.heap b276 k276 (.object "java/lang/Object") (5 : Int32) [(.ref b146), (.ref b168), (.ref b192), (.ref b218), (.ref b246)] .null := Fa410.keep Kq534 (ninS ne_b276_b377 nin0)
    refine own_st (T' := T534) (g' := (mkF m 221 #[.val (.int p1), .val (.int p2), .val (.int p3), .val (.int p4), .val (.int (4 : Int32)), .val (.int z15), .val (.int z27), .val (.ref b1), .val (.ref b146), .val (.ref b168), .val (.ref b192), .val (.ref b218), .val (.ref b246), .val (.ref b276), .val (.ref b377), .unset, .unset] [])) (fun _ k => (st534) _ k) ?_
    refine own_st (T' := T534) (g' := (mkF m 223 #[.val (.int p1), .val (.int p2), .val (.int p3), .val (.int p4), .val (.int (4 : Int32)), .val (.int z15), .val (.int z27), .val (.ref b1), .val (.ref b146), .val (.ref b168), .val (.ref b192), .val (.ref b218), .val (.ref b246), .val (.ref b276), .val (.ref b377), .unset, .unset] [(.int (4 : Int32))])) (fun _ k => Jvm.Free.XS.iload (g := (mkF m 221 #[.val (.int p1), .val (.int p2), .val (.int p3), .val (.int p4), .val (.int (4 : Int32)), .val (.int z15), .val (.int z27), .val (.ref b1), .val (.ref b146), .val (.ref b168), .val (.ref b192), .val (.ref b218), .val (.ref b246), .val (.ref b276), .val (.ref b377), .unset, .unset] [])) X534.here hx rfl (hb hby at_221) rfl k) ?_
    refine own_st (T' := T534) (g' := (mkF m 224 #[.val (.int p1), .val (.int p2), .val (.int p3), .val (.int p4), .val (.int (4 : Int32)), .val (.int z15), .val (.int z27), .val (.ref b1), .val (.ref b146), .val (.ref b168), .val (.ref b192), .val (.ref b218), .val (.ref b246), .val (.ref b276), .val (.ref b377), .unset, .unset] [(.int (1 : Int32)), (.int (4 : Int32))])) (fun _ k => XS.iconst (g := (mkF m 223 #[.val (.int p1), .val (.int p2), .val (.int p3), .val (.int p4), .val (.int (4 : Int32)), .val (.int z15), .val (.int z27), .val (.ref b1), .val (.ref b146), .val (.ref b168), .val (.ref b192), .val (.ref b218), .val (.ref b246), .val (.ref b276), .val (.ref b377), .unset, .unset] [(.int (4 : Int32))])) X534.here hx rfl (hb hby at_223) k) ?_
    refine own_st (T' := T534) (g' := (mkF m 227 #[.val (.int p1), .val (.int p2), .val (.int p3), .val (.int p4), .val (.int (4 : Int32)), .val (.int z15), .val (.int z27), .val (.ref b1), .val (.ref b146), .val (.ref b168), .val (.ref b192), .val (.ref b218), .val (.ref b246), .val (.ref b276), .val (.ref b377), .unset, .unset] [])) (fun _ k => XS.icmpNo (g := (mkF m 224 #[.val (.int p1), .val (.int p2), .val (.int p3), .val (.int p4), .val (.int (4 : Int32)), .val (.int z15), .val (.int z27), .val (.ref b1), .val (.ref b146), .val (.ref b168), .val (.ref b192), .val (.ref b218), .val (.ref b246), .val (.ref b276), .val (.ref b377), .unset, .unset] [(.int (1 : Int32)), (.int (4 : Int32))])) X534.here hx rfl (hb hby at_224) rfl (tlt (by decide : (1 : Int32) < (4 : Int32))).2.2.2 k) ?_
    refine own_st (T' := T534) (g' := (mkF m 229 #[.val (.int p1), .val (.int p2), .val (.int p3), .val (.int p4), .val (.int (4 : Int32)), .val (.int z15), .val (.int z27), .val (.ref b1), .val (.ref b146), .val (.ref b168), .val (.ref b192), .val (.ref b218), .val (.ref b246), .val (.ref b276), .val (.ref b377), .unset, .unset] [(.ref b377)])) (fun _ k => Jvm.Free.XS.aload (g := (mkF m 227 #[.val (.int p1), .val (.int p2), .val (.int p3), .val (.int p4), .val (.int (4 : Int32)), .val (.int z15), .val (.int z27), .val (.ref b1), .val (.ref b146), .val (.ref b168), .val (.ref b192), .val (.ref b218), .val (.ref b246), .val (.ref b276), .val (.ref b377), .unset, .unset] [])) X534.here hx rfl (hb hby at_227) rfl rfl k) ?_
    refine own_st (T' := T534) (g' := (mkF m 231 #[.val (.int p1), .val (.int p2), .val (.int p3), .val (.int p4), .val (.int (4 : Int32)), .val (.int z15), .val (.int z27), .val (.ref b1), .val (.ref b146), .val (.ref b168), .val (.ref b192), .val (.ref b218), .val (.ref b246), .val (.ref b276), .val (.ref b377), .unset, .unset] [(.ref b168), (.ref b377)])) (fun _ k => Jvm.Free.XS.aload (g := (mkF m 229 #[.val (.int p1), .val (.int p2), .val (.int p3), .val (.int p4), .val (.int (4 : Int32)), .val (.int z15), .val (.int z27), .val (.ref b1), .val (.ref b146), .val (.ref b168), .val (.ref b192), .val (.ref b218), .val (.ref b246), .val (.ref b276), .val (.ref b377), .unset, .unset] [(.ref b377)])) X534.here hx rfl (hb hby at_229) rfl rfl k) ?_
    refine own_st (T' := T534) (g' := (mkF m 233 #[.val (.int p1), .val (.int p2), .val (.int p3), .val (.int p4), .val (.int (4 : Int32)), .val (.int z15), .val (.int z27), .val (.ref b1), .val (.ref b146), .val (.ref b168), .val (.ref b192), .val (.ref b218), .val (.ref b246), .val (.ref b276), .val (.ref b377), .unset, .unset] [(.ref b1), (.ref b168), (.ref b377)])) (fun _ k => Jvm.Free.XS.aload (g := (mkF m 231 #[.val (.int p1), .val (.int p2), .val (.int p3), .val (.int p4), .val (.int (4 : Int32)), .val (.int z15), .val (.int z27), .val (.ref b1), .val (.ref b146), .val (.ref b168), .val (.ref b192), .val (.ref b218), .val (.ref b246), .val (.ref b276), .val (.ref b377), .unset, .unset] [(.ref b168), (.ref b377)])) X534.here hx rfl (hb hby at_231) rfl rfl k) ?_
    refine own_st (T' := T534) (g' := (mkF m 234 #[.val (.int p1), .val (.int p2), .val (.int p3), .val (.int p4), .val (.int (4 : Int32)), .val (.int z15), .val (.int z27), .val (.ref b1), .val (.ref b146), .val (.ref b168), .val (.ref b192), .val (.ref b218), .val (.ref b246), .val (.ref b276), .val (.ref b377), .unset, .unset] [(.int (1 : Int32)), (.ref b1), (.ref b168), (.ref b377)])) (fun _ k => XS.iconst (g := (mkF m 233 #[.val (.int p1), .val (.int p2), .val (.int p3), .val (.int p4), .val (.int (4 : Int32)), .val (.int z15), .val (.int z27), .val (.ref b1), .val (.ref b146), .val (.ref b168), .val (.ref b192), .val (.ref b218), .val (.ref b246), .val (.ref b276), .val (.ref b377), .unset, .unset] [(.ref b1), (.ref b168), (.ref b377)])) X534.here hx rfl (hb hby at_233) k) ?_
    obtain ⟨cl548, Ar548, -, Sz548, Nn548, Hs548, Gs548⟩ := id Fa540
    have hin548 : ¬ ((1 : Int32) < 0 ∨ cl548.slots.size ≤ ((1 : Int32)).toNatClampNeg) := inb_of Sz548 ⟨by decide, by decide⟩
    have hat548 : cl548.slots[((1 : Int32)).toNatClampNeg]? = some r1 := Has.at Hs548 hin548 rfl
    refine own_st (T' := T534) (g' := (mkF m 235 #[.val (.int p1), .val (.int p2), .val (.int p3), .val (.int p4), .val (.int (4 : Int32)), .val (.int z15), .val (.int z27), .val (.ref b1), .val (.ref b146), .val (.ref b168), .val (.ref b192), .val (.ref b218), .val (.ref b246), .val (.ref b276), .val (.ref b377), .unset, .unset] [r1, (.ref b168), (.ref b377)])) (fun _ k => (X534.aaload hx (j := (1 : Int32)) (v := r1) Ar548.1 (State.isArrayOf_alike hZ.alike Ar548.2.1) rfl Ar548.2.2 hin548 hat548 (g := (mkF m 234 #[.val (.int p1), .val (.int p2), .val (.int p3), .val (.int p4), .val (.int (4 : Int32)), .val (.int z15), .val (.int z27), .val (.ref b1), .val (.ref b146), .val (.ref b168), .val (.ref b192), .val (.ref b218), .val (.ref b246), .val (.ref b276), .val (.ref b377), .unset, .unset] [(.int (1 : Int32)), (.ref b1), (.ref b168), (.ref b377)])) rfl rfl (hb hby at_234)) _ k) ?_
    obtain ⟨cq549, kq549, q549a, q549b, q549c⟩ := isOf hZ rfl Eq534
    obtain ⟨v549, T549, L549, X549, hQ549, st549⟩ := own_packV (X534.virtualBack hx (y := (⟨"com/example/hollow_tree/hollowtree/query/IdentityTable", "put", "(Ljava/lang/Object;Ljava/lang/Object;)V"⟩ : MethodName)) (z := (⟨"com/example/hollow_tree/hollowtree/query/IdentityTable", "put", "(Ljava/lang/Object;Ljava/lang/Object;)V"⟩ : MethodName)) hown (mvT hZ (hw _ (List.mem_of_getElem? (i := 56) rfl))) (mvT hZ (hw _ (List.mem_of_getElem? (i := 57) rfl))) (notFace_of_selects (args := #[]) (mvT hZ (hw _ (List.mem_of_getElem? (i := 59) rfl)))) (mvT hZ (hw _ (List.mem_of_getElem? (i := 59) rfl))) (mvT hZ (hw _ (List.mem_of_getElem? (i := 58) rfl))) (by decide) (backOf (W := 0) (rm8_1 l Z a0 hw [] b377 b168 r1 (Fa537.rf) t534 kt534 mr (.ref b146) r0 T534.heap n0 Zs534 Eq534 Fe534 Fs534 Vq534 Xq534 (Or.inr ⟨b146, rfl, Ins.of_exa Fa541 (hw _ (List.mem_of_getElem? (i := 33) rfl))⟩) (Fa536.o (hw _ (List.mem_of_getElem? (i := 87) rfl))) (Or.inr ⟨b168, rfl, Ins.of_exa Fa542 (hw _ (List.mem_of_getElem? (i := 33) rfl))⟩) (Fa537.o (hw _ (List.mem_of_getElem? (i := 87) rfl))) gn_b377 Mm ne_b377_t534) hZ (hw _ (List.mem_of_getElem? (i := 60) rfl)) (hw _ (List.mem_of_getElem? (i := 36) rfl)) (by decide) (by decide)) q549a q549c (g := (mkF m 235 #[.val (.int p1), .val (.int p2), .val (.int p3), .val (.int p4), .val (.int (4 : Int32)), .val (.int z15), .val (.int z27), .val (.ref b1), .val (.ref b146), .val (.ref b168), .val (.ref b192), .val (.ref b218), .val (.ref b246), .val (.ref b276), .val (.ref b377), .unset, .unset] [r1, (.ref b168), (.ref b377)])) rfl (by rw [hml]; rfl) (Steps.refl _) (argsL := [(.ref b168), r1]) (rest := []) (lenOf own_pd0_3 rfl) rfl (by show 2 * 0 + _ ≤ _; exact Nat.le_of_eq rfl) (hb hby at_235) (fun _ _ => ⟨rfl, rfl, (by decide : 13 + 1 ≤ _), (by decide : 38 + 8 ≤ _)⟩))
    obtain ⟨rfl, N549q, Kq549, Eq549, t549, kt549, hsz549, Fe549, Fs549, Vq549, Xq549, Oq549⟩ := hQ549
    obtain ⟨lc549, X549, N549⟩ := own_loc X549 (Fr.app N534 N549q)
    have ne_b1_t549 : b1 ≠ t549 := Nat.ne_of_lt (Nat.lt_of_lt_of_le Fa535.lt hsz549)
    have ne_b146_t549 : b146 ≠ t549 := Nat.ne_of_lt (Nat.lt_of_lt_of_le Fa541.lt hsz549)
    have ne_b168_t549 : b168 ≠ t549 := Nat.ne_of_lt (Nat.lt_of_lt_of_le Fa542.lt hsz549)
    have ne_b192_t549 : b192 ≠ t549 := Nat.ne_of_lt (Nat.lt_of_lt_of_le Fa543.lt hsz549)
    have ne_b218_t549 : b218 ≠ t549 := Nat.ne_of_lt (Nat.lt_of_lt_of_le Fa544.lt hsz549)
    have ne_b246_t549 : b246 ≠ t549 := Nat.ne_of_lt (Nat.lt_of_lt_of_le Fa545.lt hsz549)
    have ne_b276_t549 : b276 ≠ t549 := Nat.ne_of_lt (Nat.lt_of_lt_of_le Fa546.lt hsz549)
    have ne_b377_t549 : b377 ≠ t549 := Nat.ne_of_lt (Nat.lt_of_lt_of_le Eq534.lt hsz549)
    have ne_t534_t549 : t534 ≠ t549 := Nat.ne_of_lt (Nat.lt_of_lt_of_le Vq534.lt hsz549)
    have gn_t549 : n0 ≤ t549 := Nat.le_trans Zs534 hsz549
    have Zs549 : n0 ≤ T549.heap.size := Nat.le_trans Zs534 Kq549.1
    have Fa550 : Exa Z T549.heap b1 "[[I" := Fa535.keep Kq549
    have Fa551 : own_R Z T549.heap r0 := Fa536.keep Kq549
    have Fa552 : own_R Z T549.heap r1 := Fa537.keep Kq549
    have Fa553 : own_R Z T549.heap r2 := Fa538.keep Kq549
    have Fa554 : own_R Z T549.heap r3 := Fa539.keep Kq549
    have Fa555 : Arv Z T549.heap b1 k1 (.array .int) (4 : Int32) [r0, r1, r2, r3] .null := Fa540.keep Kq549 (ninS ne_b1_b377 nin0)
    have Fa556 : Exa Z T549.heap b146 "java/util/ArrayList" := Fa541.keep Kq549
    have Fa557 : Exa Z T549.heap b168 "java/util/ArrayList" := Fa542.keep Kq549
    have Fa558 : Exa Z T549.heap b192 "java/util/ArrayList" := Fa543.keep Kq549
    have Fa559 : Exa Z T549.heap b218 "java/util/ArrayList" := Fa544.keep Kq549
    have Fa560 : Exa Z T549.heap b246 "java/util/ArrayList" := Fa545.keep Kq549
    have Fa561 : Exa Z T549.heap b276 "[Ljava/lang/Object;" := Fa546.keep Kq549
    have Fa562 : Arv Z T549.heap b276 k276 (.object "java/lang/Object") (5 : Int32) [(.ref b146), (.ref b168), (.ref b192), (.ref b218), (.ref b246)] .null := Fa547.keep Kq549 (ninS ne_b276_b377 nin0)
    refine own_st (T' := T549) (g' := (mkF m 238 #[.val (.int p1), .val (.int p2), .val (.int p3), .val (.int p4), .val (.int (4 : Int32)), .val (.int z15), .val (.int z27), .val (.ref b1), .val (.ref b146), .val (.ref b168), .val (.ref b192), .val (.ref b218), .val (.ref b246), .val (.ref b276), .val (.ref b377), .unset, .unset] [])) (fun _ k => (st549) _ k) ?_
    refine own_st (T' := T549) (g' := (mkF m 240 #[.val (.int p1), .val (.int p2), .val (.int p3), .val (.int p4), .val (.int (4 : Int32)), .val (.int z15), .val (.int z27), .val (.ref b1), .val (.ref b146), .val (.ref b168), .val (.ref b192), .val (.ref b218), .val (.ref b246), .val (.ref b276), .val (.ref b377), .unset, .unset] [(.int (4 : Int32))])) (fun _ k => Jvm.Free.XS.iload (g := (mkF m 238 #[.val (.int p1), .val (.int p2), .val (.int p3), .val (.int p4), .val (.int (4 : Int32)), .val (.int z15), .val (.int z27), .val (.ref b1), .val (.ref b146), .val (.ref b168), .val (.ref b192), .val (.ref b218), .val (.ref b246), .val (.ref b276), .val (.ref b377), .unset, .unset] [])) X549.here hx rfl (hb hby at_238) rfl k) ?_
    refine own_st (T' := T549) (g' := (mkF m 241 #[.val (.int p1), .val (.int p2), .val (.int p3), .val (.int p4), .val (.int (4 : Int32)), .val (.int z15), .val (.int z27), .val (.ref b1), .val (.ref b146), .val (.ref b168), .val (.ref b192), .val (.ref b218), .val (.ref b246), .val (.ref b276), .val (.ref b377), .unset, .unset] [(.int (2 : Int32)), (.int (4 : Int32))])) (fun _ k => XS.iconst (g := (mkF m 240 #[.val (.int p1), .val (.int p2), .val (.int p3), .val (.int p4), .val (.int (4 : Int32)), .val (.int z15), .val (.int z27), .val (.ref b1), .val (.ref b146), .val (.ref b168), .val (.ref b192), .val (.ref b218), .val (.ref b246), .val (.ref b276), .val (.ref b377), .unset, .unset] [(.int (4 : Int32))])) X549.here hx rfl (hb hby at_240) k) ?_
    refine own_st (T' := T549) (g' := (mkF m 244 #[.val (.int p1), .val (.int p2), .val (.int p3), .val (.int p4), .val (.int (4 : Int32)), .val (.int z15), .val (.int z27), .val (.ref b1), .val (.ref b146), .val (.ref b168), .val (.ref b192), .val (.ref b218), .val (.ref b246), .val (.ref b276), .val (.ref b377), .unset, .unset] [])) (fun _ k => XS.icmpNo (g := (mkF m 241 #[.val (.int p1), .val (.int p2), .val (.int p3), .val (.int p4), .val (.int (4 : Int32)), .val (.int z15), .val (.int z27), .val (.ref b1), .val (.ref b146), .val (.ref b168), .val (.ref b192), .val (.ref b218), .val (.ref b246), .val (.ref b276), .val (.ref b377), .unset, .unset] [(.int (2 : Int32)), (.int (4 : Int32))])) X549.here hx rfl (hb hby at_241) rfl (tlt (by decide : (2 : Int32) < (4 : Int32))).2.2.2 k) ?_
    refine own_st (T' := T549) (g' := (mkF m 246 #[.val (.int p1), .val (.int p2), .val (.int p3), .val (.int p4), .val (.int (4 : Int32)), .val (.int z15), .val (.int z27), .val (.ref b1), .val (.ref b146), .val (.ref b168), .val (.ref b192), .val (.ref b218), .val (.ref b246), .val (.ref b276), .val (.ref b377), .unset, .unset] [(.ref b377)])) (fun _ k => Jvm.Free.XS.aload (g := (mkF m 244 #[.val (.int p1), .val (.int p2), .val (.int p3), .val (.int p4), .val (.int (4 : Int32)), .val (.int z15), .val (.int z27), .val (.ref b1), .val (.ref b146), .val (.ref b168), .val (.ref b192), .val (.ref b218), .val (.ref b246), .val (.ref b276), .val (.ref b377), .unset, .unset] [])) X549.here hx rfl (hb hby at_244) rfl rfl k) ?_
    refine own_st (T' := T549) (g' := (mkF m 248 #[.val (.int p1), .val (.int p2), .val (.int p3), .val (.int p4), .val (.int (4 : Int32)), .val (.int z15), .val (.int z27), .val (.ref b1), .val (.ref b146), .val (.ref b168), .val (.ref b192), .val (.ref b218), .val (.ref b246), .val (.ref b276), .val (.ref b377), .unset, .unset] [(.ref b192), (.ref b377)])) (fun _ k => Jvm.Free.XS.aload (g := (mkF m 246 #[.val (.int p1), .val (.int p2), .val (.int p3), .val (.int p4), .val (.int (4 : Int32)), .val (.int z15), .val (.int z27), .val (.ref b1), .val (.ref b146), .val (.ref b168), .val (.ref b192), .val (.ref b218), .val (.ref b246), .val (.ref b276), .val (.ref b377), .unset, .unset] [(.ref b377)])) X549.here hx rfl (hb hby at_246) rfl rfl k) ?_
    refine own_st (T' := T549) (g' := (mkF m 250 #[.val (.int p1), .val (.int p2), .val (.int p3), .val (.int p4), .val (.int (4 : Int32)), .val (.int z15), .val (.int z27), .val (.ref b1), .val (.ref b146), .val (.ref b168), .val (.ref b192), .val (.ref b218), .val (.ref b246), .val (.ref b276), .val (.ref b377), .unset, .unset] [(.ref b1), (.ref b192), (.ref b377)])) (fun _ k => Jvm.Free.XS.aload (g := (mkF m 248 #[.val (.int p1), .val (.int p2), .val (.int p3), .val (.int p4), .val (.int (4 : Int32)), .val (.int z15), .val (.int z27), .val (.ref b1), .val (.ref b146), .val (.ref b168), .val (.ref b192), .val (.ref b218), .val (.ref b246), .val (.ref b276), .val (.ref b377), .unset, .unset] [(.ref b192), (.ref b377)])) X549.here hx rfl (hb hby at_248) rfl rfl k) ?_
    refine own_st (T' := T549) (g' := (mkF m 251 #[.val (.int p1), .val (.int p2), .val (.int p3), .val (.int p4), .val (.int (4 : Int32)), .val (.int z15), .val (.int z27), .val (.ref b1), .val (.ref b146), .val (.ref b168), .val (.ref b192), .val (.ref b218), .val (.ref b246), .val (.ref b276), .val (.ref b377), .unset, .unset] [(.int (2 : Int32)), (.ref b1), (.ref b192), (.ref b377)])) (fun _ k => XS.iconst (g := (mkF m 250 #[.val (.int p1), .val (.int p2), .val (.int p3), .val (.int p4), .val (.int (4 : Int32)), .val (.int z15), .val (.int z27), .val (.ref b1), .val (.ref b146), .val (.ref b168), .val (.ref b192), .val (.ref b218), .val (.ref b246), .val (.ref b276), .val (.ref b377), .unset, .unset] [(.ref b1), (.ref b192), (.ref b377)])) X549.here hx rfl (hb hby at_250) k) ?_
    obtain ⟨cl563, Ar563, -, Sz563, Nn563, Hs563, Gs563⟩ := id Fa555
    have hin563 : ¬ ((2 : Int32) < 0 ∨ cl563.slots.size ≤ ((2 : Int32)).toNatClampNeg) := inb_of Sz563 ⟨by decide, by decide⟩
    have hat563 : cl563.slots[((2 : Int32)).toNatClampNeg]? = some r2 := Has.at Hs563 hin563 rfl
    refine own_st (T' := T549) (g' := (mkF m 252 #[.val (.int p1), .val (.int p2), .val (.int p3), .val (.int p4), .val (.int (4 : Int32)), .val (.int z15), .val (.int z27), .val (.ref b1), .val (.ref b146), .val (.ref b168), .val (.ref b192), .val (.ref b218), .val (.ref b246), .val (.ref b276), .val (.ref b377), .unset, .unset] [r2, (.ref b192), (.ref b377)])) (fun _ k => (X549.aaload hx (j := (2 : Int32)) (v := r2) Ar563.1 (State.isArrayOf_alike hZ.alike Ar563.2.1) rfl Ar563.2.2 hin563 hat563 (g := (mkF m 251 #[.val (.int p1), .val (.int p2), .val (.int p3), .val (.int p4), .val (.int (4 : Int32)), .val (.int z15), .val (.int z27), .val (.ref b1), .val (.ref b146), .val (.ref b168), .val (.ref b192), .val (.ref b218), .val (.ref b246), .val (.ref b276), .val (.ref b377), .unset, .unset] [(.int (2 : Int32)), (.ref b1), (.ref b192), (.ref b377)])) rfl rfl (hb hby at_251)) _ k) ?_
    obtain ⟨cq564, kq564, q564a, q564b, q564c⟩ := isOf hZ rfl Eq549
    obtain ⟨v564, T564, L564, X564, hQ564, st564⟩ := own_packV (X549.virtualBack hx (y := (⟨"com/example/hollow_tree/hollowtree/query/IdentityTable", "put", "(Ljava/lang/Object;Ljava/lang/Object;)V"⟩ : MethodName)) (z := (⟨"com/example/hollow_tree/hollowtree/query/IdentityTable", "put", "(Ljava/lang/Object;Ljava/lang/Object;)V"⟩ : MethodName)) hown (mvT hZ (hw _ (List.mem_of_getElem? (i := 56) rfl))) (mvT hZ (hw _ (List.mem_of_getElem? (i := 57) rfl))) (notFace_of_selects (args := #[]) (mvT hZ (hw _ (List.mem_of_getElem? (i := 59) rfl)))) (mvT hZ (hw _ (List.mem_of_getElem? (i := 59) rfl))) (mvT hZ (hw _ (List.mem_of_getElem? (i := 58) rfl))) (by decide) (backOf (W := 0) (rm8_2 l Z a0 hw [] b377 b192 r2 (Fa553.rf) t549 kt549 mr (.ref b146) r0 (.ref b168) r1 T549.heap n0 Zs549 Eq549 Fe549 Fs549 Vq549 Xq549 (Or.inr ⟨b146, rfl, Ins.of_exa Fa556 (hw _ (List.mem_of_getElem? (i := 33) rfl))⟩) (Fa551.o (hw _ (List.mem_of_getElem? (i := 87) rfl))) (Or.inr ⟨b168, rfl, Ins.of_exa Fa557 (hw _ (List.mem_of_getElem? (i := 33) rfl))⟩) (Fa552.o (hw _ (List.mem_of_getElem? (i := 87) rfl))) (Or.inr ⟨b192, rfl, Ins.of_exa Fa558 (hw _ (List.mem_of_getElem? (i := 33) rfl))⟩) (Fa553.o (hw _ (List.mem_of_getElem? (i := 87) rfl))) gn_b377 Mm ne_b377_t549) hZ (hw _ (List.mem_of_getElem? (i := 60) rfl)) (hw _ (List.mem_of_getElem? (i := 36) rfl)) (by decide) (by decide)) q564a q564c (g := (mkF m 252 #[.val (.int p1), .val (.int p2), .val (.int p3), .val (.int p4), .val (.int (4 : Int32)), .val (.int z15), .val (.int z27), .val (.ref b1), .val (.ref b146), .val (.ref b168), .val (.ref b192), .val (.ref b218), .val (.ref b246), .val (.ref b276), .val (.ref b377), .unset, .unset] [r2, (.ref b192), (.ref b377)])) rfl (by rw [hml]; rfl) (Steps.refl _) (argsL := [(.ref b192), r2]) (rest := []) (lenOf own_pd0_3 rfl) rfl (by show 2 * 0 + _ ≤ _; exact Nat.le_of_eq rfl) (hb hby at_252) (fun _ _ => ⟨rfl, rfl, (by decide : 14 + 1 ≤ _), (by decide : 46 + 8 ≤ _)⟩))
    obtain ⟨rfl, N564q, Kq564, Eq564, t564, kt564, hsz564, Fe564, Fs564, Vq564, Xq564, Oq564⟩ := hQ564
    obtain ⟨lc564, X564, N564⟩ := own_loc X564 (Fr.app N549 N564q)
    have ne_b1_t564 : b1 ≠ t564 := Nat.ne_of_lt (Nat.lt_of_lt_of_le Fa550.lt hsz564)
    have ne_b146_t564 : b146 ≠ t564 := Nat.ne_of_lt (Nat.lt_of_lt_of_le Fa556.lt hsz564)
    have ne_b168_t564 : b168 ≠ t564 := Nat.ne_of_lt (Nat.lt_of_lt_of_le Fa557.lt hsz564)
    have ne_b192_t564 : b192 ≠ t564 := Nat.ne_of_lt (Nat.lt_of_lt_of_le Fa558.lt hsz564)
    have ne_b218_t564 : b218 ≠ t564 := Nat.ne_of_lt (Nat.lt_of_lt_of_le Fa559.lt hsz564)
    have ne_b246_t564 : b246 ≠ t564 := Nat.ne_of_lt (Nat.lt_of_lt_of_le Fa560.lt hsz564)
    have ne_b276_t564 : b276 ≠ t564 := Nat.ne_of_lt (Nat.lt_of_lt_of_le Fa561.lt hsz564)
    have ne_b377_t564 : b377 ≠ t564 := Nat.ne_of_lt (Nat.lt_of_lt_of_le Eq549.lt hsz564)
    have ne_t549_t564 : t549 ≠ t564 := Nat.ne_of_lt (Nat.lt_of_lt_of_le Vq549.lt hsz564)
    have gn_t564 : n0 ≤ t564 := Nat.le_trans Zs549 hsz564
    have Zs564 : n0 ≤ T564.heap.size := Nat.le_trans Zs549 Kq564.1
    have Fa565 : Exa Z T564.heap b1 "[[I" := Fa550.keep Kq564
    have Fa566 : own_R Z T564.heap r0 := Fa551.keep Kq564
    have Fa567 : own_R Z T564.heap r1 := Fa552.keep Kq564
    have Fa568 : own_R Z T564.heap r2 := Fa553.keep Kq564
    have Fa569 : own_R Z T564.heap r3 := Fa554.keep Kq564
    have Fa570 : Arv Z T564.heap b1 k1 (.array .int) (4 : Int32) [r0, r1, r2, r3] .null := Fa555.keep Kq564 (ninS ne_b1_b377 nin0)
    have Fa571 : Exa Z T564.heap b146 "java/util/ArrayList" := Fa556.keep Kq564
    have Fa572 : Exa Z T564.heap b168 "java/util/ArrayList" := Fa557.keep Kq564
    have Fa573 : Exa Z T564.heap b192 "java/util/ArrayList" := Fa558.keep Kq564
    have Fa574 : Exa Z T564.heap b218 "java/util/ArrayList" := Fa559.keep Kq564
    have Fa575 : Exa Z T564.heap b246 "java/util/ArrayList" := Fa560.keep Kq564
    have Fa576 : Exa Z T564.heap b276 "[Ljava/lang/Object;" := Fa561.keep Kq564
    have Fa577 : Arv Z T564.heap b276 k276 (.object "java/lang/Object") (5 : Int32) [(.ref b146), (.ref b168), (.ref b192), (.ref b218), (.ref b246)] .null := Fa562.keep Kq564 (ninS ne_b276_b377 nin0)
    refine own_st (T' := T564) (g' := (mkF m 255 #[.val (.int p1), .val (.int p2), .val (.int p3), .val (.int p4), .val (.int (4 : Int32)), .val (.int z15), .val (.int z27), .val (.ref b1), .val (.ref b146), .val (.ref b168), .val (.ref b192), .val (.ref b218), .val (.ref b246), .val (.ref b276), .val (.ref b377), .unset, .unset] [])) (fun _ k => (st564) _ k) ?_
    refine own_st (T' := T564) (g' := (mkF m 257 #[.val (.int p1), .val (.int p2), .val (.int p3), .val (.int p4), .val (.int (4 : Int32)), .val (.int z15), .val (.int z27), .val (.ref b1), .val (.ref b146), .val (.ref b168), .val (.ref b192), .val (.ref b218), .val (.ref b246), .val (.ref b276), .val (.ref b377), .unset, .unset] [(.int (4 : Int32))])) (fun _ k => Jvm.Free.XS.iload (g := (mkF m 255 #[.val (.int p1), .val (.int p2), .val (.int p3), .val (.int p4), .val (.int (4 : Int32)), .val (.int z15), .val (.int z27), .val (.ref b1), .val (.ref b146), .val (.ref b168), .val (.ref b192), .val (.ref b218), .val (.ref b246), .val (.ref b276), .val (.ref b377), .unset, .unset] [])) X564.here hx rfl (hb hby at_255) rfl k) ?_
    refine own_st (T' := T564) (g' := (mkF m 258 #[.val (.int p1), .val (.int p2), .val (.int p3), .val (.int p4), .val (.int (4 : Int32)), .val (.int z15), .val (.int z27), .val (.ref b1), .val (.ref b146), .val (.ref b168), .val (.ref b192), .val (.ref b218), .val (.ref b246), .val (.ref b276), .val (.ref b377), .unset, .unset] [(.int (3 : Int32)), (.int (4 : Int32))])) (fun _ k => XS.iconst (g := (mkF m 257 #[.val (.int p1), .val (.int p2), .val (.int p3), .val (.int p4), .val (.int (4 : Int32)), .val (.int z15), .val (.int z27), .val (.ref b1), .val (.ref b146), .val (.ref b168), .val (.ref b192), .val (.ref b218), .val (.ref b246), .val (.ref b276), .val (.ref b377), .unset, .unset] [(.int (4 : Int32))])) X564.here hx rfl (hb hby at_257) k) ?_
    refine own_st (T' := T564) (g' := (mkF m 261 #[.val (.int p1), .val (.int p2), .val (.int p3), .val (.int p4), .val (.int (4 : Int32)), .val (.int z15), .val (.int z27), .val (.ref b1), .val (.ref b146), .val (.ref b168), .val (.ref b192), .val (.ref b218), .val (.ref b246), .val (.ref b276), .val (.ref b377), .unset, .unset] [])) (fun _ k => XS.icmpNo (g := (mkF m 258 #[.val (.int p1), .val (.int p2), .val (.int p3), .val (.int p4), .val (.int (4 : Int32)), .val (.int z15), .val (.int z27), .val (.ref b1), .val (.ref b146), .val (.ref b168), .val (.ref b192), .val (.ref b218), .val (.ref b246), .val (.ref b276), .val (.ref b377), .unset, .unset] [(.int (3 : Int32)), (.int (4 : Int32))])) X564.here hx rfl (hb hby at_258) rfl (tlt (by decide : (3 : Int32) < (4 : Int32))).2.2.2 k) ?_
    refine own_st (T' := T564) (g' := (mkF m 263 #[.val (.int p1), .val (.int p2), .val (.int p3), .val (.int p4), .val (.int (4 : Int32)), .val (.int z15), .val (.int z27), .val (.ref b1), .val (.ref b146), .val (.ref b168), .val (.ref b192), .val (.ref b218), .val (.ref b246), .val (.ref b276), .val (.ref b377), .unset, .unset] [(.ref b377)])) (fun _ k => Jvm.Free.XS.aload (g := (mkF m 261 #[.val (.int p1), .val (.int p2), .val (.int p3), .val (.int p4), .val (.int (4 : Int32)), .val (.int z15), .val (.int z27), .val (.ref b1), .val (.ref b146), .val (.ref b168), .val (.ref b192), .val (.ref b218), .val (.ref b246), .val (.ref b276), .val (.ref b377), .unset, .unset] [])) X564.here hx rfl (hb hby at_261) rfl rfl k) ?_
    refine own_st (T' := T564) (g' := (mkF m 265 #[.val (.int p1), .val (.int p2), .val (.int p3), .val (.int p4), .val (.int (4 : Int32)), .val (.int z15), .val (.int z27), .val (.ref b1), .val (.ref b146), .val (.ref b168), .val (.ref b192), .val (.ref b218), .val (.ref b246), .val (.ref b276), .val (.ref b377), .unset, .unset] [(.ref b218), (.ref b377)])) (fun _ k => Jvm.Free.XS.aload (g := (mkF m 263 #[.val (.int p1), .val (.int p2), .val (.int p3), .val (.int p4), .val (.int (4 : Int32)), .val (.int z15), .val (.int z27), .val (.ref b1), .val (.ref b146), .val (.ref b168), .val (.ref b192), .val (.ref b218), .val (.ref b246), .val (.ref b276), .val (.ref b377), .unset, .unset] [(.ref b377)])) X564.here hx rfl (hb hby at_263) rfl rfl k) ?_
    refine own_st (T' := T564) (g' := (mkF m 267 #[.val (.int p1), .val (.int p2), .val (.int p3), .val (.int p4), .val (.int (4 : Int32)), .val (.int z15), .val (.int z27), .val (.ref b1), .val (.ref b146), .val (.ref b168), .val (.ref b192), .val (.ref b218), .val (.ref b246), .val (.ref b276), .val (.ref b377), .unset, .unset] [(.ref b1), (.ref b218), (.ref b377)])) (fun _ k => Jvm.Free.XS.aload (g := (mkF m 265 #[.val (.int p1), .val (.int p2), .val (.int p3), .val (.int p4), .val (.int (4 : Int32)), .val (.int z15), .val (.int z27), .val (.ref b1), .val (.ref b146), .val (.ref b168), .val (.ref b192), .val (.ref b218), .val (.ref b246), .val (.ref b276), .val (.ref b377), .unset, .unset] [(.ref b218), (.ref b377)])) X564.here hx rfl (hb hby at_265) rfl rfl k) ?_
    refine own_st (T' := T564) (g' := (mkF m 268 #[.val (.int p1), .val (.int p2), .val (.int p3), .val (.int p4), .val (.int (4 : Int32)), .val (.int z15), .val (.int z27), .val (.ref b1), .val (.ref b146), .val (.ref b168), .val (.ref b192), .val (.ref b218), .val (.ref b246), .val (.ref b276), .val (.ref b377), .unset, .unset] [(.int (3 : Int32)), (.ref b1), (.ref b218), (.ref b377)])) (fun _ k => XS.iconst (g := (mkF m 267 #[.val (.int p1), .val (.int p2), .val (.int p3), .val (.int p4), .val (.int (4 : Int32)), .val (.int z15), .val (.int z27), .val (.ref b1), .val (.ref b146), .val (.ref b168), .val (.ref b192), .val (.ref b218), .val (.ref b246), .val (.ref b276), .val (.ref b377), .unset, .unset] [(.ref b1), (.ref b218), (.ref b377)])) X564.here hx rfl (hb hby at_267) k) ?_
    obtain ⟨cl578, Ar578, -, Sz578, Nn578, Hs578, Gs578⟩ := id Fa570
    have hin578 : ¬ ((3 : Int32) < 0 ∨ cl578.slots.size ≤ ((3 : Int32)).toNatClampNeg) := inb_of Sz578 ⟨by decide, by decide⟩
    have hat578 : cl578.slots[((3 : Int32)).toNatClampNeg]? = some r3 := Has.at Hs578 hin578 rfl
    refine own_st (T' := T564) (g' := (mkF m 269 #[.val (.int p1), .val (.int p2), .val (.int p3), .val (.int p4), .val (.int (4 : Int32)), .val (.int z15), .val (.int z27), .val (.ref b1), .val (.ref b146), .val (.ref b168), .val (.ref b192), .val (.ref b218), .val (.ref b246), .val (.ref b276), .val (.ref b377), .unset, .unset] [r3, (.ref b218), (.ref b377)])) (fun _ k => (X564.aaload hx (j := (3 : Int32)) (v := r3) Ar578.1 (State.isArrayOf_alike hZ.alike Ar578.2.1) rfl Ar578.2.2 hin578 hat578 (g := (mkF m 268 #[.val (.int p1), .val (.int p2), .val (.int p3), .val (.int p4), .val (.int (4 : Int32)), .val (.int z15), .val (.int z27), .val (.ref b1), .val (.ref b146), .val (.ref b168), .val (.ref b192), .val (.ref b218), .val (.ref b246), .val (.ref b276), .val (.ref b377), .unset, .unset] [(.int (3 : Int32)), (.ref b1), (.ref b218), (.ref b377)])) rfl rfl (hb hby at_268)) _ k) ?_
    obtain ⟨cq579, kq579, q579a, q579b, q579c⟩ := isOf hZ rfl Eq564
    obtain ⟨v579, T579, L579, X579, hQ579, st579⟩ := own_packV (X564.virtualBack hx (y := (⟨"com/example/hollow_tree/hollowtree/query/IdentityTable", "put", "(Ljava/lang/Object;Ljava/lang/Object;)V"⟩ : MethodName)) (z := (⟨"com/example/hollow_tree/hollowtree/query/IdentityTable", "put", "(Ljava/lang/Object;Ljava/lang/Object;)V"⟩ : MethodName)) hown (mvT hZ (hw _ (List.mem_of_getElem? (i := 56) rfl))) (mvT hZ (hw _ (List.mem_of_getElem? (i := 57) rfl))) (notFace_of_selects (args := #[]) (mvT hZ (hw _ (List.mem_of_getElem? (i := 59) rfl)))) (mvT hZ (hw _ (List.mem_of_getElem? (i := 59) rfl))) (mvT hZ (hw _ (List.mem_of_getElem? (i := 58) rfl))) (by decide) (backOf (W := 0) (rm8_3 l Z a0 hw [] b377 b218 r3 (Fa569.rf) t564 kt564 mr (.ref b146) r0 (.ref b168) r1 (.ref b192) r2 T564.heap n0 Zs564 Eq564 Fe564 Fs564 Vq564 Xq564 (Or.inr ⟨b146, rfl, Ins.of_exa Fa571 (hw _ (List.mem_of_getElem? (i := 33) rfl))⟩) (Fa566.o (hw _ (List.mem_of_getElem? (i := 87) rfl))) (Or.inr ⟨b168, rfl, Ins.of_exa Fa572 (hw _ (List.mem_of_getElem? (i := 33) rfl))⟩) (Fa567.o (hw _ (List.mem_of_getElem? (i := 87) rfl))) (Or.inr ⟨b192, rfl, Ins.of_exa Fa573 (hw _ (List.mem_of_getElem? (i := 33) rfl))⟩) (Fa568.o (hw _ (List.mem_of_getElem? (i := 87) rfl))) (Or.inr ⟨b218, rfl, Ins.of_exa Fa574 (hw _ (List.mem_of_getElem? (i := 33) rfl))⟩) (Fa569.o (hw _ (List.mem_of_getElem? (i := 87) rfl))) gn_b377 gn_t564 Oq564 Mm ne_b377_t564) hZ (hw _ (List.mem_of_getElem? (i := 60) rfl)) (hw _ (List.mem_of_getElem? (i := 36) rfl)) (by decide) (by decide)) q579a q579c (g := (mkF m 269 #[.val (.int p1), .val (.int p2), .val (.int p3), .val (.int p4), .val (.int (4 : Int32)), .val (.int z15), .val (.int z27), .val (.ref b1), .val (.ref b146), .val (.ref b168), .val (.ref b192), .val (.ref b218), .val (.ref b246), .val (.ref b276), .val (.ref b377), .unset, .unset] [r3, (.ref b218), (.ref b377)])) rfl (by rw [hml]; rfl) (Steps.refl _) (argsL := [(.ref b218), r3]) (rest := []) (lenOf own_pd0_3 rfl) rfl (by show 2 * 0 + _ ≤ _; exact Nat.le_of_eq rfl) (hb hby at_269) (fun _ _ => ⟨rfl, rfl, (by decide : 15 + 0 ≤ _), (by decide : 54 + 0 ≤ _)⟩))
    obtain ⟨rfl, N579q, Kq579, Eq579, Fe579, Fs579, Vq579, Xq579⟩ := hQ579
    obtain ⟨lc579, X579, N579⟩ := own_loc X579 (Fr.app N564 N579q)
    have Zs579 : n0 ≤ T579.heap.size := Nat.le_trans Zs564 Kq579.1
    have Fa580 : Exa Z T579.heap b1 "[[I" := Fa565.keep Kq579
    have Fa581 : own_R Z T579.heap r0 := Fa566.keep Kq579
    have Fa582 : own_R Z T579.heap r1 := Fa567.keep Kq579
    have Fa583 : own_R Z T579.heap r2 := Fa568.keep Kq579
    have Fa584 : own_R Z T579.heap r3 := Fa569.keep Kq579
    have Fa585 : Arv Z T579.heap b1 k1 (.array .int) (4 : Int32) [r0, r1, r2, r3] .null := Fa570.keep Kq579 (ninS ne_b1_b377 (ninS ne_b1_t564 nin0))
    have Fa586 : Exa Z T579.heap b146 "java/util/ArrayList" := Fa571.keep Kq579
    have Fa587 : Exa Z T579.heap b168 "java/util/ArrayList" := Fa572.keep Kq579
    have Fa588 : Exa Z T579.heap b192 "java/util/ArrayList" := Fa573.keep Kq579
    have Fa589 : Exa Z T579.heap b218 "java/util/ArrayList" := Fa574.keep Kq579
    have Fa590 : Exa Z T579.heap b246 "java/util/ArrayList" := Fa575.keep Kq579
    have Fa591 : Exa Z T579.heap b276 "[Ljava/lang/Object;" := Fa576.keep Kq579
    have Fa592 : Arv Z T579.heap b276 k276 (.object "java/lang/Object") (5 : Int32) [(.ref b146), (.ref b168), (.ref b192), (.ref b218), (.ref b246)] .null := Fa577.keep Kq579 (ninS ne_b276_b377 (ninS ne_b276_t564 nin0))
    refine own_st (T' := T579) (g' := (mkF m 272 #[.val (.int p1), .val (.int p2), .val (.int p3), .val (.int p4), .val (.int (4 : Int32)), .val (.int z15), .val (.int z27), .val (.ref b1), .val (.ref b146), .val (.ref b168), .val (.ref b192), .val (.ref b218), .val (.ref b246), .val (.ref b276), .val (.ref b377), .unset, .unset] [])) (fun _ k => (st579) _ k) ?_
    refine own_st (T' := T579) (g' := (mkF m 274 #[.val (.int p1), .val (.int p2), .val (.int p3), .val (.int p4), .val (.int (4 : Int32)), .val (.int z15), .val (.int z27), .val (.ref b1), .val (.ref b146), .val (.ref b168), .val (.ref b192), .val (.ref b218), .val (.ref b246), .val (.ref b276), .val (.ref b377), .unset, .unset] [(.ref b377)])) (fun _ k => Jvm.Free.XS.aload (g := (mkF m 272 #[.val (.int p1), .val (.int p2), .val (.int p3), .val (.int p4), .val (.int (4 : Int32)), .val (.int z15), .val (.int z27), .val (.ref b1), .val (.ref b146), .val (.ref b168), .val (.ref b192), .val (.ref b218), .val (.ref b246), .val (.ref b276), .val (.ref b377), .unset, .unset] [])) X579.here hx rfl (hb hby at_272) rfl rfl k) ?_
    refine own_st (T' := T579) (g' := (mkF m 276 #[.val (.int p1), .val (.int p2), .val (.int p3), .val (.int p4), .val (.int (4 : Int32)), .val (.int z15), .val (.int z27), .val (.ref b1), .val (.ref b146), .val (.ref b168), .val (.ref b192), .val (.ref b218), .val (.ref b246), .val (.ref b276), .val (.ref b377), .unset, .unset] [(.ref b276), (.ref b377)])) (fun _ k => Jvm.Free.XS.aload (g := (mkF m 274 #[.val (.int p1), .val (.int p2), .val (.int p3), .val (.int p4), .val (.int (4 : Int32)), .val (.int z15), .val (.int z27), .val (.ref b1), .val (.ref b146), .val (.ref b168), .val (.ref b192), .val (.ref b218), .val (.ref b246), .val (.ref b276), .val (.ref b377), .unset, .unset] [(.ref b377)])) X579.here hx rfl (hb hby at_274) rfl rfl k) ?_
    refine own_st (T' := T579) (g' := (mkF m 278 #[.val (.int p1), .val (.int p2), .val (.int p3), .val (.int p4), .val (.int (4 : Int32)), .val (.int z15), .val (.int z27), .val (.ref b1), .val (.ref b146), .val (.ref b168), .val (.ref b192), .val (.ref b218), .val (.ref b246), .val (.ref b276), .val (.ref b377), .unset, .unset] [(.int z15), (.ref b276), (.ref b377)])) (fun _ k => Jvm.Free.XS.iload (g := (mkF m 276 #[.val (.int p1), .val (.int p2), .val (.int p3), .val (.int p4), .val (.int (4 : Int32)), .val (.int z15), .val (.int z27), .val (.ref b1), .val (.ref b146), .val (.ref b168), .val (.ref b192), .val (.ref b218), .val (.ref b246), .val (.ref b276), .val (.ref b377), .unset, .unset] [(.ref b276), (.ref b377)])) X579.here hx rfl (hb hby at_276) rfl k) ?_
    obtain ⟨cl593, Ar593, -, Sz593, Nn593, Hs593, Gs593⟩ := id Fa592
    obtain ⟨kq593, hkq593⟩ : ∃ z, z = ([b146, b168, b192, b218, b246] : List Addr).getD z15.toNatClampNeg 0 := ⟨_, rfl⟩
    have hin593 : ¬ (z15 < 0 ∨ cl593.slots.size ≤ (z15).toNatClampNeg) := inb_of Sz593 (own_q5 _ hq1).1
    have hat593 : cl593.slots[(z15).toNatClampNeg]? = some (.ref kq593) := Has.at Hs593 hin593 ((own_getR [b146, b168, b192, b218, b246] _ (own_q5 _ hq1).2).trans (congrArg Value.ref hkq593.symm))
    refine own_st (T' := T579) (g' := (mkF m 279 #[.val (.int p1), .val (.int p2), .val (.int p3), .val (.int p4), .val (.int (4 : Int32)), .val (.int z15), .val (.int z27), .val (.ref b1), .val (.ref b146), .val (.ref b168), .val (.ref b192), .val (.ref b218), .val (.ref b246), .val (.ref b276), .val (.ref b377), .unset, .unset] [(.ref kq593), (.ref b377)])) (fun _ k => (X579.aaload hx (j := z15) (v := (.ref kq593)) Ar593.1 (State.isArrayOf_alike hZ.alike Ar593.2.1) rfl Ar593.2.2 hin593 hat593 (g := (mkF m 278 #[.val (.int p1), .val (.int p2), .val (.int p3), .val (.int p4), .val (.int (4 : Int32)), .val (.int z15), .val (.int z27), .val (.ref b1), .val (.ref b146), .val (.ref b168), .val (.ref b192), .val (.ref b218), .val (.ref b246), .val (.ref b276), .val (.ref b377), .unset, .unset] [(.int z15), (.ref b276), (.ref b377)])) rfl rfl (hb hby at_278)) _ k) ?_
    obtain ⟨cq594, kq594, q594a, q594b, q594c⟩ := isOf hZ rfl Eq579
    obtain ⟨v594, T594, L594, X594, hQ594, st594⟩ := own_packV (X579.virtualBack hx (y := (⟨"com/example/hollow_tree/hollowtree/query/IdentityTable", "get", "(Ljava/lang/Object;)Ljava/lang/Object;"⟩ : MethodName)) (z := (⟨"com/example/hollow_tree/hollowtree/query/IdentityTable", "get", "(Ljava/lang/Object;)Ljava/lang/Object;"⟩ : MethodName)) hown (mvT hZ (hw _ (List.mem_of_getElem? (i := 45) rfl))) (mvT hZ (hw _ (List.mem_of_getElem? (i := 46) rfl))) (notFace_of_selects (args := #[]) (mvT hZ (hw _ (List.mem_of_getElem? (i := 48) rfl)))) (mvT hZ (hw _ (List.mem_of_getElem? (i := 48) rfl))) (mvT hZ (hw _ (List.mem_of_getElem? (i := 47) rfl))) (by decide) (backOf (W := 0) (rm6_4 l Z a0 hw [] b377 kq593 t564 kt564 b146 b168 b192 b218 r0 r1 r2 r3 T579.heap n0 Zs579 Fe579 Fs579 Vq579 Fa581 Fa582 Fa583 Fa584) hZ (hw _ (List.mem_of_getElem? (i := 49) rfl)) (hw _ (List.mem_of_getElem? (i := 36) rfl)) (by decide) (by decide)) q594a q594c (g := (mkF m 279 #[.val (.int p1), .val (.int p2), .val (.int p3), .val (.int p4), .val (.int (4 : Int32)), .val (.int z15), .val (.int z27), .val (.ref b1), .val (.ref b146), .val (.ref b168), .val (.ref b192), .val (.ref b218), .val (.ref b246), .val (.ref b276), .val (.ref b377), .unset, .unset] [(.ref kq593), (.ref b377)])) rfl (by rw [hml]; rfl) (Steps.refl _) (argsL := [(.ref kq593)]) (rest := []) (lenOf own_pd0_1 rfl) rfl (by show 2 * 0 + _ ≤ _; exact Nat.le_of_eq rfl) (hb hby at_279) (fun _ _ => ⟨rfl, rfl, (by decide : 15 + 0 ≤ _), (by decide : 54 + 0 ≤ _)⟩))
    obtain ⟨g594, rfl, hg594, N594q, e594⟩ := hQ594
    obtain ⟨lc594, X594, N594⟩ := own_loc X594 (Fr.app N579 N594q)
    have Rg594 : own_R Z T579.heap g594 := by
      rw [hg594]
      exact own_lk_R _ _ (fun q hq => by
        simp only [List.mem_cons, List.not_mem_nil, or_false] at hq
        rcases hq with rfl | rfl | rfl | rfl
        · exact Fa581
        · exact Fa582
        · exact Fa583
        · exact Fa584)
    refine own_st (T' := T594) (g' := (mkF m 282 #[.val (.int p1), .val (.int p2), .val (.int p3), .val (.int p4), .val (.int (4 : Int32)), .val (.int z15), .val (.int z27), .val (.ref b1), .val (.ref b146), .val (.ref b168), .val (.ref b192), .val (.ref b218), .val (.ref b246), .val (.ref b276), .val (.ref b377), .unset, .unset] [g594])) (fun _ k => (st594) _ k) ?_
    obtain ⟨T595, X595, e595, st595⟩ := own_castV X594 hx hZ hown (hw _ (List.mem_of_getElem? (i := 1) rfl)) e594 Rg594 (g := (mkF m 282 #[.val (.int p1), .val (.int p2), .val (.int p3), .val (.int p4), .val (.int (4 : Int32)), .val (.int z15), .val (.int z27), .val (.ref b1), .val (.ref b146), .val (.ref b168), .val (.ref b192), .val (.ref b218), .val (.ref b246), .val (.ref b276), .val (.ref b377), .unset, .unset] [g594])) rfl rfl (hb hby at_282)
    refine own_st (T' := T595) (g' := (mkF m 285 #[.val (.int p1), .val (.int p2), .val (.int p3), .val (.int p4), .val (.int (4 : Int32)), .val (.int z15), .val (.int z27), .val (.ref b1), .val (.ref b146), .val (.ref b168), .val (.ref b192), .val (.ref b218), .val (.ref b246), .val (.ref b276), .val (.ref b377), .unset, .unset] [g594])) (fun _ k => (st595) _ k) ?_
    refine own_st (T' := T595) (g' := (mkF m 287 #[.val (.int p1), .val (.int p2), .val (.int p3), .val (.int p4), .val (.int (4 : Int32)), .val (.int z15), .val (.int z27), .val (.ref b1), .val (.ref b146), .val (.ref b168), .val (.ref b192), .val (.ref b218), .val (.ref b246), .val (.ref b276), .val (.ref b377), .val g594, .unset] [])) (fun _ k => Jvm.Free.XS.astore (g := (mkF m 285 #[.val (.int p1), .val (.int p2), .val (.int p3), .val (.int p4), .val (.int (4 : Int32)), .val (.int z15), .val (.int z27), .val (.ref b1), .val (.ref b146), .val (.ref b168), .val (.ref b192), .val (.ref b218), .val (.ref b246), .val (.ref b276), .val (.ref b377), .unset, .unset] [g594])) X595.here hx rfl (hb hby at_285) rfl ((Rg594.rf)).isRef (l' := #[.val (.int p1), .val (.int p2), .val (.int p3), .val (.int p4), .val (.int (4 : Int32)), .val (.int z15), .val (.int z27), .val (.ref b1), .val (.ref b146), .val (.ref b168), .val (.ref b192), .val (.ref b218), .val (.ref b246), .val (.ref b276), .val (.ref b377), .val g594, .unset]) (by rcases (Rg594.rf) with rfl | ⟨_, rfl⟩ <;> rfl) k) ?_
    refine own_st (T' := T595) (g' := (mkF m 289 #[.val (.int p1), .val (.int p2), .val (.int p3), .val (.int p4), .val (.int (4 : Int32)), .val (.int z15), .val (.int z27), .val (.ref b1), .val (.ref b146), .val (.ref b168), .val (.ref b192), .val (.ref b218), .val (.ref b246), .val (.ref b276), .val (.ref b377), .val g594, .unset] [(.ref b377)])) (fun _ k => Jvm.Free.XS.aload (g := (mkF m 287 #[.val (.int p1), .val (.int p2), .val (.int p3), .val (.int p4), .val (.int (4 : Int32)), .val (.int z15), .val (.int z27), .val (.ref b1), .val (.ref b146), .val (.ref b168), .val (.ref b192), .val (.ref b218), .val (.ref b246), .val (.ref b276), .val (.ref b377), .val g594, .unset] [])) X595.here hx rfl (hb hby at_287) rfl rfl k) ?_
    refine own_st (T' := T595) (g' := (mkF m 291 #[.val (.int p1), .val (.int p2), .val (.int p3), .val (.int p4), .val (.int (4 : Int32)), .val (.int z15), .val (.int z27), .val (.ref b1), .val (.ref b146), .val (.ref b168), .val (.ref b192), .val (.ref b218), .val (.ref b246), .val (.ref b276), .val (.ref b377), .val g594, .unset] [(.ref b276), (.ref b377)])) (fun _ k => Jvm.Free.XS.aload (g := (mkF m 289 #[.val (.int p1), .val (.int p2), .val (.int p3), .val (.int p4), .val (.int (4 : Int32)), .val (.int z15), .val (.int z27), .val (.ref b1), .val (.ref b146), .val (.ref b168), .val (.ref b192), .val (.ref b218), .val (.ref b246), .val (.ref b276), .val (.ref b377), .val g594, .unset] [(.ref b377)])) X595.here hx rfl (hb hby at_289) rfl rfl k) ?_
    refine own_st (T' := T595) (g' := (mkF m 293 #[.val (.int p1), .val (.int p2), .val (.int p3), .val (.int p4), .val (.int (4 : Int32)), .val (.int z15), .val (.int z27), .val (.ref b1), .val (.ref b146), .val (.ref b168), .val (.ref b192), .val (.ref b218), .val (.ref b246), .val (.ref b276), .val (.ref b377), .val g594, .unset] [(.int z27), (.ref b276), (.ref b377)])) (fun _ k => Jvm.Free.XS.iload (g := (mkF m 291 #[.val (.int p1), .val (.int p2), .val (.int p3), .val (.int p4), .val (.int (4 : Int32)), .val (.int z15), .val (.int z27), .val (.ref b1), .val (.ref b146), .val (.ref b168), .val (.ref b192), .val (.ref b218), .val (.ref b246), .val (.ref b276), .val (.ref b377), .val g594, .unset] [(.ref b276), (.ref b377)])) X595.here hx rfl (hb hby at_291) rfl k) ?_
    obtain ⟨cl596, Ar596, -, Sz596, Nn596, Hs596, Gs596⟩ := id Fa592
    obtain ⟨kq596, hkq596⟩ : ∃ z, z = ([b146, b168, b192, b218, b246] : List Addr).getD z27.toNatClampNeg 0 := ⟨_, rfl⟩
    have hin596 : ¬ (z27 < 0 ∨ cl596.slots.size ≤ (z27).toNatClampNeg) := inb_of Sz596 (own_q5 _ hq2).1
    have hat596 : cl596.slots[(z27).toNatClampNeg]? = some (.ref kq596) := Has.at Hs596 hin596 ((own_getR [b146, b168, b192, b218, b246] _ (own_q5 _ hq2).2).trans (congrArg Value.ref hkq596.symm))
    refine own_st (T' := T595) (g' := (mkF m 294 #[.val (.int p1), .val (.int p2), .val (.int p3), .val (.int p4), .val (.int (4 : Int32)), .val (.int z15), .val (.int z27), .val (.ref b1), .val (.ref b146), .val (.ref b168), .val (.ref b192), .val (.ref b218), .val (.ref b246), .val (.ref b276), .val (.ref b377), .val g594, .unset] [(.ref kq596), (.ref b377)])) (fun _ k => (X595.aaload hx (j := z27) (v := (.ref kq596)) (by rw [e595]; exact Ar596.1) (State.isArrayOf_alike hZ.alike Ar596.2.1) rfl Ar596.2.2 hin596 hat596 (g := (mkF m 293 #[.val (.int p1), .val (.int p2), .val (.int p3), .val (.int p4), .val (.int (4 : Int32)), .val (.int z15), .val (.int z27), .val (.ref b1), .val (.ref b146), .val (.ref b168), .val (.ref b192), .val (.ref b218), .val (.ref b246), .val (.ref b276), .val (.ref b377), .val g594, .unset] [(.int z27), (.ref b276), (.ref b377)])) rfl rfl (hb hby at_293)) _ k) ?_
    obtain ⟨cq597, kq597, q597a, q597b, q597c⟩ := isOf hZ e595 Eq579
    obtain ⟨v597, T597, L597, X597, hQ597, st597⟩ := own_packV (X595.virtualBack hx (y := (⟨"com/example/hollow_tree/hollowtree/query/IdentityTable", "get", "(Ljava/lang/Object;)Ljava/lang/Object;"⟩ : MethodName)) (z := (⟨"com/example/hollow_tree/hollowtree/query/IdentityTable", "get", "(Ljava/lang/Object;)Ljava/lang/Object;"⟩ : MethodName)) hown (mvT hZ (hw _ (List.mem_of_getElem? (i := 45) rfl))) (mvT hZ (hw _ (List.mem_of_getElem? (i := 46) rfl))) (notFace_of_selects (args := #[]) (mvT hZ (hw _ (List.mem_of_getElem? (i := 48) rfl)))) (mvT hZ (hw _ (List.mem_of_getElem? (i := 48) rfl))) (mvT hZ (hw _ (List.mem_of_getElem? (i := 47) rfl))) (by decide) (backOf (W := 0) (rm6_4 l Z a0 hw [] b377 kq596 t564 kt564 b146 b168 b192 b218 r0 r1 r2 r3 T579.heap n0 Zs579 Fe579 Fs579 Vq579 Fa581 Fa582 Fa583 Fa584) hZ (hw _ (List.mem_of_getElem? (i := 49) rfl)) (hw _ (List.mem_of_getElem? (i := 36) rfl)) (by decide) (by decide)) q597a q597c (g := (mkF m 294 #[.val (.int p1), .val (.int p2), .val (.int p3), .val (.int p4), .val (.int (4 : Int32)), .val (.int z15), .val (.int z27), .val (.ref b1), .val (.ref b146), .val (.ref b168), .val (.ref b192), .val (.ref b218), .val (.ref b246), .val (.ref b276), .val (.ref b377), .val g594, .unset] [(.ref kq596), (.ref b377)])) rfl (by rw [hml]; rfl) (Steps.refl _) (argsL := [(.ref kq596)]) (rest := []) (lenOf own_pd0_1 rfl) rfl (by show 2 * 0 + _ ≤ _; exact Nat.le_of_eq rfl) (hb hby at_294) (fun _ _ => ⟨rfl, e595, (by decide : 15 + 0 ≤ _), (by decide : 54 + 0 ≤ _)⟩))
    obtain ⟨g597, rfl, hg597, N597q, e597⟩ := hQ597
    obtain ⟨lc597, X597, N597⟩ := own_loc X597 (Fr.app N594 N597q)
    have Rg597 : own_R Z T579.heap g597 := by
      rw [hg597]
      exact own_lk_R _ _ (fun q hq => by
        simp only [List.mem_cons, List.not_mem_nil, or_false] at hq
        rcases hq with rfl | rfl | rfl | rfl
        · exact Fa581
        · exact Fa582
        · exact Fa583
        · exact Fa584)
    refine own_st (T' := T597) (g' := (mkF m 297 #[.val (.int p1), .val (.int p2), .val (.int p3), .val (.int p4), .val (.int (4 : Int32)), .val (.int z15), .val (.int z27), .val (.ref b1), .val (.ref b146), .val (.ref b168), .val (.ref b192), .val (.ref b218), .val (.ref b246), .val (.ref b276), .val (.ref b377), .val g594, .unset] [g597])) (fun _ k => (st597) _ k) ?_
    obtain ⟨T598, X598, e598, st598⟩ := own_castV X597 hx hZ hown (hw _ (List.mem_of_getElem? (i := 1) rfl)) e597 Rg597 (g := (mkF m 297 #[.val (.int p1), .val (.int p2), .val (.int p3), .val (.int p4), .val (.int (4 : Int32)), .val (.int z15), .val (.int z27), .val (.ref b1), .val (.ref b146), .val (.ref b168), .val (.ref b192), .val (.ref b218), .val (.ref b246), .val (.ref b276), .val (.ref b377), .val g594, .unset] [g597])) rfl rfl (hb hby at_297)
    refine own_st (T' := T598) (g' := (mkF m 300 #[.val (.int p1), .val (.int p2), .val (.int p3), .val (.int p4), .val (.int (4 : Int32)), .val (.int z15), .val (.int z27), .val (.ref b1), .val (.ref b146), .val (.ref b168), .val (.ref b192), .val (.ref b218), .val (.ref b246), .val (.ref b276), .val (.ref b377), .val g594, .unset] [g597])) (fun _ k => (st598) _ k) ?_
    refine own_st (T' := T598) (g' := (mkF m 302 #[.val (.int p1), .val (.int p2), .val (.int p3), .val (.int p4), .val (.int (4 : Int32)), .val (.int z15), .val (.int z27), .val (.ref b1), .val (.ref b146), .val (.ref b168), .val (.ref b192), .val (.ref b218), .val (.ref b246), .val (.ref b276), .val (.ref b377), .val g594, .val g597] [])) (fun _ k => Jvm.Free.XS.astore (g := (mkF m 300 #[.val (.int p1), .val (.int p2), .val (.int p3), .val (.int p4), .val (.int (4 : Int32)), .val (.int z15), .val (.int z27), .val (.ref b1), .val (.ref b146), .val (.ref b168), .val (.ref b192), .val (.ref b218), .val (.ref b246), .val (.ref b276), .val (.ref b377), .val g594, .unset] [g597])) X598.here hx rfl (hb hby at_300) rfl ((Rg597.rf)).isRef (l' := #[.val (.int p1), .val (.int p2), .val (.int p3), .val (.int p4), .val (.int (4 : Int32)), .val (.int z15), .val (.int z27), .val (.ref b1), .val (.ref b146), .val (.ref b168), .val (.ref b192), .val (.ref b218), .val (.ref b246), .val (.ref b276), .val (.ref b377), .val g594, .val g597]) (by rcases (Rg597.rf) with rfl | ⟨_, rfl⟩ <;> rfl) k) ?_
    refine own_st (T' := T598) (g' := (mkF m 304 #[.val (.int p1), .val (.int p2), .val (.int p3), .val (.int p4), .val (.int (4 : Int32)), .val (.int z15), .val (.int z27), .val (.ref b1), .val (.ref b146), .val (.ref b168), .val (.ref b192), .val (.ref b218), .val (.ref b246), .val (.ref b276), .val (.ref b377), .val g594, .val g597] [g594])) (fun _ k => Jvm.Free.XS.aload (g := (mkF m 302 #[.val (.int p1), .val (.int p2), .val (.int p3), .val (.int p4), .val (.int (4 : Int32)), .val (.int z15), .val (.int z27), .val (.ref b1), .val (.ref b146), .val (.ref b168), .val (.ref b192), .val (.ref b218), .val (.ref b246), .val (.ref b276), .val (.ref b377), .val g594, .val g597] [])) X598.here hx rfl (hb hby at_302) rfl ((Rg594.rf)).isRef k) ?_
    refine own_st (T' := T598) (g' := (mkF m 306 #[.val (.int p1), .val (.int p2), .val (.int p3), .val (.int p4), .val (.int (4 : Int32)), .val (.int z15), .val (.int z27), .val (.ref b1), .val (.ref b146), .val (.ref b168), .val (.ref b192), .val (.ref b218), .val (.ref b246), .val (.ref b276), .val (.ref b377), .val g594, .val g597] [(.int z15), g594])) (fun _ k => Jvm.Free.XS.iload (g := (mkF m 304 #[.val (.int p1), .val (.int p2), .val (.int p3), .val (.int p4), .val (.int (4 : Int32)), .val (.int z15), .val (.int z27), .val (.ref b1), .val (.ref b146), .val (.ref b168), .val (.ref b192), .val (.ref b218), .val (.ref b246), .val (.ref b276), .val (.ref b377), .val g594, .val g597] [g594])) X598.here hx rfl (hb hby at_304) rfl k) ?_
    refine own_st (T' := T598) (g' := (mkF m 308 #[.val (.int p1), .val (.int p2), .val (.int p3), .val (.int p4), .val (.int (4 : Int32)), .val (.int z15), .val (.int z27), .val (.ref b1), .val (.ref b146), .val (.ref b168), .val (.ref b192), .val (.ref b218), .val (.ref b246), .val (.ref b276), .val (.ref b377), .val g594, .val g597] [(.int (4 : Int32)), (.int z15), g594])) (fun _ k => Jvm.Free.XS.iload (g := (mkF m 306 #[.val (.int p1), .val (.int p2), .val (.int p3), .val (.int p4), .val (.int (4 : Int32)), .val (.int z15), .val (.int z27), .val (.ref b1), .val (.ref b146), .val (.ref b168), .val (.ref b192), .val (.ref b218), .val (.ref b246), .val (.ref b276), .val (.ref b377), .val g594, .val g597] [(.int z15), g594])) X598.here hx rfl (hb hby at_306) rfl k) ?_
    refine own_st (T' := T598) (g' := (mkF m 310 #[.val (.int p1), .val (.int p2), .val (.int p3), .val (.int p4), .val (.int (4 : Int32)), .val (.int z15), .val (.int z27), .val (.ref b1), .val (.ref b146), .val (.ref b168), .val (.ref b192), .val (.ref b218), .val (.ref b246), .val (.ref b276), .val (.ref b377), .val g594, .val g597] [(.ref b1), (.int (4 : Int32)), (.int z15), g594])) (fun _ k => Jvm.Free.XS.aload (g := (mkF m 308 #[.val (.int p1), .val (.int p2), .val (.int p3), .val (.int p4), .val (.int (4 : Int32)), .val (.int z15), .val (.int z27), .val (.ref b1), .val (.ref b146), .val (.ref b168), .val (.ref b192), .val (.ref b218), .val (.ref b246), .val (.ref b276), .val (.ref b377), .val g594, .val g597] [(.int (4 : Int32)), (.int z15), g594])) X598.here hx rfl (hb hby at_308) rfl rfl k) ?_
    obtain ⟨v599, T599, L599, X599, hQ599, st599⟩ := own_packS (Jvm.LawKit.callS X598 hx (y := (⟨"com/example/hollow_tree/hollowtree/query/IdentityTableGetPinLaw", "expect", "(II[[I)[I"⟩ : MethodName)) hown (mvT hZ (hw _ (List.mem_of_getElem? (i := 52) rfl))) (mvT hZ (hw _ (List.mem_of_getElem? (i := 53) rfl))) (mvT hZ (hw _ (List.mem_of_getElem? (i := 54) rfl))) (mvT hZ (hw _ (List.mem_of_getElem? (i := 55) rfl))) (by decide) (backOf (W := 1) (rm7 l Z a0 hw [] z15 (4 : Int32) b1 k1 r0 r1 r2 r3 T579.heap n0 Zs579 Fa585 (fun v hv => by
        simp only [List.mem_cons, List.not_mem_nil, or_false] at hv
        rcases hv with rfl | rfl | rfl | rfl
        · exact Fa581.rf
        · exact Fa582.rf
        · exact Fa583.rf
        · exact Fa584.rf) (own_qn _ _ hq1 (by decide))) hZ (hw _ (List.mem_of_getElem? (i := 55) rfl)) (hw _ (List.mem_of_getElem? (i := 54) rfl)) (by decide) (by decide)) (g := (mkF m 310 #[.val (.int p1), .val (.int p2), .val (.int p3), .val (.int p4), .val (.int (4 : Int32)), .val (.int z15), .val (.int z27), .val (.ref b1), .val (.ref b146), .val (.ref b168), .val (.ref b192), .val (.ref b218), .val (.ref b246), .val (.ref b276), .val (.ref b377), .val g594, .val g597] [(.ref b1), (.int (4 : Int32)), (.int z15), g594])) rfl (by rw [hml]; rfl) (argsL := [(.int z15), (.int (4 : Int32)), (.ref b1)]) (rest := [g594]) (lenOf own_pd0_2 rfl) rfl (by show 2 * 0 + _ ≤ _; simp [((Rg594.rf)).cat]) (hb hby at_310) (fun _ _ => ⟨rfl, e598, (by decide : 15 + 0 ≤ _), (by decide : 54 + 0 ≤ _)⟩))
    obtain ⟨x599, rfl, hx599, hrx599, N599q, e599⟩ := hQ599
    obtain ⟨lc599, X599, N599⟩ := own_loc X599 (Fr.app N597 N599q)
    refine own_st (T' := T599) (g' := (mkF m 313 #[.val (.int p1), .val (.int p2), .val (.int p3), .val (.int p4), .val (.int (4 : Int32)), .val (.int z15), .val (.int z27), .val (.ref b1), .val (.ref b146), .val (.ref b168), .val (.ref b192), .val (.ref b218), .val (.ref b246), .val (.ref b276), .val (.ref b377), .val g594, .val g597] [x599, g594])) (fun _ k => (st599) _ k) ?_
    have ac313 := fun t => Jvm.RoadKit.acmp (target := t) (e := e) (g := (mkF m 313 #[.val (.int p1), .val (.int p2), .val (.int p3), .val (.int p4), .val (.int (4 : Int32)), .val (.int z15), .val (.int z27), .val (.ref b1), .val (.ref b146), .val (.ref b168), .val (.ref b192), .val (.ref b218), .val (.ref b246), .val (.ref b276), .val (.ref b377), .val g594, .val g597] [x599, g594])) X599 hx rfl ((Rg594.rf)).isRef (hrx599).isRef (pc0 := 313) (pc' := 316) (same := true) rfl (hb hby at_313) rfl (decide_eq_true (hg594.trans ((show own_lk [(b146, r0), (b168, r1), (b192, r2), (b218, r3)] kq593 = own_ex z15 (4 : Int32) [r0, r1, r2, r3] from by rw [hkq593]; exact own_same4 z15 hq1 b146 b168 b192 b218 b246 r0 r1 r2 r3 ne_b146_b168 ne_b146_b192 ne_b146_b218 ne_b146_b246 ne_b168_b192 ne_b168_b218 ne_b168_b246 ne_b192_b218 ne_b192_b246 ne_b218_b246).trans hx599.symm))) (by decide) (by decide)
    refine own_st (T' := T599) (g' := (mkF m 316 #[.val (.int p1), .val (.int p2), .val (.int p3), .val (.int p4), .val (.int (4 : Int32)), .val (.int z15), .val (.int z27), .val (.ref b1), .val (.ref b146), .val (.ref b168), .val (.ref b192), .val (.ref b218), .val (.ref b246), .val (.ref b276), .val (.ref b377), .val g594, .val g597] [])) (fun _ k => (ac313) _ k) ?_
    refine own_st (T' := T599) (g' := (mkF m 318 #[.val (.int p1), .val (.int p2), .val (.int p3), .val (.int p4), .val (.int (4 : Int32)), .val (.int z15), .val (.int z27), .val (.ref b1), .val (.ref b146), .val (.ref b168), .val (.ref b192), .val (.ref b218), .val (.ref b246), .val (.ref b276), .val (.ref b377), .val g594, .val g597] [g597])) (fun _ k => Jvm.Free.XS.aload (g := (mkF m 316 #[.val (.int p1), .val (.int p2), .val (.int p3), .val (.int p4), .val (.int (4 : Int32)), .val (.int z15), .val (.int z27), .val (.ref b1), .val (.ref b146), .val (.ref b168), .val (.ref b192), .val (.ref b218), .val (.ref b246), .val (.ref b276), .val (.ref b377), .val g594, .val g597] [])) X599.here hx rfl (hb hby at_316) rfl ((Rg597.rf)).isRef k) ?_
    refine own_st (T' := T599) (g' := (mkF m 320 #[.val (.int p1), .val (.int p2), .val (.int p3), .val (.int p4), .val (.int (4 : Int32)), .val (.int z15), .val (.int z27), .val (.ref b1), .val (.ref b146), .val (.ref b168), .val (.ref b192), .val (.ref b218), .val (.ref b246), .val (.ref b276), .val (.ref b377), .val g594, .val g597] [(.int z27), g597])) (fun _ k => Jvm.Free.XS.iload (g := (mkF m 318 #[.val (.int p1), .val (.int p2), .val (.int p3), .val (.int p4), .val (.int (4 : Int32)), .val (.int z15), .val (.int z27), .val (.ref b1), .val (.ref b146), .val (.ref b168), .val (.ref b192), .val (.ref b218), .val (.ref b246), .val (.ref b276), .val (.ref b377), .val g594, .val g597] [g597])) X599.here hx rfl (hb hby at_318) rfl k) ?_
    refine own_st (T' := T599) (g' := (mkF m 322 #[.val (.int p1), .val (.int p2), .val (.int p3), .val (.int p4), .val (.int (4 : Int32)), .val (.int z15), .val (.int z27), .val (.ref b1), .val (.ref b146), .val (.ref b168), .val (.ref b192), .val (.ref b218), .val (.ref b246), .val (.ref b276), .val (.ref b377), .val g594, .val g597] [(.int (4 : Int32)), (.int z27), g597])) (fun _ k => Jvm.Free.XS.iload (g := (mkF m 320 #[.val (.int p1), .val (.int p2), .val (.int p3), .val (.int p4), .val (.int (4 : Int32)), .val (.int z15), .val (.int z27), .val (.ref b1), .val (.ref b146), .val (.ref b168), .val (.ref b192), .val (.ref b218), .val (.ref b246), .val (.ref b276), .val (.ref b377), .val g594, .val g597] [(.int z27), g597])) X599.here hx rfl (hb hby at_320) rfl k) ?_
    refine own_st (T' := T599) (g' := (mkF m 324 #[.val (.int p1), .val (.int p2), .val (.int p3), .val (.int p4), .val (.int (4 : Int32)), .val (.int z15), .val (.int z27), .val (.ref b1), .val (.ref b146), .val (.ref b168), .val (.ref b192), .val (.ref b218), .val (.ref b246), .val (.ref b276), .val (.ref b377), .val g594, .val g597] [(.ref b1), (.int (4 : Int32)), (.int z27), g597])) (fun _ k => Jvm.Free.XS.aload (g := (mkF m 322 #[.val (.int p1), .val (.int p2), .val (.int p3), .val (.int p4), .val (.int (4 : Int32)), .val (.int z15), .val (.int z27), .val (.ref b1), .val (.ref b146), .val (.ref b168), .val (.ref b192), .val (.ref b218), .val (.ref b246), .val (.ref b276), .val (.ref b377), .val g594, .val g597] [(.int (4 : Int32)), (.int z27), g597])) X599.here hx rfl (hb hby at_322) rfl rfl k) ?_
    obtain ⟨v600, T600, L600, X600, hQ600, st600⟩ := own_packS (Jvm.LawKit.callS X599 hx (y := (⟨"com/example/hollow_tree/hollowtree/query/IdentityTableGetPinLaw", "expect", "(II[[I)[I"⟩ : MethodName)) hown (mvT hZ (hw _ (List.mem_of_getElem? (i := 52) rfl))) (mvT hZ (hw _ (List.mem_of_getElem? (i := 53) rfl))) (mvT hZ (hw _ (List.mem_of_getElem? (i := 54) rfl))) (mvT hZ (hw _ (List.mem_of_getElem? (i := 55) rfl))) (by decide) (backOf (W := 1) (rm7 l Z a0 hw [] z27 (4 : Int32) b1 k1 r0 r1 r2 r3 T579.heap n0 Zs579 Fa585 (fun v hv => by
        simp only [List.mem_cons, List.not_mem_nil, or_false] at hv
        rcases hv with rfl | rfl | rfl | rfl
        · exact Fa581.rf
        · exact Fa582.rf
        · exact Fa583.rf
        · exact Fa584.rf) (own_qn _ _ hq2 (by decide))) hZ (hw _ (List.mem_of_getElem? (i := 55) rfl)) (hw _ (List.mem_of_getElem? (i := 54) rfl)) (by decide) (by decide)) (g := (mkF m 324 #[.val (.int p1), .val (.int p2), .val (.int p3), .val (.int p4), .val (.int (4 : Int32)), .val (.int z15), .val (.int z27), .val (.ref b1), .val (.ref b146), .val (.ref b168), .val (.ref b192), .val (.ref b218), .val (.ref b246), .val (.ref b276), .val (.ref b377), .val g594, .val g597] [(.ref b1), (.int (4 : Int32)), (.int z27), g597])) rfl (by rw [hml]; rfl) (argsL := [(.int z27), (.int (4 : Int32)), (.ref b1)]) (rest := [g597]) (lenOf own_pd0_2 rfl) rfl (by show 2 * 0 + _ ≤ _; simp [((Rg597.rf)).cat]) (hb hby at_324) (fun _ _ => ⟨rfl, e599, (by decide : 15 + 0 ≤ _), (by decide : 54 + 0 ≤ _)⟩))
    obtain ⟨x600, rfl, hx600, hrx600, N600q, e600⟩ := hQ600
    obtain ⟨lc600, X600, N600⟩ := own_loc X600 (Fr.app N599 N600q)
    refine own_st (T' := T600) (g' := (mkF m 327 #[.val (.int p1), .val (.int p2), .val (.int p3), .val (.int p4), .val (.int (4 : Int32)), .val (.int z15), .val (.int z27), .val (.ref b1), .val (.ref b146), .val (.ref b168), .val (.ref b192), .val (.ref b218), .val (.ref b246), .val (.ref b276), .val (.ref b377), .val g594, .val g597] [x600, g597])) (fun _ k => (st600) _ k) ?_
    have ac327 := fun t => Jvm.RoadKit.acmp (target := t) (e := e) (g := (mkF m 327 #[.val (.int p1), .val (.int p2), .val (.int p3), .val (.int p4), .val (.int (4 : Int32)), .val (.int z15), .val (.int z27), .val (.ref b1), .val (.ref b146), .val (.ref b168), .val (.ref b192), .val (.ref b218), .val (.ref b246), .val (.ref b276), .val (.ref b377), .val g594, .val g597] [x600, g597])) X600 hx rfl ((Rg597.rf)).isRef (hrx600).isRef (pc0 := 327) (pc' := 330) (same := true) rfl (hb hby at_327) rfl (decide_eq_true (hg597.trans ((show own_lk [(b146, r0), (b168, r1), (b192, r2), (b218, r3)] kq596 = own_ex z27 (4 : Int32) [r0, r1, r2, r3] from by rw [hkq596]; exact own_same4 z27 hq2 b146 b168 b192 b218 b246 r0 r1 r2 r3 ne_b146_b168 ne_b146_b192 ne_b146_b218 ne_b146_b246 ne_b168_b192 ne_b168_b218 ne_b168_b246 ne_b192_b218 ne_b192_b246 ne_b218_b246).trans hx600.symm))) (by decide) (by decide)
    refine own_st (T' := T600) (g' := (mkF m 330 #[.val (.int p1), .val (.int p2), .val (.int p3), .val (.int p4), .val (.int (4 : Int32)), .val (.int z15), .val (.int z27), .val (.ref b1), .val (.ref b146), .val (.ref b168), .val (.ref b192), .val (.ref b218), .val (.ref b246), .val (.ref b276), .val (.ref b377), .val g594, .val g597] [])) (fun _ k => (ac327) _ k) ?_
    refine own_st (T' := T600) (g' := (mkF m 331 #[.val (.int p1), .val (.int p2), .val (.int p3), .val (.int p4), .val (.int (4 : Int32)), .val (.int z15), .val (.int z27), .val (.ref b1), .val (.ref b146), .val (.ref b168), .val (.ref b192), .val (.ref b218), .val (.ref b246), .val (.ref b276), .val (.ref b377), .val g594, .val g597] [(.int (1 : Int32))])) (fun _ k => XS.iconst (g := (mkF m 330 #[.val (.int p1), .val (.int p2), .val (.int p3), .val (.int p4), .val (.int (4 : Int32)), .val (.int z15), .val (.int z27), .val (.ref b1), .val (.ref b146), .val (.ref b168), .val (.ref b192), .val (.ref b218), .val (.ref b246), .val (.ref b276), .val (.ref b377), .val g594, .val g597] [])) X600.here hx rfl (hb hby at_330) k) ?_
    refine own_st (T' := T600) (g' := (mkF m 335 #[.val (.int p1), .val (.int p2), .val (.int p3), .val (.int p4), .val (.int (4 : Int32)), .val (.int z15), .val (.int z27), .val (.ref b1), .val (.ref b146), .val (.ref b168), .val (.ref b192), .val (.ref b218), .val (.ref b246), .val (.ref b276), .val (.ref b377), .val g594, .val g597] [(.int (1 : Int32))])) (fun _ k => XS.goto (g := (mkF m 331 #[.val (.int p1), .val (.int p2), .val (.int p3), .val (.int p4), .val (.int (4 : Int32)), .val (.int z15), .val (.int z27), .val (.ref b1), .val (.ref b146), .val (.ref b168), .val (.ref b192), .val (.ref b218), .val (.ref b246), .val (.ref b276), .val (.ref b377), .val g594, .val g597] [(.int (1 : Int32))])) X600.here hx rfl (pc0 := 331) (pc' := 335) rfl (hb hby at_331) (by decide) (by decide) k) ?_
    exact own_end (Q := Q0 Z p1 p2 p3 p4 h0 n0) (v := some (.int (nar .boolean (1 : Int32)))) X600 (fun h => by rw [Bd.returns] at h; cases h) (fun fs hr => retN X600 hx (t := .boolean) Bd.returns (by simp) (hb hby at_335) hr) (⟨rfl, N600⟩) (by decide) (by decide)
set_option maxRecDepth 65536 in
set_option maxHeartbeats 40000000 in
theorem comes_1 {Post : Tables → Env → Array Value → State → Outcome → State → Prop} (hpost : ∀ tb e args s v u, (limb_1_1.after args s (.returned v) u = true ∧ limb_1_2.after args s (.returned v) u = true ∧ True) → FrameEnd s (.returned v) u (Jvm.fieldLocs frame_1_writes args s ++ Jvm.arrayLocs frame_1_arrays args s ++ Jvm.staticLocs frame_1_statics s) 40 192 → Post tb e args s (.returned v) u) :
    ArmFor flags0 classFile x code maxLocals ret World_1 tables_1 room_1 Calls_1 rest_1 Pre_1 Post := by
  intro l hfl _ _ p e ha hc hk s m args below hf hA hF happ hP
  obtain ⟨hcalls, hrest, hpre⟩ := hP
  obtain ⟨-, -, -, hnamed, -, -, -, hat⟩ := (Spec.applies_iff hf).mp happ
  obtain ⟨hg, hn⟩ := and_e (Cond.before_iff.mp (show (Jvm.Cond.and given_1 narrow_1).before args s = true from hpre))
  obtain ⟨hcount, hg0⟩ := and_e hg
  obtain ⟨ga0, hg1⟩ := and_e hg0
  obtain ⟨ga1, hg2⟩ := and_e hg1
  obtain ⟨ga2, hg3⟩ := and_e hg2
  obtain ⟨w0, w1, w2, w3, rfl⟩ : ∃ w0 w1 w2 w3 : Value, args = #[w0, w1, w2, w3] := by
    have hs : args.size = 4 := by simpa [Cond.value, given_1] using hcount
    obtain ⟨L⟩ := args
    match L, hs with
    | [w0, w1, w2, w3], _ => exact ⟨w0, w1, w2, w3, rfl⟩
  have hw := fun d (hd : d ∈ tables_1) => atoms_spec (ws := Jvm.Cond.code x code maxLocals ret :: tables_1) hat d (List.mem_cons_of_mem _ hd)
  obtain ⟨i0, ei0⟩ := is_v ga0
  obtain rfl : w0 = (.int i0) := Option.some.inj ei0
  obtain ⟨i1, ei1⟩ := is_v ga1
  obtain rfl : w1 = (.int i1) := Option.some.inj ei1
  obtain ⟨i2, ei2⟩ := is_v ga2
  obtain rfl : w2 = (.int i2) := Option.some.inj ei2
  obtain ⟨i3, ei3⟩ := is_v hg3
  obtain rfl : w3 = (.int i3) := Option.some.inj ei3
  have hfit : Fit s := fun {y c} hc i hi => by
    obtain ⟨ha, rfl⟩ := Array.getElem?_eq_some_iff.mp hc
    have q := List.all_eq_true.mp ((Array.all_eq_true_iff_forall_mem.mp hF) _ (Array.getElem_mem ha)) i (List.mem_range.mpr hi)
    simpa [Array.getElem?_eq_getElem hi] using q
  obtain ⟨hsets, hown0⟩ := atoms_of _ (rest_1_c_eq ▸ (show rest_1_c.before _ s = true from hrest))
  obtain ⟨ed, evd⟩ := exa_v (Cond.before_iff.mp (hsets _ (List.mem_of_getElem? (i := 7) rfl)))
  have S_d := Sta.start evd (Or.inr ⟨(hw _ (List.mem_of_getElem? (i := 7) rfl)), (hsets _ (List.mem_of_getElem? (i := 2) rfl))⟩)
  obtain ⟨na0, hn0⟩ := and_e hn
  obtain ⟨na1, na2⟩ := and_e hn0
  obtain ⟨no, evn⟩ := exa_v na1
  have E_no := Exa.start evn na1
  have S_n := Sta.start evn (Or.inr ⟨(hw _ (List.mem_of_getElem? (i := 36) rfl)), (hw _ (List.mem_of_getElem? (i := 42) rfl))⟩)
  obtain ⟨cN, A_no⟩ := Arr.start evn na0
  have V_no := own_empty hfit evn A_no na2
  obtain ⟨⟨cM, kM, mr, m1, m2, m3⟩, -⟩ := hcalls
  have Mm : own_Mm s "[Ljava/lang/Object;" mr := ⟨cM, kM, m1, m2, m3.1⟩
  obtain ⟨n, o, h1, h2, h3, _, L, rfl, ⟨rfl, N⟩, hq⟩ := rm0 l s _ hw tables_1 i0 i1 i2 i3 ed no mr cN.cls s.heap s.heap.size (Nat.le_refl _) S_d S_n V_no E_no Mm p e ha hc hk s m _ below hf ((Spec.applies_iff_loose hf).mp happ).1 ⟨rfl, State.Warmed39.refl s, rfl⟩ trivial
  refine ⟨n, _, h1, h2, h3, hpost _ _ _ _ _ _ ⟨Cond.after_iff.mpr rfl, Cond.after_iff.mpr (eq_i res_at (Term.int_eval (1)) rfl), trivial⟩ ⟨hq.1, hq.2.1, (hq.2.2.sift fun y hy => Or.inr (N y hy)).mono (by decide) (by decide)⟩⟩
theorem main_1_1 : Claimed_1_1 := comes_1 fun _ _ _ _ _ _ h hF => ⟨h.1, hF⟩
theorem main_1_2 : Claimed_1_2 := comes_1 fun _ _ _ _ _ _ h hF => ⟨h.2.1, hF⟩
end Jvm.Pilot.@@N@@
namespace Jvm.Pilot.@@N@@
open Jvm Jvm.ClassFile Sem Op Lib Jvm.Free Jvm.Stand Jvm.Pilot.@@N@@.Jvm.D
/-! MADE BY PROGRAM (witnessworld.py) out of the Statement's table words and the real class files: 22 classes; the members and pool entries that the words name. The judged class is class 1, her method 2. -/
namespace start1
open Jvm.ClassFile
def u (s : String) : CpInfo := .utf8 (stringToUtf16 s)
/-- a pool by its gaps: so many unusable entries, then the entry; so many at the end -/
def gap : Nat → List CpInfo → List CpInfo
  | 0, r => r
  | n + 1, r => .unusable :: gap n r
def poolList (es : List (Nat × CpInfo)) (last : Nat) : List CpInfo := es.foldr (fun e r => gap e.1 (e.2 :: r)) (gap last [])
def pool (es : List (Nat × CpInfo)) (last : Nat) : Array CpInfo := ⟨poolList es last⟩
def fileOf (pool : Array CpInfo) (this : Nat) (attrs : Array Attribute := #[]) (ms : Array MethodInfo := #[]) (fl : Nat := 33) (sup : Nat := 0) (ifs : Array Nat := #[]) (fds : Array FieldInfo := #[]) : ClassFile where
  minorVersion := 0
  majorVersion := 65
  constantPool := pool
  accessFlags := fl
  thisClass := this
  superClass := sup
  interfaces := ifs
  fields := fds
  methods := ms
  attributes := attrs
def plain (name : String) (sup : Option ClassId) : Class where
  name := name
  kind := .ordinary
  loader := none
  accessFlags := 33
  super := sup
  interfaces := #[]
  cf := none
  fields := #[]
  methods := #[]
  instanceTypes := #[]
  staticTypes := #[]
  resolved := #[]
  callSites := []
  init := .initialized
  statics := none
  mirror := none

def pool0 : Array CpInfo := pool [(5, u "<init>"), (0, u "()V"), (1, .class_ 10), (1, u "java/lang/Object"), (0, u "getClass"), (0, u "()Ljava/lang/Class;")] 111

def k0c0 : Code := { maxStack := 0, maxLocals := 1, code := object_method_1_code, exceptionTable := #[], attributes := #[] }
def k0m0 : Method := { name := "<init>", desc := "()V", sig := { parameters := [], returnType := none }, accessFlags := 1, code := some k0c0 }
def k0m1 : Method := { name := "getClass", desc := "()Ljava/lang/Class;", sig := { parameters := [], returnType := some (.object "java/lang/Class") }, accessFlags := 273, code := none }
/-- java/lang/Object -/
def k0 : Class := { plain "java/lang/Object" none with
  accessFlags := 33
  interfaces := #[]
  cf := some (fileOf pool0 8 #[] #[{ accessFlags := 1, nameIndex := 5, descriptorIndex := 6, attributes := #[] }, { accessFlags := 273, nameIndex := 11, descriptorIndex := 12, attributes := #[] }] 33 0 #[] #[])
  fields := #[]
  methods := #[k0m0, k0m1]
  instanceTypes := #[]
  staticTypes := #[]
  resolved := Array.replicate 124 none
  statics := none }

def pool1 : Array CpInfo := pool [(2, .class_ 4), (0, .nameAndType 5 6), (0, u "java/lang/Object"), (0, u "<init>"), (0, u "()V"), (0, .integer 2147483647), (0, .class_ 9), (0, u "[I"), (0, .class_ 11), (0, u "java/util/ArrayList"), (0, .methodref 10 3), (0, .class_ 14), (0, u "com/example/hollow_tree/hollowtree/query/IdentityTable"), (0, .methodref 13 3), (0, .methodref 13 17), (0, .nameAndType 18 19), (0, u "put"), (0, u "(Ljava/lang/Object;Ljava/lang/Object;)V"), (0, .methodref 13 21), (0, .nameAndType 22 23), (0, u "get"), (0, u "(Ljava/lang/Object;)Ljava/lang/Object;"), (0, .methodref 25 26), (0, .class_ 27), (0, .nameAndType 28 29), (0, u "com/example/hollow_tree/hollowtree/query/IdentityTableGetPinLaw"), (0, u "expect"), (0, u "(II[[I)[I"), (3, u "law"), (0, u "(IIII)Z")] 6

def k1m0 : Method := { name := "<init>", desc := "()V", sig := { parameters := [], returnType := none }, accessFlags := 1, code := none }
def k1c1 : Code := { maxStack := 2, maxLocals := 3, code := method_2_code, exceptionTable := #[], attributes := #[] }
def k1m1 : Method := { name := "expect", desc := "(II[[I)[I", sig := { parameters := [.int, .int, (.array (.array .int))], returnType := some (.array .int) }, accessFlags := 10, code := some k1c1 }
def k1c2 : Code := { maxStack := 6, maxLocals := 17, code := code, exceptionTable := #[], attributes := #[] }
def k1m2 : Method := { name := "law", desc := "(IIII)Z", sig := { parameters := [.int, .int, .int, .int], returnType := some .boolean }, accessFlags := 9, code := some k1c2 }
/-- com/example/hollow_tree/hollowtree/query/IdentityTableGetPinLaw -/
def k1 : Class := { plain "com/example/hollow_tree/hollowtree/query/IdentityTableGetPinLaw" (some 0) with
  accessFlags := 49
  interfaces := #[]
  cf := some (fileOf pool1 25 #[] #[{ accessFlags := 1, nameIndex := 5, descriptorIndex := 6, attributes := #[] }, { accessFlags := 10, nameIndex := 28, descriptorIndex := 29, attributes := #[] }, { accessFlags := 9, nameIndex := 33, descriptorIndex := 34, attributes := #[] }] 49 2 #[] #[])
  fields := #[]
  methods := #[k1m0, k1m1, k1m2]
  instanceTypes := #[]
  staticTypes := #[]
  resolved := Array.replicate 41 none
  statics := none }

def pool2 : Array CpInfo := pool [(8, .class_ 10), (1, u "java/lang/Iterable"), (24, .class_ 36), (0, u "java/lang/Object")] 25

/-- java/lang/Iterable -/
def k2 : Class := { plain "java/lang/Iterable" (some 0) with
  accessFlags := 1537
  interfaces := #[]
  cf := some (fileOf pool2 8 #[] #[] 1537 35 #[] #[])
  fields := #[]
  methods := #[]
  instanceTypes := #[]
  staticTypes := #[]
  resolved := Array.replicate 62 none
  statics := none }

def pool3 : Array CpInfo := pool [(10, .class_ 12), (1, u "java/util/Collection"), (47, .class_ 61), (0, u "java/lang/Object"), (0, .class_ 63), (0, u "java/lang/Iterable")] 51

/-- java/util/Collection -/
def k3 : Class := { plain "java/util/Collection" (some 0) with
  accessFlags := 1537
  interfaces := #[2]
  cf := some (fileOf pool3 10 #[] #[] 1537 60 #[62] #[])
  fields := #[]
  methods := #[]
  instanceTypes := #[]
  staticTypes := #[]
  resolved := Array.replicate 115 none
  statics := none }

def pool4 : Array CpInfo := pool [(1, .methodref 2 3), (0, .class_ 4), (0, .nameAndType 5 6), (0, u "java/lang/Object"), (0, u "<init>"), (0, u "()V"), (1, .class_ 10), (1, u "java/util/AbstractCollection"), (66, .class_ 78), (0, u "java/util/Collection")] 81

def k4c0 : Code := { maxStack := 1, maxLocals := 1, code := jdk_22_method_1_code, exceptionTable := #[], attributes := #[] }
def k4m0 : Method := { name := "<init>", desc := "()V", sig := { parameters := [], returnType := none }, accessFlags := 4, code := some k4c0 }
/-- java/util/AbstractCollection -/
def k4 : Class := { plain "java/util/AbstractCollection" (some 0) with
  accessFlags := 1057
  interfaces := #[3]
  cf := some (fileOf pool4 8 #[] #[{ accessFlags := 4, nameIndex := 5, descriptorIndex := 6, attributes := #[] }] 1057 2 #[77] #[])
  fields := #[]
  methods := #[k4m0]
  instanceTypes := #[]
  staticTypes := #[]
  resolved := Array.replicate 160 none
  statics := none }

def pool5 : Array CpInfo := pool [(8, .class_ 10), (1, u "java/util/SequencedCollection"), (15, .class_ 27), (0, u "java/lang/Object"), (0, .class_ 29), (0, u "java/util/Collection")] 27

/-- java/util/SequencedCollection -/
def k5 : Class := { plain "java/util/SequencedCollection" (some 0) with
  accessFlags := 1537
  interfaces := #[3]
  cf := some (fileOf pool5 8 #[] #[] 1537 26 #[28] #[])
  fields := #[]
  methods := #[]
  instanceTypes := #[]
  staticTypes := #[]
  resolved := Array.replicate 57 none
  statics := none }

def pool6 : Array CpInfo := pool [(8, .class_ 10), (1, u "java/util/List"), (92, .class_ 104), (0, u "java/lang/Object"), (15, .class_ 121), (0, u "java/util/SequencedCollection")] 129

/-- java/util/List -/
def k6 : Class := { plain "java/util/List" (some 0) with
  accessFlags := 1537
  interfaces := #[5]
  cf := some (fileOf pool6 8 #[] #[] 1537 103 #[120] #[])
  fields := #[]
  methods := #[]
  instanceTypes := #[]
  staticTypes := #[]
  resolved := Array.replicate 251 none
  statics := none }

def pool7 : Array CpInfo := pool [(1, .methodref 2 3), (0, .class_ 4), (0, .nameAndType 5 6), (0, u "java/util/AbstractCollection"), (0, u "<init>"), (0, u "()V"), (0, .fieldref 8 9), (0, .class_ 10), (0, .nameAndType 11 12), (0, u "java/util/AbstractList"), (0, u "modCount"), (0, u "I"), (64, .class_ 78), (0, u "java/util/AbstractList$Itr"), (3, .class_ 83), (0, u "java/util/AbstractList$ListItr"), (9, .class_ 94), (0, u "java/util/AbstractList$RandomAccessSubList"), (3, .class_ 99), (0, u "java/util/AbstractList$SubList"), (33, .class_ 134), (0, u "java/util/List"), (73, .class_ 209), (0, u "java/util/AbstractList$SubList$1"), (0, .class_ 211), (0, u "java/util/AbstractList$RandomAccessSpliterator")] 6

def k7c0 : Code := { maxStack := 2, maxLocals := 1, code := jdk_39_method_1_code, exceptionTable := #[], attributes := #[] }
def k7m0 : Method := { name := "<init>", desc := "()V", sig := { parameters := [], returnType := none }, accessFlags := 4, code := some k7c0 }
/-- java/util/AbstractList -/
def k7 : Class := { plain "java/util/AbstractList" (some 4) with
  accessFlags := 1057
  interfaces := #[6]
  cf := some (fileOf pool7 8 #[.nestMembers #[93, 98, 208, 210, 82, 77]] #[{ accessFlags := 4, nameIndex := 5, descriptorIndex := 6, attributes := #[] }] 1057 2 #[133] #[{ accessFlags := 132, nameIndex := 11, descriptorIndex := 12, attributes := #[] }])
  fields := #[{ name := "modCount", type := .int, accessFlags := 132, slot := 0, constantValue := 0 }]
  methods := #[k7m0]
  instanceTypes := #[.int]
  staticTypes := #[]
  resolved := Array.replicate 218 none
  statics := none }

def pool8 : Array CpInfo := pool [(1, .class_ 2), (0, u "java/util/RandomAccess"), (0, .class_ 4), (0, u "java/lang/Object")] 2

/-- java/util/RandomAccess -/
def k8 : Class := { plain "java/util/RandomAccess" (some 0) with
  accessFlags := 1537
  interfaces := #[]
  cf := some (fileOf pool8 1 #[] #[] 1537 3 #[] #[])
  fields := #[]
  methods := #[]
  instanceTypes := #[]
  staticTypes := #[]
  resolved := Array.replicate 7 none
  statics := none }

def pool9 : Array CpInfo := pool [(1, .class_ 2), (0, u "java/lang/Cloneable"), (0, .class_ 4), (0, u "java/lang/Object")] 2

/-- java/lang/Cloneable -/
def k9 : Class := { plain "java/lang/Cloneable" (some 0) with
  accessFlags := 1537
  interfaces := #[]
  cf := some (fileOf pool9 1 #[] #[] 1537 3 #[] #[])
  fields := #[]
  methods := #[]
  instanceTypes := #[]
  staticTypes := #[]
  resolved := Array.replicate 7 none
  statics := none }

def pool10 : Array CpInfo := pool [(1, .class_ 2), (0, u "java/io/Serializable"), (0, .class_ 4), (0, u "java/lang/Object")] 2

/-- java/io/Serializable -/
def k10 : Class := { plain "java/io/Serializable" (some 0) with
  accessFlags := 1537
  interfaces := #[]
  cf := some (fileOf pool10 1 #[] #[] 1537 3 #[] #[])
  fields := #[]
  methods := #[]
  instanceTypes := #[]
  staticTypes := #[]
  resolved := Array.replicate 7 none
  statics := none }

def pool11 : Array CpInfo := pool [(1, .methodref 2 3), (0, .class_ 4), (0, .nameAndType 5 6), (0, u "java/util/AbstractList"), (0, u "<init>"), (0, u "()V"), (2, .fieldref 10 11), (0, .class_ 12), (0, .nameAndType 13 14), (0, u "java/util/ArrayList"), (0, u "elementData"), (0, u "[Ljava/lang/Object;"), (2, u "EMPTY_ELEMENTDATA"), (21, .fieldref 10 40), (0, .nameAndType 41 14), (0, u "DEFAULTCAPACITY_EMPTY_ELEMENTDATA"), (8, u "size"), (0, u "I"), (96, .class_ 149), (0, u "java/util/List"), (112, .class_ 263), (0, u "java/util/ArrayList$ListItr"), (3, .class_ 268), (0, u "java/util/ArrayList$Itr"), (7, .class_ 277), (0, u "java/util/ArrayList$SubList"), (12, .class_ 291), (0, u "java/util/ArrayList$ArrayListSpliterator"), (37, .class_ 330), (0, u "java/util/RandomAccess"), (0, .class_ 332), (0, u "java/lang/Cloneable"), (0, .class_ 334), (0, u "java/io/Serializable"), (0, u "serialVersionUID"), (0, u "J"), (3, u "DEFAULT_CAPACITY"), (159, .class_ 501), (0, u "java/util/ArrayList$SubList$2"), (0, .class_ 503), (0, u "java/util/ArrayList$SubList$1")] 5

def k11c0 : Code := { maxStack := 2, maxLocals := 1, code := jdk_38_method_2_code, exceptionTable := #[], attributes := #[] }
def k11m0 : Method := { name := "<init>", desc := "()V", sig := { parameters := [], returnType := none }, accessFlags := 1, code := some k11c0 }
/-- java/util/ArrayList -/
def k11 : Class := { plain "java/util/ArrayList" (some 7) with
  accessFlags := 33
  interfaces := #[6, 8, 9, 10]
  cf := some (fileOf pool11 10 #[.nestMembers #[290, 276, 500, 502, 262, 267]] #[{ accessFlags := 1, nameIndex := 5, descriptorIndex := 6, attributes := #[] }] 33 2 #[148, 329, 331, 333] #[{ accessFlags := 26, nameIndex := 335, descriptorIndex := 336, attributes := #[] }, { accessFlags := 26, nameIndex := 340, descriptorIndex := 51, attributes := #[] }, { accessFlags := 26, nameIndex := 17, descriptorIndex := 14, attributes := #[] }, { accessFlags := 26, nameIndex := 41, descriptorIndex := 14, attributes := #[] }, { accessFlags := 128, nameIndex := 13, descriptorIndex := 14, attributes := #[] }, { accessFlags := 2, nameIndex := 50, descriptorIndex := 51, attributes := #[] }])
  fields := #[{ name := "serialVersionUID", type := .long, accessFlags := 26, slot := 0, constantValue := 0 }, { name := "DEFAULT_CAPACITY", type := .int, accessFlags := 26, slot := 1, constantValue := 0 }, { name := "EMPTY_ELEMENTDATA", type := (.array (.object "java/lang/Object")), accessFlags := 26, slot := 2, constantValue := 0 }, { name := "DEFAULTCAPACITY_EMPTY_ELEMENTDATA", type := (.array (.object "java/lang/Object")), accessFlags := 26, slot := 3, constantValue := 0 }, { name := "elementData", type := (.array (.object "java/lang/Object")), accessFlags := 128, slot := 1, constantValue := 0 }, { name := "size", type := .int, accessFlags := 2, slot := 2, constantValue := 0 }]
  methods := #[k11m0]
  instanceTypes := #[.int, (.array (.object "java/lang/Object")), .int]
  staticTypes := #[.long, .int, (.array (.object "java/lang/Object")), (.array (.object "java/lang/Object"))]
  resolved := Array.replicate 509 none
  statics := some 0 }

def pool12 : Array CpInfo := pool [(1, .methodref 2 3), (0, .class_ 4), (0, .nameAndType 5 6), (0, u "java/lang/Object"), (0, u "<init>"), (0, u "()V"), (0, .fieldref 8 9), (0, .class_ 10), (0, .nameAndType 11 12), (0, u "com/example/hollow_tree/hollowtree/query/IdentityTable"), (0, u "NONE"), (0, u "[Ljava/lang/Object;"), (0, .fieldref 8 14), (0, .nameAndType 15 12), (0, u "entries"), (0, .fieldref 8 17), (0, .nameAndType 18 19), (0, u "size"), (0, u "I"), (0, .methodref 21 22), (0, .class_ 23), (0, .nameAndType 24 25), (0, u "java/lang/Math"), (0, u "max"), (0, u "(II)I"), (0, .methodref 27 28), (0, .class_ 29), (0, .nameAndType 30 31), (0, u "java/util/Arrays"), (0, u "copyOf"), (0, u "([Ljava/lang/Object;I)[Ljava/lang/Object;"), (2, u "get"), (0, u "(Ljava/lang/Object;)Ljava/lang/Object;"), (3, u "put"), (0, u "(Ljava/lang/Object;Ljava/lang/Object;)V")] 5

def k12c0 : Code := { maxStack := 2, maxLocals := 1, code := prog_144_method_1_code, exceptionTable := #[], attributes := #[] }
def k12m0 : Method := { name := "<init>", desc := "()V", sig := { parameters := [], returnType := none }, accessFlags := 0, code := some k12c0 }
def k12c1 : Code := { maxStack := 3, maxLocals := 4, code := prog_144_method_2_code, exceptionTable := #[], attributes := #[] }
def k12m1 : Method := { name := "get", desc := "(Ljava/lang/Object;)Ljava/lang/Object;", sig := { parameters := [(.object "java/lang/Object")], returnType := some (.object "java/lang/Object") }, accessFlags := 0, code := some k12c1 }
def k12c2 : Code := { maxStack := 5, maxLocals := 3, code := prog_144_method_3_code, exceptionTable := #[], attributes := #[] }
def k12m2 : Method := { name := "put", desc := "(Ljava/lang/Object;Ljava/lang/Object;)V", sig := { parameters := [(.object "java/lang/Object"), (.object "java/lang/Object")], returnType := none }, accessFlags := 0, code := some k12c2 }
/-- com/example/hollow_tree/hollowtree/query/IdentityTable -/
def k12 : Class := { plain "com/example/hollow_tree/hollowtree/query/IdentityTable" (some 0) with
  accessFlags := 32
  interfaces := #[]
  cf := some (fileOf pool12 8 #[] #[{ accessFlags := 0, nameIndex := 5, descriptorIndex := 6, attributes := #[] }, { accessFlags := 0, nameIndex := 34, descriptorIndex := 35, attributes := #[] }, { accessFlags := 0, nameIndex := 39, descriptorIndex := 40, attributes := #[] }] 32 2 #[] #[{ accessFlags := 26, nameIndex := 11, descriptorIndex := 12, attributes := #[] }, { accessFlags := 2, nameIndex := 15, descriptorIndex := 12, attributes := #[] }, { accessFlags := 2, nameIndex := 18, descriptorIndex := 19, attributes := #[] }])
  fields := #[{ name := "NONE", type := (.array (.object "java/lang/Object")), accessFlags := 26, slot := 0, constantValue := 0 }, { name := "entries", type := (.array (.object "java/lang/Object")), accessFlags := 2, slot := 0, constantValue := 0 }, { name := "size", type := .int, accessFlags := 2, slot := 1, constantValue := 0 }]
  methods := #[k12m0, k12m1, k12m2]
  instanceTypes := #[(.array (.object "java/lang/Object")), .int]
  staticTypes := #[(.array (.object "java/lang/Object"))]
  resolved := Array.replicate 46 none
  statics := some 1 }

def pool13 : Array CpInfo := pool [(1, .class_ 2), (0, u "java/lang/Math"), (1, .class_ 6), (1, u "java/lang/Object"), (0, u "<init>"), (0, u "()V"), (89, .class_ 100), (1, u "java/lang/Math$RandomNumberGeneratorHolder"), (71, u "negativeZeroFloatBits"), (0, u "J"), (2, u "negativeZeroDoubleBits"), (21, u "max"), (2, u "min"), (43, u "$assertionsDisabled"), (0, u "Z"), (88, u "(II)I"), (2, u "twoToTheDoubleScaleDown"), (0, u "D"), (4, u "twoToTheDoubleScaleUp"), (9, u "E"), (3, u "PI"), (2, u "TAU"), (2, u "DEGREES_TO_RADIANS"), (0, u "RADIANS_TO_DEGREES")] 94

def k13m0 : Method := { name := "<init>", desc := "()V", sig := { parameters := [], returnType := none }, accessFlags := 2, code := none }
def k13c1 : Code := { maxStack := 2, maxLocals := 2, code := jdk_29_method_65_code, exceptionTable := #[], attributes := #[] }
def k13m1 : Method := { name := "max", desc := "(II)I", sig := { parameters := [.int, .int], returnType := some .int }, accessFlags := 9, code := some k13c1 }
def k13c2 : Code := { maxStack := 2, maxLocals := 2, code := jdk_29_method_69_code, exceptionTable := #[], attributes := #[] }
def k13m2 : Method := { name := "min", desc := "(II)I", sig := { parameters := [.int, .int], returnType := some .int }, accessFlags := 9, code := some k13c2 }
/-- java/lang/Math -/
def k13 : Class := { plain "java/lang/Math" (some 0) with
  accessFlags := 49
  interfaces := #[]
  cf := some (fileOf pool13 1 #[.nestMembers #[98]] #[{ accessFlags := 2, nameIndex := 7, descriptorIndex := 8, attributes := #[] }, { accessFlags := 9, nameIndex := 198, descriptorIndex := 335, attributes := #[] }, { accessFlags := 9, nameIndex := 201, descriptorIndex := 335, attributes := #[] }] 49 4 #[] #[{ accessFlags := 25, nameIndex := 354, descriptorIndex := 339, attributes := #[] }, { accessFlags := 25, nameIndex := 358, descriptorIndex := 339, attributes := #[] }, { accessFlags := 25, nameIndex := 361, descriptorIndex := 339, attributes := #[] }, { accessFlags := 26, nameIndex := 364, descriptorIndex := 339, attributes := #[] }, { accessFlags := 26, nameIndex := 365, descriptorIndex := 339, attributes := #[] }, { accessFlags := 26, nameIndex := 172, descriptorIndex := 173, attributes := #[] }, { accessFlags := 26, nameIndex := 176, descriptorIndex := 173, attributes := #[] }, { accessFlags := 8, nameIndex := 344, descriptorIndex := 339, attributes := #[] }, { accessFlags := 8, nameIndex := 338, descriptorIndex := 339, attributes := #[] }, { accessFlags := 4120, nameIndex := 245, descriptorIndex := 246, attributes := #[] }])
  fields := #[{ name := "E", type := .double, accessFlags := 25, slot := 0, constantValue := 0 }, { name := "PI", type := .double, accessFlags := 25, slot := 1, constantValue := 0 }, { name := "TAU", type := .double, accessFlags := 25, slot := 2, constantValue := 0 }, { name := "DEGREES_TO_RADIANS", type := .double, accessFlags := 26, slot := 3, constantValue := 0 }, { name := "RADIANS_TO_DEGREES", type := .double, accessFlags := 26, slot := 4, constantValue := 0 }, { name := "negativeZeroFloatBits", type := .long, accessFlags := 26, slot := 5, constantValue := 0 }, { name := "negativeZeroDoubleBits", type := .long, accessFlags := 26, slot := 6, constantValue := 0 }, { name := "twoToTheDoubleScaleUp", type := .double, accessFlags := 8, slot := 7, constantValue := 0 }, { name := "twoToTheDoubleScaleDown", type := .double, accessFlags := 8, slot := 8, constantValue := 0 }, { name := "$assertionsDisabled", type := .boolean, accessFlags := 4120, slot := 9, constantValue := 0 }]
  methods := #[k13m0, k13m1, k13m2]
  instanceTypes := #[]
  staticTypes := #[.double, .double, .double, .double, .double, .long, .long, .double, .double, .boolean]
  resolved := Array.replicate 460 none
  statics := none }

def pool14 : Array CpInfo := pool [(2, .class_ 4), (1, u "java/lang/Object"), (0, u "<init>"), (0, u "()V"), (7, .class_ 16), (1, u "java/util/Arrays"), (57, .class_ 76), (1, u "java/util/Arrays$NaturalOrder"), (9, .methodref 2 87), (0, .nameAndType 88 89), (0, u "getClass"), (0, u "()Ljava/lang/Class;"), (20, .class_ 111), (0, u "[Ljava/lang/Object;"), (1, .class_ 115), (1, u "java/util/Arrays$LegacyMergeSort"), (1, u "Z"), (32, .methodref 151 152), (0, .class_ 153), (0, .nameAndType 154 155), (0, u "java/lang/System"), (0, u "arraycopy"), (0, u "(Ljava/lang/Object;ILjava/lang/Object;II)V"), (144, .methodref 14 301), (0, .nameAndType 302 303), (0, u "copyOf"), (0, u "([Ljava/lang/Object;ILjava/lang/Class;)[Ljava/lang/Object;"), (0, .methodref 305 306), (0, .class_ 307), (0, .nameAndType 308 309), (0, u "java/lang/Math"), (0, u "min"), (0, u "(II)I"), (65, .class_ 376), (0, u "java/util/Arrays$ArrayList"), (68, u "$assertionsDisabled"), (269, u "MIN_ARRAY_SORT_GRAN"), (0, u "I"), (2, u "INSERTIONSORT_THRESHOLD"), (140, u "([Ljava/lang/Object;I)[Ljava/lang/Object;"), (114, .class_ 976), (0, u "java/util/Arrays$ArrayItr")] 52

def k14m0 : Method := { name := "<init>", desc := "()V", sig := { parameters := [], returnType := none }, accessFlags := 2, code := none }
def k14c1 : Code := { maxStack := 3, maxLocals := 2, code := jdk_65_method_119_code, exceptionTable := #[], attributes := #[] }
def k14m1 : Method := { name := "copyOf", desc := "([Ljava/lang/Object;I)[Ljava/lang/Object;", sig := { parameters := [(.array (.object "java/lang/Object")), .int], returnType := some (.array (.object "java/lang/Object")) }, accessFlags := 9, code := some k14c1 }
def k14c2 : Code := { maxStack := 6, maxLocals := 4, code := jdk_65_method_120_code, exceptionTable := #[], attributes := #[] }
def k14m2 : Method := { name := "copyOf", desc := "([Ljava/lang/Object;ILjava/lang/Class;)[Ljava/lang/Object;", sig := { parameters := [(.array (.object "java/lang/Object")), .int, (.object "java/lang/Class")], returnType := some (.array (.object "java/lang/Object")) }, accessFlags := 9, code := some k14c2 }
/-- java/util/Arrays -/
def k14 : Class := { plain "java/util/Arrays" (some 0) with
  accessFlags := 49
  interfaces := #[]
  cf := some (fileOf pool14 14 #[.nestMembers #[975, 375, 113, 74]] #[{ accessFlags := 2, nameIndex := 5, descriptorIndex := 6, attributes := #[] }, { accessFlags := 9, nameIndex := 302, descriptorIndex := 860, attributes := #[] }, { accessFlags := 9, nameIndex := 302, descriptorIndex := 303, attributes := #[] }] 49 2 #[] #[{ accessFlags := 26, nameIndex := 715, descriptorIndex := 716, attributes := #[] }, { accessFlags := 26, nameIndex := 719, descriptorIndex := 716, attributes := #[] }, { accessFlags := 4120, nameIndex := 445, descriptorIndex := 117, attributes := #[] }])
  fields := #[{ name := "MIN_ARRAY_SORT_GRAN", type := .int, accessFlags := 26, slot := 0, constantValue := 0 }, { name := "INSERTIONSORT_THRESHOLD", type := .int, accessFlags := 26, slot := 1, constantValue := 0 }, { name := "$assertionsDisabled", type := .boolean, accessFlags := 4120, slot := 2, constantValue := 0 }]
  methods := #[k14m0, k14m1, k14m2]
  instanceTypes := #[]
  staticTypes := #[.int, .int, .boolean]
  resolved := Array.replicate 1029 none
  statics := none }

def pool15 : Array CpInfo := pool [(2, .class_ 4), (1, u "java/lang/Object"), (0, u "<init>"), (0, u "()V"), (1, .class_ 10), (1, u "java/lang/System"), (0, u "allowSecurityManager"), (0, u "I"), (16, u "cons"), (0, u "Ljava/io/Console;"), (77, .class_ 110), (1, u "java/lang/System$CallersHolder"), (43, u "initialErrStream"), (0, u "Ljava/io/PrintStream;"), (19, u "security"), (0, u "Ljava/lang/SecurityManager;"), (31, .class_ 209), (0, u "java/lang/System$1"), (7, u "props"), (0, u "Ljava/util/Properties;"), (2, u "lineSeparator"), (0, u "Ljava/lang/String;"), (96, .class_ 321), (1, u "java/lang/System$LoggerFinder"), (5, .class_ 328), (0, u "java/lang/System$Logger"), (67, u "err"), (2, u "out"), (91, u "notSupportedJnuEncoding"), (15, u "in"), (17, u "initialIn"), (0, u "Ljava/io/InputStream;"), (35, u "bootLayer"), (0, u "Ljava/lang/ModuleLayer;"), (99, .class_ 664), (0, u "java/lang/System$2"), (9, u "NEVER"), (2, u "MAYBE"), (49, u "arraycopy"), (0, u "(Ljava/lang/Object;ILjava/lang/Object;II)V"), (72, .class_ 802), (0, u "java/lang/System$Logger$Level")] 31

def k15m0 : Method := { name := "<init>", desc := "()V", sig := { parameters := [], returnType := none }, accessFlags := 2, code := none }
def k15m1 : Method := { name := "arraycopy", desc := "(Ljava/lang/Object;ILjava/lang/Object;II)V", sig := { parameters := [(.object "java/lang/Object"), .int, (.object "java/lang/Object"), .int, .int], returnType := none }, accessFlags := 265, code := none }
/-- java/lang/System -/
def k15 : Class := { plain "java/lang/System" (some 0) with
  accessFlags := 49
  interfaces := #[]
  cf := some (fileOf pool15 8 #[.nestMembers #[319, 327, 801, 108, 663, 208]] #[{ accessFlags := 2, nameIndex := 5, descriptorIndex := 6, attributes := #[] }, { accessFlags := 265, nameIndex := 727, descriptorIndex := 728, attributes := #[] }] 49 2 #[] #[{ accessFlags := 25, nameIndex := 507, descriptorIndex := 526, attributes := #[] }, { accessFlags := 25, nameIndex := 399, descriptorIndex := 155, attributes := #[] }, { accessFlags := 25, nameIndex := 396, descriptorIndex := 155, attributes := #[] }, { accessFlags := 10, nameIndex := 525, descriptorIndex := 526, attributes := #[] }, { accessFlags := 26, nameIndex := 674, descriptorIndex := 12, attributes := #[] }, { accessFlags := 26, nameIndex := 677, descriptorIndex := 12, attributes := #[] }, { accessFlags := 10, nameIndex := 11, descriptorIndex := 12, attributes := #[] }, { accessFlags := 74, nameIndex := 175, descriptorIndex := 176, attributes := #[] }, { accessFlags := 10, nameIndex := 491, descriptorIndex := 222, attributes := #[] }, { accessFlags := 74, nameIndex := 29, descriptorIndex := 30, attributes := #[] }, { accessFlags := 74, nameIndex := 154, descriptorIndex := 155, attributes := #[] }, { accessFlags := 10, nameIndex := 217, descriptorIndex := 218, attributes := #[] }, { accessFlags := 10, nameIndex := 221, descriptorIndex := 222, attributes := #[] }, { accessFlags := 8, nameIndex := 562, descriptorIndex := 563, attributes := #[] }])
  fields := #[{ name := "in", type := (.object "java/io/InputStream"), accessFlags := 25, slot := 0, constantValue := 0 }, { name := "out", type := (.object "java/io/PrintStream"), accessFlags := 25, slot := 1, constantValue := 0 }, { name := "err", type := (.object "java/io/PrintStream"), accessFlags := 25, slot := 2, constantValue := 0 }, { name := "initialIn", type := (.object "java/io/InputStream"), accessFlags := 10, slot := 3, constantValue := 0 }, { name := "NEVER", type := .int, accessFlags := 26, slot := 4, constantValue := 0 }, { name := "MAYBE", type := .int, accessFlags := 26, slot := 5, constantValue := 0 }, { name := "allowSecurityManager", type := .int, accessFlags := 10, slot := 6, constantValue := 0 }, { name := "security", type := (.object "java/lang/SecurityManager"), accessFlags := 74, slot := 7, constantValue := 0 }, { name := "notSupportedJnuEncoding", type := (.object "java/lang/String"), accessFlags := 10, slot := 8, constantValue := 0 }, { name := "cons", type := (.object "java/io/Console"), accessFlags := 74, slot := 9, constantValue := 0 }, { name := "initialErrStream", type := (.object "java/io/PrintStream"), accessFlags := 74, slot := 10, constantValue := 0 }, { name := "props", type := (.object "java/util/Properties"), accessFlags := 10, slot := 11, constantValue := 0 }, { name := "lineSeparator", type := (.object "java/lang/String"), accessFlags := 10, slot := 12, constantValue := 0 }, { name := "bootLayer", type := (.object "java/lang/ModuleLayer"), accessFlags := 8, slot := 13, constantValue := 0 }]
  methods := #[k15m0, k15m1]
  instanceTypes := #[]
  staticTypes := #[(.object "java/io/InputStream"), (.object "java/io/PrintStream"), (.object "java/io/PrintStream"), (.object "java/io/InputStream"), .int, .int, .int, (.object "java/lang/SecurityManager"), (.object "java/lang/String"), (.object "java/io/Console"), (.object "java/io/PrintStream"), (.object "java/util/Properties"), (.object "java/lang/String"), (.object "java/lang/ModuleLayer")]
  resolved := Array.replicate 834 none
  statics := none }

def pool16 : Array CpInfo := pool [(1, u "java/lang/Class"), (0, .class_ 1), (0, u "java/lang/Object"), (0, .class_ 3)] 0

/-- java/lang/Class -/
def k16 : Class := { plain "java/lang/Class" (some 0) with
  accessFlags := 49
  interfaces := #[]
  cf := some (fileOf pool16 2 #[] #[] 49 4 #[] #[])
  fields := #[]
  methods := #[]
  instanceTypes := #[]
  staticTypes := #[]
  resolved := Array.replicate 5 none
  statics := none }

/-- the primitive byte -/
def k17 : Class := { plain "byte" none with kind := .primitive 'B', accessFlags := 0x411 }
/-- [B -/
def k18 : Class := { plain "[B" (some 0) with kind := .array 17 .byte, interfaces := #[9, 10], accessFlags := 1041 }

/-- the primitive int -/
def k19 : Class := { plain "int" none with kind := .primitive 'I', accessFlags := 0x411 }
/-- [I -/
def k20 : Class := { plain "[I" (some 0) with kind := .array 19 .int, interfaces := #[9, 10], accessFlags := 1041 }

/-- [Ljava/lang/Object; -/
def k21 : Class := { plain "[Ljava/lang/Object;" (some 0) with kind := .array 0 (.object "java/lang/Object"), interfaces := #[9, 10], accessFlags := 1041, mirror := some 2 }

def heap : Heap := #[{ cls := 11, slots := #[.long 0, .int 0, .ref 4, .ref 5], vm := .statics 11 },
  { cls := 12, slots := #[.ref 3], vm := .statics 12 },
  { cls := 16, slots := #[], vm := .mirror 21 },
  { cls := 21, slots := #[], vm := .none },
  { cls := 21, slots := #[], vm := .none },
  { cls := 21, slots := #[], vm := .none }]
/-- [[I -/
def k22 : Class := { plain "[[I" (some 0) with kind := .array 20 (.array .int), interfaces := #[9, 10], accessFlags := 1041 }
def classes : Array Class := #[k0, k1, k2, k3, k4, k5, k6, k7, k8, k9, k10, k11, k12, k13, k14, k15, k16, k17, k18, k19, k20, k21, k22]
def interned : List (Array UInt16 × Addr) := []
def slotsUsed : Nat := 5
def theMethod : MethodId := ⟨1, 2⟩
def args0 : Array Value := #[.int 5, .int 2, .int 3, .int 4]
def aboutOver (below : List Frame) : State where
  vm := { classes := classes, interned := interned.toArray }
  heap := heap
  slotsUsed := slotsUsed
  threads := #[{ frames := .invoking theMethod args0 :: below }]
def below0 : List Frame := [.native { method := ⟨0, 0⟩, args := #[] }]
def about1 : State := aboutOver below0
def p0 : Program := .bare "" "" ""
def e0 : Env := launch0.env 0 0 0
theorem w_frames : about1.frames = Frame.invoking theMethod args0 :: below0 := rfl
set_option maxRecDepth 65536 in
theorem w_args : argsFit about1.vm theMethod args0 = true := by decide +kernel
set_option maxRecDepth 65536 in
theorem w_heap : heapFits about1 = true := by decide +kernel
set_option maxRecDepth 65536 in
theorem w_runnable : about1.curStatus? = some .runnable := by decide +kernel
set_option maxRecDepth 65536 in
theorem w_alone : about1.alone = true := by decide +kernel
set_option maxRecDepth 65536 in
theorem w_named : about1.methodNamed? x = some theMethod := by decide +kernel
set_option maxRecDepth 65536 in
theorem w_hears : about1.hears theMethod below0 = true := by decide +kernel
set_option maxRecDepth 65536 in
theorem w_ripe : about1.ripe theMethod args0 below0 = true := by decide +kernel
theorem w_running : about1.status = .running := rfl
set_option maxRecDepth 65536 in
theorem w_room : about1.hasRoom e0.platform room_1 = true :=
  launch0.hasRoom_least _ room_1 (by decide +kernel) (by decide +kernel) (by decide +kernel) (by decide +kernel) (by decide +kernel) (by decide +kernel)
theorem allAtoms_all (ts : List Jvm.Cond) (a : Array Jvm.Value) (st : Jvm.State) : (allAtoms ts).before a st = ts.all (fun c => c.before a st) := by
  induction ts with
  | nil => rfl
  | cons c t ih =>
    show (Jvm.Cond.and c (allAtoms t)).before a st = _
    rw [Jvm.Cond.before_and, ih, List.all_cons]
def words1 : List Jvm.Cond := Jvm.Cond.code x code maxLocals ret :: tables_1
/-- a 'code' word, met by the world's own term for the bytes: nothing is compared byte by byte -/
theorem code_word {y : MethodName} {bytes : ByteArray} {mx : Nat} {rt : Option FieldType} {a : Array Value} {s : State} {m : MethodId} {meth : Method} {c : Code} (h1 : s.methodNamed? y = some m) (h2 : s.vm.method? m = some meth) (h3 : meth.code = some c) (h4 : c.code = bytes)
    (h5 : (c.maxLocals == mx && c.exceptionTable.isEmpty && decide (c.maxStack ≤ mostOperands) && decide (meth.sig.returnType = rt) && !meth.locks && decide (parseMethodDescriptor y.desc = some meth.sig)) = true) : (Jvm.Cond.code y bytes mx rt).before a s = true := by
  simp only [Bool.and_eq_true, beq_iff_eq, Bool.not_eq_true', decide_eq_true_eq] at h5
  obtain ⟨⟨⟨⟨⟨g1, g2⟩, g3⟩, g4⟩, g5⟩, g6⟩ := h5
  simp [Cond.before, Cond.holds, Cond.value, h1, h2, h3, h4, g1, g2, g3, g4, g5, g6]
def isCode : Jvm.Cond → Bool
  | .code _ _ _ _ => true
  | _ => false
theorem all_split {L : List Jvm.Cond} {P : Jvm.Cond → Bool} (h1 : L.all (fun c => isCode c || P c) = true) (h2 : ∀ c ∈ L.filter isCode, P c = true) : L.all P = true := by
  refine List.all_eq_true.mpr fun c hc => ?_
  have h := List.all_eq_true.mp h1 c hc
  rcases Bool.eq_false_or_eq_true (isCode c) with hi | hi
  · exact h2 c (List.mem_filter.mpr ⟨hc, hi⟩)
  · simpa [hi] using h
set_option maxRecDepth 65536 in
theorem w_c0 : (Jvm.Cond.code x code maxLocals ret).before args0 about1 = true := code_word (m := ⟨1, 2⟩) (meth := k1m2) (c := k1c2) (by decide +kernel) rfl rfl rfl (by decide +kernel)
set_option maxRecDepth 65536 in
theorem w_c1 : (Jvm.Cond.code ({ cls := "java/util/ArrayList", name := "<init>", desc := "()V" } : Jvm.MethodName) jdk_38_method_2_code (1 : Nat) (Option.none : Option Jvm.ClassFile.FieldType)).before args0 about1 = true := code_word (m := ⟨11, 0⟩) (meth := k11m0) (c := k11c0) (by decide +kernel) rfl rfl rfl (by decide +kernel)
set_option maxRecDepth 65536 in
theorem w_c2 : (Jvm.Cond.code ({ cls := "java/util/AbstractList", name := "<init>", desc := "()V" } : Jvm.MethodName) jdk_39_method_1_code (1 : Nat) (Option.none : Option Jvm.ClassFile.FieldType)).before args0 about1 = true := code_word (m := ⟨7, 0⟩) (meth := k7m0) (c := k7c0) (by decide +kernel) rfl rfl rfl (by decide +kernel)
set_option maxRecDepth 65536 in
theorem w_c3 : (Jvm.Cond.code ({ cls := "java/util/AbstractCollection", name := "<init>", desc := "()V" } : Jvm.MethodName) jdk_22_method_1_code (1 : Nat) (Option.none : Option Jvm.ClassFile.FieldType)).before args0 about1 = true := code_word (m := ⟨4, 0⟩) (meth := k4m0) (c := k4c0) (by decide +kernel) rfl rfl rfl (by decide +kernel)
set_option maxRecDepth 65536 in
theorem w_c4 : (Jvm.Cond.code ({ cls := "java/lang/Object", name := "<init>", desc := "()V" } : Jvm.MethodName) object_method_1_code (1 : Nat) (Option.none : Option Jvm.ClassFile.FieldType)).before args0 about1 = true := code_word (m := ⟨0, 0⟩) (meth := k0m0) (c := k0c0) (by decide +kernel) rfl rfl rfl (by decide +kernel)
set_option maxRecDepth 65536 in
theorem w_c5 : (Jvm.Cond.code ({ cls := "com/example/hollow_tree/hollowtree/query/IdentityTable", name := "<init>", desc := "()V" } : Jvm.MethodName) prog_144_method_1_code (1 : Nat) (Option.none : Option Jvm.ClassFile.FieldType)).before args0 about1 = true := code_word (m := ⟨12, 0⟩) (meth := k12m0) (c := k12c0) (by decide +kernel) rfl rfl rfl (by decide +kernel)
set_option maxRecDepth 65536 in
theorem w_c6 : (Jvm.Cond.code ({ cls := "com/example/hollow_tree/hollowtree/query/IdentityTable", name := "get", desc := "(Ljava/lang/Object;)Ljava/lang/Object;" } : Jvm.MethodName) prog_144_method_2_code (4 : Nat) (Option.some (Jvm.ClassFile.FieldType.object "java/lang/Object"))).before args0 about1 = true := code_word (m := ⟨12, 1⟩) (meth := k12m1) (c := k12c1) (by decide +kernel) rfl rfl rfl (by decide +kernel)
set_option maxRecDepth 65536 in
theorem w_c7 : (Jvm.Cond.code ({ cls := "com/example/hollow_tree/hollowtree/query/IdentityTableGetPinLaw", name := "expect", desc := "(II[[I)[I" } : Jvm.MethodName) method_2_code (3 : Nat) (Option.some (Jvm.ClassFile.FieldType.array Jvm.ClassFile.FieldType.int))).before args0 about1 = true := code_word (m := ⟨1, 1⟩) (meth := k1m1) (c := k1c1) (by decide +kernel) rfl rfl rfl (by decide +kernel)
set_option maxRecDepth 65536 in
theorem w_c8 : (Jvm.Cond.code ({ cls := "com/example/hollow_tree/hollowtree/query/IdentityTable", name := "put", desc := "(Ljava/lang/Object;Ljava/lang/Object;)V" } : Jvm.MethodName) prog_144_method_3_code (3 : Nat) (Option.none : Option Jvm.ClassFile.FieldType)).before args0 about1 = true := code_word (m := ⟨12, 2⟩) (meth := k12m2) (c := k12c2) (by decide +kernel) rfl rfl rfl (by decide +kernel)
set_option maxRecDepth 65536 in
theorem w_c9 : (Jvm.Cond.code ({ cls := "java/lang/Math", name := "max", desc := "(II)I" } : Jvm.MethodName) jdk_29_method_65_code (2 : Nat) (Option.some Jvm.ClassFile.FieldType.int)).before args0 about1 = true := code_word (m := ⟨13, 1⟩) (meth := k13m1) (c := k13c1) (by decide +kernel) rfl rfl rfl (by decide +kernel)
set_option maxRecDepth 65536 in
theorem w_c10 : (Jvm.Cond.code ({ cls := "java/util/Arrays", name := "copyOf", desc := "([Ljava/lang/Object;I)[Ljava/lang/Object;" } : Jvm.MethodName) jdk_65_method_119_code (2 : Nat) (Option.some (Jvm.ClassFile.FieldType.array (Jvm.ClassFile.FieldType.object "java/lang/Object")))).before args0 about1 = true := code_word (m := ⟨14, 1⟩) (meth := k14m1) (c := k14c1) (by decide +kernel) rfl rfl rfl (by decide +kernel)
set_option maxRecDepth 65536 in
theorem w_c11 : (Jvm.Cond.code ({ cls := "java/util/Arrays", name := "copyOf", desc := "([Ljava/lang/Object;ILjava/lang/Class;)[Ljava/lang/Object;" } : Jvm.MethodName) jdk_65_method_120_code (4 : Nat) (Option.some (Jvm.ClassFile.FieldType.array (Jvm.ClassFile.FieldType.object "java/lang/Object")))).before args0 about1 = true := code_word (m := ⟨14, 2⟩) (meth := k14m2) (c := k14c2) (by decide +kernel) rfl rfl rfl (by decide +kernel)
set_option maxRecDepth 65536 in
theorem w_c12 : (Jvm.Cond.code ({ cls := "java/lang/Math", name := "min", desc := "(II)I" } : Jvm.MethodName) jdk_29_method_69_code (2 : Nat) (Option.some Jvm.ClassFile.FieldType.int)).before args0 about1 = true := code_word (m := ⟨13, 2⟩) (meth := k13m2) (c := k13c2) (by decide +kernel) rfl rfl rfl (by decide +kernel)
def codes1 : List Jvm.Cond := [Jvm.Cond.code x code maxLocals ret, Jvm.Cond.code ({ cls := "java/util/ArrayList", name := "<init>", desc := "()V" } : Jvm.MethodName) jdk_38_method_2_code (1 : Nat) (Option.none : Option Jvm.ClassFile.FieldType), Jvm.Cond.code ({ cls := "java/util/AbstractList", name := "<init>", desc := "()V" } : Jvm.MethodName) jdk_39_method_1_code (1 : Nat) (Option.none : Option Jvm.ClassFile.FieldType), Jvm.Cond.code ({ cls := "java/util/AbstractCollection", name := "<init>", desc := "()V" } : Jvm.MethodName) jdk_22_method_1_code (1 : Nat) (Option.none : Option Jvm.ClassFile.FieldType), Jvm.Cond.code ({ cls := "java/lang/Object", name := "<init>", desc := "()V" } : Jvm.MethodName) object_method_1_code (1 : Nat) (Option.none : Option Jvm.ClassFile.FieldType), Jvm.Cond.code ({ cls := "com/example/hollow_tree/hollowtree/query/IdentityTable", name := "<init>", desc := "()V" } : Jvm.MethodName) prog_144_method_1_code (1 : Nat) (Option.none : Option Jvm.ClassFile.FieldType), Jvm.Cond.code ({ cls := "com/example/hollow_tree/hollowtree/query/IdentityTable", name := "get", desc := "(Ljava/lang/Object;)Ljava/lang/Object;" } : Jvm.MethodName) prog_144_method_2_code (4 : Nat) (Option.some (Jvm.ClassFile.FieldType.object "java/lang/Object")), Jvm.Cond.code ({ cls := "com/example/hollow_tree/hollowtree/query/IdentityTableGetPinLaw", name := "expect", desc := "(II[[I)[I" } : Jvm.MethodName) method_2_code (3 : Nat) (Option.some (Jvm.ClassFile.FieldType.array Jvm.ClassFile.FieldType.int)), Jvm.Cond.code ({ cls := "com/example/hollow_tree/hollowtree/query/IdentityTable", name := "put", desc := "(Ljava/lang/Object;Ljava/lang/Object;)V" } : Jvm.MethodName) prog_144_method_3_code (3 : Nat) (Option.none : Option Jvm.ClassFile.FieldType), Jvm.Cond.code ({ cls := "java/lang/Math", name := "max", desc := "(II)I" } : Jvm.MethodName) jdk_29_method_65_code (2 : Nat) (Option.some Jvm.ClassFile.FieldType.int), Jvm.Cond.code ({ cls := "java/util/Arrays", name := "copyOf", desc := "([Ljava/lang/Object;I)[Ljava/lang/Object;" } : Jvm.MethodName) jdk_65_method_119_code (2 : Nat) (Option.some (Jvm.ClassFile.FieldType.array (Jvm.ClassFile.FieldType.object "java/lang/Object"))), Jvm.Cond.code ({ cls := "java/util/Arrays", name := "copyOf", desc := "([Ljava/lang/Object;ILjava/lang/Class;)[Ljava/lang/Object;" } : Jvm.MethodName) jdk_65_method_120_code (4 : Nat) (Option.some (Jvm.ClassFile.FieldType.array (Jvm.ClassFile.FieldType.object "java/lang/Object"))), Jvm.Cond.code ({ cls := "java/lang/Math", name := "min", desc := "(II)I" } : Jvm.MethodName) jdk_29_method_69_code (2 : Nat) (Option.some Jvm.ClassFile.FieldType.int)]
set_option maxRecDepth 65536 in
theorem codes_eq : words1.filter isCode = codes1 := rfl
theorem w_codes : ∀ c ∈ words1.filter isCode, c.before args0 about1 = true := by
  rw [codes_eq]
  intro c hc
  simp only [codes1, List.mem_cons, List.not_mem_nil, or_false] at hc
  rcases hc with rfl | rfl | rfl | rfl | rfl | rfl | rfl | rfl | rfl | rfl | rfl | rfl | rfl
  · exact w_c0
  · exact w_c1
  · exact w_c2
  · exact w_c3
  · exact w_c4
  · exact w_c5
  · exact w_c6
  · exact w_c7
  · exact w_c8
  · exact w_c9
  · exact w_c10
  · exact w_c11
  · exact w_c12
set_option maxRecDepth 65536 in
theorem w_t1 : (words1.take 24).all (fun c => isCode c || c.before args0 about1) = true := by decide +kernel
set_option maxRecDepth 65536 in
theorem w_t2 : ((words1.drop 24).take 24).all (fun c => isCode c || c.before args0 about1) = true := by decide +kernel
set_option maxRecDepth 65536 in
theorem w_t3 : (((words1.drop 24).drop 24).take 24).all (fun c => isCode c || c.before args0 about1) = true := by decide +kernel
set_option maxRecDepth 65536 in
theorem w_t4 : (((words1.drop 24).drop 24).drop 24).all (fun c => isCode c || c.before args0 about1) = true := by decide +kernel
theorem w_tables : (allAtoms (Jvm.Cond.code x code maxLocals ret :: tables_1)).before args0 about1 = true := by
  rw [allAtoms_all]
  show words1.all (fun c => c.before args0 about1) = true
  refine all_split ?_ w_codes
  rw [← List.take_append_drop 24 words1, List.all_append, w_t1, ← List.take_append_drop 24 (words1.drop 24), List.all_append, w_t2, ← List.take_append_drop 24 ((words1.drop 24).drop 24), List.all_append, w_t3, w_t4]
  rfl
set_option maxRecDepth 65536 in
theorem w_rest : rest_1_c.before args0 about1 = true := by decide +kernel
set_option maxRecDepth 65536 in
theorem w_case : (Jvm.Cond.and given_1 narrow_1).before args0 about1 = true := by decide +kernel
theorem w_applies : (headSpec (Jvm.Cond.code x code maxLocals ret :: tables_1) room_1).applies x e0.platform about1 = true :=
  (Spec.applies_iff w_frames).mpr ⟨w_running, w_runnable, w_alone, w_named, w_hears, w_ripe, w_room, w_tables⟩
theorem atStart : AtStart classFile x code maxLocals ret World_1 tables_1 room_1 Calls_1 rest_1 Pre_1 launch0 p0 e0 about1 theMethod args0 below0 :=
  ⟨lists_1, trivial, launch0.admits_env _ _ _, launch0.least_env, fairChoices_fair.cas, fairChoices_fair.clock, w_frames, w_args, w_heap, w_applies, ⟨⟨21, k21, 2, by decide +kernel, rfl, rfl, _, rfl, rfl⟩, trivial⟩, w_rest, w_case⟩
end start1
theorem witness_1 : WitnessClaimed_1 := ⟨start1.p0, start1.e0, start1.about1, start1.theMethod, start1.args0, start1.below0, start1.atStart⟩
end Jvm.Pilot.@@N@@
