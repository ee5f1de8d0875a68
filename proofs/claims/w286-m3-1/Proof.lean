import JvmDerived
import JvmDerived.Pilot.@@N@@Statement
import JvmDerived.Pilot.@@N@@Code
set_option linter.unusedVariables false
set_option linter.unusedSimpArgs false
namespace Jvm.RoadKit
open Sem ClassFile Op Lib Jvm.Stand Jvm.Free Jvm.LawKit
section New
variable {p : Program} {l : Launch} {e : Env} {R : Room} {s : State} {m : MethodId} {args : Array Value} {below : List Frame} {meth : Method} {c : Code} {T : State} {locs : List Loc} {cells slots : Nat}
theorem retI (X : Stand p l e R s m args below meth c T locs cells slots) (hx : p.tables.exec = Jvm.exec) {pc : Nat} {Ls : Array Slot} {z : Int32} {rest : List Value} (hret : meth.sig.returnType = some .int) (hd : decode c.code pc = .ok (.ireturn, 1)) {fs : List Frame}
    (hl : ∀ (f : JFrame) (acts : List Action), f.method = m → f.locked = none → f.entered = [] → (doReturn e (T.setTop f) acts (some (.int z))).1 = T.setFrames fs) : Steps p.tables e below (T.setTop (mkF m pc Ls (.int z :: rest))) (T.setFrames fs) := by
  have hm' : T.vm.method? m = some meth := X.method'
  have hn : narrow .int (.int z) = .int z := rfl
  show Steps p.tables e below (T.setTop { method := m, pc := pc, locals := Ls, stack := _ :: rest, locked := none }) _
  jvm_step X.here [X.here.top, hx, hd, hm', hret, hn]
  first | (intro acts; rw [hl _ acts rfl rfl rfl]) | rw [hl _ _ rfl rfl rfl]
  exact Steps.refl _
end New
end Jvm.RoadKit
namespace Jvm.Pilot.@@N@@
open Jvm Jvm.ClassFile Sem Op Lib Jvm.Free Jvm.Stand Jvm.LawKit Jvm.RoadKit Bundle Jvm.Pilot.@@N@@.Jvm.D
/-- from the frame g on the run comes to an end that Q says -/
def own_Goes (p : Program) (e : Env) (below : List Frame) (Q : Outcome → State → Prop) (T : State) (g : JFrame) : Prop :=
  ∃ s₂ o, Steps p.tables e below (T.setTop g) s₂ ∧ s₂.status = .running ∧ Ended s₂ below o ∧ Q o s₂
theorem own_st {p : Program} {e : Env} {below : List Frame} {Q : Outcome → State → Prop} {T T' : State} {g g' : JFrame}
    (h : ∀ t, Steps p.tables e below (T'.setTop g') t → Steps p.tables e below (T.setTop g) t) (k : own_Goes p e below Q T' g') : own_Goes p e below Q T g := by
  obtain ⟨s₂, o, h1, h2⟩ := k
  exact ⟨s₂, o, h _ h1, h2⟩
theorem own_end {p : Program} {l : Launch} {e : Env} {R : Room} {s : State} {m : MethodId} {args : Array Value} {below : List Frame} {meth : Method} {c : Code} {T : State} {locs : List Loc} {cells slots : Nat} {C S : Nat} {Q : Option Value → Heap → List Loc → Prop} {g : JFrame} {v : Option Value}
    (X : Stand p l e R s m args below meth c T locs cells slots) (hv : meth.sig.returnType = none → v = none)
    (hret : ∀ fs, (∀ (f : JFrame) (acts : List Action), f.method = m → f.locked = none → f.entered = [] → (doReturn e (T.setTop f) acts v).1 = T.setFrames fs) → Steps p.tables e below (T.setTop g) (T.setFrames fs))
    (hQ : Q v T.heap locs) (hC : cells ≤ C) (hS : slots ≤ S) (hlocks : meth.locks = false := by first | assumption) :
    own_Goes p e below (fun o U' => ∃ v L, o = .returned v ∧ Q v U'.heap L ∧ FrameEnd s o U' L C S) T g := by
  obtain ⟨fs, hr, hrun, hended, hW, hsame⟩ := X.leave (v := v) hv hlocks
  exact ⟨_, _, hret fs hr, hrun, hended, _, _, rfl, hQ, ⟨_, rfl⟩, hW, hsame.mono hC hS⟩
theorem own_selP {s : State} {args : Array Value} {y : MethodName} {n : Nat} (wi : (Cond.instantiable y.cls n).before args s = true) (hpriv : s.PrivateAt y) (hinst : (Cond.instanceMethod y).before args s = true)
    (hy : y.cls ≠ "java/lang/invoke/MethodHandle" ∧ y.cls ≠ "java/lang/invoke/VarHandle") : (Cond.selects y.cls y y).before args s = true := by
  obtain ⟨c, k, hc, hk, -, hi, -, -⟩ := Cond.instantiable_spec wi
  exact Jvm.Stand.selects_self_of_private hc hk (Bool.or_eq_false_iff.mp hi).1 hpriv hinst hy
/-- what a call by a contract leaves, its counters put in -/
theorem own_packS {p : Program} {l : Launch} {e : Env} {R : Room} {s : State} {m : MethodId} {args : Array Value} {below : List Frame} {meth : Method} {c : Code} {T : State} {locs : List Loc} {cells slots rc rs : Nat} {Q : Option Value → Heap → List Loc → Prop} {g : JFrame} {rest : List Value}
    (h : ∃ (v : Option Value) (vm₁ : Vm) (B : Pt), s.WarmedH vm₁ ∧ Stand p l e R s m args below meth c B.U B.locs B.cells B.slots ∧ (∃ L, Q v B.U.heap L ∧ B.locs = locs ++ L ∧ B.cells = cells + rc ∧ B.slots = slots + rs) ∧ ∀ target, Steps p.tables e below (B.U.setTop { g with pc := g.pc + 3, stack := v.toList ++ rest }) target → Steps p.tables e below (T.setTop g) target) :
    ∃ (v : Option Value) (T' : State) (L : List Loc), Stand p l e R s m args below meth c T' (locs ++ L) (cells + rc) (slots + rs) ∧ Q v T'.heap L ∧ ∀ target, Steps p.tables e below (T'.setTop { g with pc := g.pc + 3, stack := v.toList ++ rest }) target → Steps p.tables e below (T.setTop g) target := by
  obtain ⟨v, vm₁, ⟨T', L', k', n'⟩, -, X', ⟨Lc, hq, l, y, z⟩, st⟩ := h
  subst l y z
  exact ⟨v, T', Lc, X', hq, st⟩
theorem own_packV {p : Program} {l : Launch} {e : Env} {R : Room} {s : State} {m : MethodId} {args : Array Value} {below : List Frame} {meth : Method} {c : Code} {T : State} {locs : List Loc} {cells slots rc rs : Nat} {Q : Option Value → Heap → List Loc → Prop} {g : JFrame} {rest : List Value}
    (h : ∃ (v : Option Value) (vm₁ : Vm) (B : Pt), s.WarmedH vm₁ ∧ Stand p l e R s m args below meth c B.U B.locs B.cells B.slots ∧ (∃ L, Q v B.U.heap L ∧ B.locs = locs ++ L ∧ B.cells = cells + rc ∧ B.slots = slots + rs) ∧ Steps p.tables e below (T.setTop g) (B.U.setTop { g with pc := g.pc + 3, stack := v.toList ++ rest })) :
    ∃ (v : Option Value) (T' : State) (L : List Loc), Stand p l e R s m args below meth c T' (locs ++ L) (cells + rc) (slots + rs) ∧ Q v T'.heap L ∧ ∀ target, Steps p.tables e below (T'.setTop { g with pc := g.pc + 3, stack := v.toList ++ rest }) target → Steps p.tables e below (T.setTop g) target := by
  obtain ⟨v, vm₁, ⟨T', L', k', n'⟩, -, X', ⟨Lc, hq, l, y, z⟩, st⟩ := h
  subst l y z
  exact ⟨v, T', Lc, X', hq, fun _ k => st.trans k⟩
/-- the written places, their list forgotten -/
theorem own_loc {p : Program} {l : Launch} {e : Env} {R : Room} {s : State} {m : MethodId} {args : Array Value} {below : List Frame} {meth : Method} {c : Code} {T : State} {locs : List Loc} {cells slots k : Nat}
    (X : Stand p l e R s m args below meth c T locs cells slots) (N : Fr k locs) : ∃ locs', Stand p l e R s m args below meth c T locs' cells slots ∧ Fr k locs' := ⟨_, X, N⟩

theorem own_and (x : Int32) : 0 ≤ (x &&& 2147483647).toInt := by
  have := (c_and x 2147483647 (by decide)).1; exact this
theorem own_rem (x d : Int32) (h0 : 0 ≤ x.toInt) (hd : 0 < d.toInt) : (x - (x / d) * d).toInt = x.toInt % d.toInt ∧ 0 ≤ (x - (x / d) * d).toInt ∧ (x - (x / d) * d).toInt < d.toInt := by
  rw [irem_eq_mod]
  have e := (c_irem x d d.toInt rfl).1 h0
  exact ⟨e, by rw [e]; exact Int.emod_nonneg _ (by omega), by rw [e]; exact Int.emod_lt_of_pos _ hd⟩
theorem own_in (j d : Int32) (h1 : 0 ≤ j.toInt) (h2 : j.toInt < d.toInt) : ¬ j < 0 ∧ j < d := by
  constructor
  · rw [Int32.lt_iff_toInt_lt]; simp; omega
  · rw [Int32.lt_iff_toInt_lt]; exact h2
theorem own_getD (L : List Int32) (k : Nat) : (L.map Value.int).getD k (.int 0) = .int (L.getD k 0) := by
  simp only [List.getD, List.getElem?_map]
  cases L[k]? <;> rfl

def own_g (a v b : Addr) : Int32 := if a = v then (0 : Int32) else if a = b then (0 : Int32) else (1 : Int32)
theorem own_eight (z : Int32) (h0 : 0 ≤ z.toInt) (h1 : z.toInt < 8) : z = 0 ∨ z = 1 ∨ z = 2 ∨ z = 3 ∨ z = 4 ∨ z = 5 ∨ z = 6 ∨ z = 7 := by
  have e0 : (0 : Int32).toInt = 0 := rfl
  have e1 : (1 : Int32).toInt = 1 := rfl
  have e2 : (2 : Int32).toInt = 2 := rfl
  have e3 : (3 : Int32).toInt = 3 := rfl
  have e4 : (4 : Int32).toInt = 4 := rfl
  have e5 : (5 : Int32).toInt = 5 := rfl
  have e6 : (6 : Int32).toInt = 6 := rfl
  have e7 : (7 : Int32).toInt = 7 := rfl
  simp only [← Int32.toInt_inj, e0, e1, e2, e3, e4, e5, e6, e7]
  omega
theorem own_ord {args : Array Value} {s : State} {t : Term} {C n d : String} {k : Int32} {x : Addr} (ev : t.eval args s none [] s = some (.ref x)) (h : (Jvm.Cond.eq (Term.field t C n d) (Term.int k)).value args s none s [] = some true) : Fld s s.heap x C n d (.int k) := by
  refine Fld.start ?_
  have ha := fld_at (args := args) (first := s) (o := none) (idx := []) (s := s) (C := C) (n := n) (dd := d) ev
  have hb : (Term.int k).eval args s none [] s = some (.int k) := Term.int_eval k
  obtain ⟨v, y, h1, h2, h3, h4⟩ := cmp_v (Or.inl h)
  rw [hb] at h2; cases h2
  obtain ⟨z, rfl⟩ := h4
  rw [← ha, h1]
  simp [Cond.value, h1, hb] at h
  rw [h]
theorem d1_0 : decode prog_18_method_5_code 0 = .ok (.aload_n 0, 1) := by decide +kernel
theorem d1_1 : decode prog_18_method_5_code 1 = .ok (.getstatic 10, 3) := by decide +kernel
theorem d1_4 : decode prog_18_method_5_code 4 = .ok (.if_acmp .eq 14, 3) := by decide +kernel
theorem d1_7 : decode prog_18_method_5_code 7 = .ok (.aload_n 0, 1) := by decide +kernel
theorem d1_8 : decode prog_18_method_5_code 8 = .ok (.getstatic 3, 3) := by decide +kernel
theorem d1_11 : decode prog_18_method_5_code 11 = .ok (.if_acmp .eq 7, 3) := by decide +kernel
theorem d1_14 : decode prog_18_method_5_code 14 = .ok (.iconst 1, 1) := by decide +kernel
theorem d1_15 : decode prog_18_method_5_code 15 = .ok (.goto 4, 3) := by decide +kernel
theorem d1_18 : decode prog_18_method_5_code 18 = .ok (.iconst 0, 1) := by decide +kernel
theorem d1_19 : decode prog_18_method_5_code 19 = .ok (.ireturn, 1) := by decide +kernel
theorem own_pn1 : plainName "com/example/santa_fe/santafe/protocol/ErrorCode" = true := by first | (simp [plainName, overriddenIn]; done) | decide +kernel
theorem own_ef1 (m : MethodId) (x0 : Addr) : entryFrame m #[(.ref x0)] 1 = mkF m 0 #[.val (.ref x0)] [] := by first | (simp [entryFrame, mkF, argsToLocals, Value.category]; done) | rfl
def Q1 (Z : State) (a1 : Addr) (ev eb : Addr) (h0 : Heap) (n0 : Nat) (v : Option Value) (h : Heap) (L : List Loc) : Prop := v = some (.int (own_g a1 ev eb)) ∧ Fr n0 L ∧ h = h0
set_option maxRecDepth 65536 in
set_option maxHeartbeats 40000000 in
theorem rm1 (l : Launch) (Z : State) (a0 : Array Value) (hw : ∀ d ∈ tables_1, d.before a0 Z = true) (ws : List Jvm.Cond) (a1 : Addr) (ev eb : Addr) (h0 : Heap) (n0 : Nat) (Z0 : n0 ≤ h0.size) (S_v : Sta Z h0 "com/example/santa_fe/santafe/protocol/ErrorCode" "BAD_VERB" "Lcom/example/santa_fe/santafe/protocol/ErrorCode;" (.ref ev)) (S_b : Sta Z h0 "com/example/santa_fe/santafe/protocol/ErrorCode" "BAD_ARGUMENT" "Lcom/example/santa_fe/santafe/protocol/ErrorCode;" (.ref eb))   :
    MetFree l (⟨"com/example/santa_fe/santafe/protocol/ErrorCode", "echoesArguments", "()Z"⟩ : MethodName) (head1 (Jvm.Cond.code (⟨"com/example/santa_fe/santafe/protocol/ErrorCode", "echoesArguments", "()Z"⟩ : MethodName) prog_18_method_5_code 1 (some .boolean) :: ws) ({ frames := 0, cells := 0, slots := 0, locals := 0 } : Room)) (fun a U => a = #[(.ref a1)] ∧ Z.Warmed39 U.vm ∧ U.heap = h0) (fun _ _ _ _ _ => True) (fun _ U o U' => ∃ v L, o = .returned v ∧ Q1 Z a1 ev eb h0 n0 v U'.heap L ∧ FrameEnd U o U' L ({ frames := 0, cells := 0, slots := 0, locals := 0 } : Room).cells ({ frames := 0, cells := 0, slots := 0, locals := 0 } : Room).slots) := by
  refine MetFree.of_bodySF (plainFor_of_name own_pn1) hisR ?_
  intro p e s m args below meth c s₁ Bd hml0 hP hK
  obtain ⟨rfl, hZ, hh⟩ := hP
  have hx := Bd.exec
  have hby := Bd.bytes
  have hml : c.maxLocals = 1 := hml0
  have hown : s.vm.findClass "com/example/santa_fe/santafe/protocol/ErrorCode" = some m.cls := findClass_of_methodNamed Bd.named
  have hnm := (name_of_methodNamed Bd.named Bd.method).1
  have hlk := Bd.notSynchronized
  have X0 : Stand p l e ({ frames := 0, cells := 0, slots := 0, locals := 0 } : Room) s m #[(.ref a1)] below meth c s₁ [] 0 0 := Stand.of_body Bd
  have e0 : s₁.heap = h0 := by rw [← hh, Bd.state]; rfl
  have N0 := Fr.nil n0
  show own_Goes p e below (fun o U' => ∃ v L, o = .returned v ∧ Q1 Z a1 ev eb h0 n0 v U'.heap L ∧ FrameEnd s o U' L ({ frames := 0, cells := 0, slots := 0, locals := 0 } : Room).cells ({ frames := 0, cells := 0, slots := 0, locals := 0 } : Room).slots) s₁ (entryFrame m #[(.ref a1)] 1)
  refine own_st (T' := s₁) (g' := mkF m 0 #[.val (.ref a1)] []) (fun _ k => castTop (own_ef1 m a1) k) ?_
  have hf : own_g a1 ev eb = own_g a1 ev eb := rfl
  refine own_st (T' := s₁) (g' := (mkF m 1 #[.val (.ref a1)] [(.ref a1)])) (fun _ k => Jvm.Free.XS.aloadN (g := (mkF m 0 #[.val (.ref a1)] [])) X0.here hx rfl (hb hby d1_0) rfl rfl k) ?_
  obtain ⟨T1, X1, e1, st1⟩ := getS2 X0 hx hZ hown (host := "") (Or.inl (hw _ (List.mem_of_getElem? (i := 26) rfl))) Via.refl e0 S_v (g := (mkF m 1 #[.val (.ref a1)] [(.ref a1)])) rfl (hb hby d1_1)
  refine own_st (T' := T1) (g' := (mkF m 4 #[.val (.ref a1)] [(.ref ev), (.ref a1)])) (fun _ k => (st1) _ k) ?_
  by_cases hc4 : a1 = ev
  · have hf := hf.trans (if_pos hc4)
    have ac4 := fun t => Jvm.RoadKit.acmp (target := t) (e := e) (g := (mkF m 4 #[.val (.ref a1)] [(.ref ev), (.ref a1)])) X1 hx rfl rfl rfl (pc0 := 4) (pc' := 18) (same := true) rfl (hb hby d1_4) rfl (decide_eq_true (congrArg Value.ref hc4)) (by decide) (by decide)
    refine own_st (T' := T1) (g' := (mkF m 18 #[.val (.ref a1)] [])) (fun _ k => (ac4) _ k) ?_
    refine own_st (T' := T1) (g' := (mkF m 19 #[.val (.ref a1)] [(.int (0 : Int32))])) (fun _ k => XS.iconst (g := (mkF m 18 #[.val (.ref a1)] [])) X1.here hx rfl (hb hby d1_18) k) ?_
    exact own_end (Q := Q1 Z a1 ev eb h0 n0) (v := some (.int (nar .boolean (0 : Int32)))) X1 (fun h => by rw [Bd.returns] at h; cases h) (fun fs hr => retN X1 hx (t := .boolean) Bd.returns (by simp) (hb hby d1_19) hr) (⟨congrArg (fun z => some (Value.int z)) hf.symm, N0, e1⟩) (by decide) (by decide)
  · have hf := hf.trans (if_neg hc4)
    have ac4 := fun t => Jvm.RoadKit.acmp (target := t) (e := e) (g := (mkF m 4 #[.val (.ref a1)] [(.ref ev), (.ref a1)])) X1 hx rfl rfl rfl (pc0 := 4) (pc' := 7) (same := false) rfl (hb hby d1_4) rfl (decide_eq_false fun q => hc4 (Value.ref.inj q)) (by decide) (by decide)
    refine own_st (T' := T1) (g' := (mkF m 7 #[.val (.ref a1)] [])) (fun _ k => (ac4) _ k) ?_
    refine own_st (T' := T1) (g' := (mkF m 8 #[.val (.ref a1)] [(.ref a1)])) (fun _ k => Jvm.Free.XS.aloadN (g := (mkF m 7 #[.val (.ref a1)] [])) X1.here hx rfl (hb hby d1_7) rfl rfl k) ?_
    obtain ⟨T2, X2, e2, st2⟩ := getS2 X1 hx hZ hown (host := "") (Or.inl (hw _ (List.mem_of_getElem? (i := 27) rfl))) Via.refl e1 S_b (g := (mkF m 8 #[.val (.ref a1)] [(.ref a1)])) rfl (hb hby d1_8)
    refine own_st (T' := T2) (g' := (mkF m 11 #[.val (.ref a1)] [(.ref eb), (.ref a1)])) (fun _ k => (st2) _ k) ?_
    by_cases hc11 : a1 = eb
    · have hf := hf.trans (if_pos hc11)
      have ac11 := fun t => Jvm.RoadKit.acmp (target := t) (e := e) (g := (mkF m 11 #[.val (.ref a1)] [(.ref eb), (.ref a1)])) X2 hx rfl rfl rfl (pc0 := 11) (pc' := 18) (same := true) rfl (hb hby d1_11) rfl (decide_eq_true (congrArg Value.ref hc11)) (by decide) (by decide)
      refine own_st (T' := T2) (g' := (mkF m 18 #[.val (.ref a1)] [])) (fun _ k => (ac11) _ k) ?_
      refine own_st (T' := T2) (g' := (mkF m 19 #[.val (.ref a1)] [(.int (0 : Int32))])) (fun _ k => XS.iconst (g := (mkF m 18 #[.val (.ref a1)] [])) X2.here hx rfl (hb hby d1_18) k) ?_
      exact own_end (Q := Q1 Z a1 ev eb h0 n0) (v := some (.int (nar .boolean (0 : Int32)))) X2 (fun h => by rw [Bd.returns] at h; cases h) (fun fs hr => retN X2 hx (t := .boolean) Bd.returns (by simp) (hb hby d1_19) hr) (⟨congrArg (fun z => some (Value.int z)) hf.symm, N0, e2⟩) (by decide) (by decide)
    · have hf := hf.trans (if_neg hc11)
      have ac11 := fun t => Jvm.RoadKit.acmp (target := t) (e := e) (g := (mkF m 11 #[.val (.ref a1)] [(.ref eb), (.ref a1)])) X2 hx rfl rfl rfl (pc0 := 11) (pc' := 14) (same := false) rfl (hb hby d1_11) rfl (decide_eq_false fun q => hc11 (Value.ref.inj q)) (by decide) (by decide)
      refine own_st (T' := T2) (g' := (mkF m 14 #[.val (.ref a1)] [])) (fun _ k => (ac11) _ k) ?_
      refine own_st (T' := T2) (g' := (mkF m 15 #[.val (.ref a1)] [(.int (1 : Int32))])) (fun _ k => XS.iconst (g := (mkF m 14 #[.val (.ref a1)] [])) X2.here hx rfl (hb hby d1_14) k) ?_
      refine own_st (T' := T2) (g' := (mkF m 19 #[.val (.ref a1)] [(.int (1 : Int32))])) (fun _ k => XS.goto (g := (mkF m 15 #[.val (.ref a1)] [(.int (1 : Int32))])) X2.here hx rfl (pc0 := 15) (pc' := 19) rfl (hb hby d1_15) (by decide) (by decide) k) ?_
      exact own_end (Q := Q1 Z a1 ev eb h0 n0) (v := some (.int (nar .boolean (1 : Int32)))) X2 (fun h => by rw [Bd.returns] at h; cases h) (fun fs hr => retN X2 hx (t := .boolean) Bd.returns (by simp) (hb hby d1_19) hr) (⟨congrArg (fun z => some (Value.int z)) hf.symm, N0, e2⟩) (by decide) (by decide)
theorem own_pn0 : plainName "com/example/santa_fe/santafe/protocol/ErrorCodeEchoesArgumentsPinLaw" = true := by first | (simp [plainName, overriddenIn]; done) | decide +kernel
theorem own_pd0_0 : parseMethodDescriptor "()Z" = some ⟨[], some .boolean⟩ := by decide +kernel
theorem own_ef0 (m : MethodId) (x0 : Int32) : entryFrame m #[(.int x0)] maxLocals = mkF m 0 #[.val (.int x0), .unset, .unset, .unset, .unset] [] := by first | (simp [entryFrame, mkF, argsToLocals, Value.category, maxLocals]; done) | rfl
def Q0 (Z : State) (p1 : Int32) (h0 : Heap) (n0 : Nat) (v : Option Value) (h : Heap) (L : List Loc) : Prop := v = some (.int 1) ∧ Fr n0 L
set_option maxRecDepth 65536 in
set_option maxHeartbeats 40000000 in
theorem rm0 (l : Launch) (Z : State) (a0 : Array Value) (hw : ∀ d ∈ tables_1, d.before a0 Z = true) (ws : List Jvm.Cond) (p1 : Int32) (e_0 e_1 e_2 e_3 e_4 e_5 e_6 e_7 : Addr) (h0 : Heap) (n0 : Nat) (Z0 : n0 ≤ h0.size) (S_0 : Sta Z h0 "com/example/santa_fe/santafe/protocol/ErrorCode" "BAD_ARGUMENT" "Lcom/example/santa_fe/santafe/protocol/ErrorCode;" (.ref e_0)) (S_1 : Sta Z h0 "com/example/santa_fe/santafe/protocol/ErrorCode" "BAD_RESUMPTION_TOKEN" "Lcom/example/santa_fe/santafe/protocol/ErrorCode;" (.ref e_1)) (S_2 : Sta Z h0 "com/example/santa_fe/santafe/protocol/ErrorCode" "BAD_VERB" "Lcom/example/santa_fe/santafe/protocol/ErrorCode;" (.ref e_2)) (S_3 : Sta Z h0 "com/example/santa_fe/santafe/protocol/ErrorCode" "CANNOT_DISSEMINATE_FORMAT" "Lcom/example/santa_fe/santafe/protocol/ErrorCode;" (.ref e_3)) (S_4 : Sta Z h0 "com/example/santa_fe/santafe/protocol/ErrorCode" "ID_DOES_NOT_EXIST" "Lcom/example/santa_fe/santafe/protocol/ErrorCode;" (.ref e_4)) (S_5 : Sta Z h0 "com/example/santa_fe/santafe/protocol/ErrorCode" "NO_RECORDS_MATCH" "Lcom/example/santa_fe/santafe/protocol/ErrorCode;" (.ref e_5)) (S_6 : Sta Z h0 "com/example/santa_fe/santafe/protocol/ErrorCode" "NO_METADATA_FORMATS" "Lcom/example/santa_fe/santafe/protocol/ErrorCode;" (.ref e_6)) (S_7 : Sta Z h0 "com/example/santa_fe/santafe/protocol/ErrorCode" "NO_SET_HIERARCHY" "Lcom/example/santa_fe/santafe/protocol/ErrorCode;" (.ref e_7)) (XE_0 : Exa Z h0 e_0 "com/example/santa_fe/santafe/protocol/ErrorCode") (XE_1 : Exa Z h0 e_1 "com/example/santa_fe/santafe/protocol/ErrorCode") (XE_2 : Exa Z h0 e_2 "com/example/santa_fe/santafe/protocol/ErrorCode") (XE_3 : Exa Z h0 e_3 "com/example/santa_fe/santafe/protocol/ErrorCode") (XE_4 : Exa Z h0 e_4 "com/example/santa_fe/santafe/protocol/ErrorCode") (XE_5 : Exa Z h0 e_5 "com/example/santa_fe/santafe/protocol/ErrorCode") (XE_6 : Exa Z h0 e_6 "com/example/santa_fe/santafe/protocol/ErrorCode") (XE_7 : Exa Z h0 e_7 "com/example/santa_fe/santafe/protocol/ErrorCode") (hv0 : ¬ e_0 = e_2) (hv1 : ¬ e_1 = e_2) (hv3 : ¬ e_3 = e_2) (hv4 : ¬ e_4 = e_2) (hv5 : ¬ e_5 = e_2) (hv6 : ¬ e_6 = e_2) (hv7 : ¬ e_7 = e_2) (hb1 : ¬ e_1 = e_0) (hb2 : ¬ e_2 = e_0) (hb3 : ¬ e_3 = e_0) (hb4 : ¬ e_4 = e_0) (hb5 : ¬ e_5 = e_0) (hb6 : ¬ e_6 = e_0) (hb7 : ¬ e_7 = e_0) :
    MetFree l x (head1 (Jvm.Cond.code x code maxLocals ret :: ws) room_1) (fun a U => a = #[(.int p1)] ∧ Z.Warmed39 U.vm ∧ U.heap = h0) (fun _ _ _ _ _ => True) (fun _ U o U' => ∃ v L, o = .returned v ∧ Q0 Z p1 h0 n0 v U'.heap L ∧ FrameEnd U o U' L room_1.cells room_1.slots) := by
  refine MetFree.of_bodySF (plainFor_of_name own_pn0) hisR ?_
  intro p e s m args below meth c s₁ Bd hml0 hP hK
  obtain ⟨rfl, hZ, hh⟩ := hP
  have hx := Bd.exec
  have hby := Bd.bytes
  have hml : c.maxLocals = 5 := hml0
  have hown : s.vm.findClass "com/example/santa_fe/santafe/protocol/ErrorCodeEchoesArgumentsPinLaw" = some m.cls := findClass_of_methodNamed Bd.named
  have hnm := (name_of_methodNamed Bd.named Bd.method).1
  have hlk := Bd.notSynchronized
  have X0 : Stand p l e room_1 s m #[(.int p1)] below meth c s₁ [] 0 0 := Stand.of_body Bd
  have e0 : s₁.heap = h0 := by rw [← hh, Bd.state]; rfl
  have N0 := Fr.nil n0
  show own_Goes p e below (fun o U' => ∃ v L, o = .returned v ∧ Q0 Z p1 h0 n0 v U'.heap L ∧ FrameEnd s o U' L room_1.cells room_1.slots) s₁ (entryFrame m #[(.int p1)] maxLocals)
  refine own_st (T' := s₁) (g' := mkF m 0 #[.val (.int p1), .unset, .unset, .unset, .unset] []) (fun _ k => castTop (own_ef0 m p1) k) ?_
  refine own_st (T' := s₁) (g' := (mkF m 1 #[.val (.int p1), .unset, .unset, .unset, .unset] [(.int p1)])) (fun _ k => Jvm.Free.XS.iloadN (g := (mkF m 0 #[.val (.int p1), .unset, .unset, .unset, .unset] [])) X0.here hx rfl (hb hby at_0) rfl k) ?_
  refine own_st (T' := s₁) (g' := (mkF m 3 #[.val (.int p1), .unset, .unset, .unset, .unset] [(.int (2147483647 : Int32)), (.int p1)])) (fun _ k => (X0.ldcInt hx hown (mvT hZ (hw _ (List.mem_of_getElem? (i := 0) rfl))) (g := (mkF m 1 #[.val (.int p1), .unset, .unset, .unset, .unset] [(.int p1)])) rfl (hb hby at_1)) _ k) ?_
  refine own_st (T' := s₁) (g' := (mkF m 4 #[.val (.int p1), .unset, .unset, .unset, .unset] [(.int (p1 &&& (2147483647 : Int32)))])) (fun _ k => Jvm.Free.XS.iand (g := (mkF m 3 #[.val (.int p1), .unset, .unset, .unset, .unset] [(.int (2147483647 : Int32)), (.int p1)])) X0.here hx rfl (hb hby at_3) rfl k) ?_
  refine own_st (T' := s₁) (g' := (mkF m 6 #[.val (.int p1), .unset, .unset, .unset, .unset] [(.int (8 : Int32)), (.int (p1 &&& (2147483647 : Int32)))])) (fun _ k => XS.bipush (g := (mkF m 4 #[.val (.int p1), .unset, .unset, .unset, .unset] [(.int (p1 &&& (2147483647 : Int32)))])) X0.here hx rfl (hb hby at_4) k) ?_
  refine own_st (T' := s₁) (g' := (mkF m 7 #[.val (.int p1), .unset, .unset, .unset, .unset] [(.int ((p1 &&& (2147483647 : Int32)) - ((p1 &&& (2147483647 : Int32)) / (8 : Int32)) * (8 : Int32)))])) (fun _ k => XS.irem (g := (mkF m 6 #[.val (.int p1), .unset, .unset, .unset, .unset] [(.int (8 : Int32)), (.int (p1 &&& (2147483647 : Int32)))])) X0.here hx rfl (hb hby at_6) rfl (by decide) k) ?_
  generalize hz7 : ((p1 &&& (2147483647 : Int32)) - ((p1 &&& (2147483647 : Int32)) / (8 : Int32)) * (8 : Int32)) = z7
  refine own_st (T' := s₁) (g' := (mkF m 8 #[.val (.int p1), .val (.int z7), .unset, .unset, .unset] [])) (fun _ k => Jvm.Free.XS.istoreN (g := (mkF m 7 #[.val (.int p1), .unset, .unset, .unset, .unset] [(.int z7)])) X0.here hx rfl (hb hby at_7) rfl (l' := #[.val (.int p1), .val (.int z7), .unset, .unset, .unset]) rfl k) ?_
  have hz : z7 = 0 ∨ z7 = 1 ∨ z7 = 2 ∨ z7 = 3 ∨ z7 = 4 ∨ z7 = 5 ∨ z7 = 6 ∨ z7 = 7 := by rw [← hz7]; exact own_eight _ (own_rem _ _ (own_and _) (by decide)).2.1 (own_rem _ _ (own_and _) (by decide)).2.2
  refine own_st (T' := s₁) (g' := (mkF m 10 #[.val (.int p1), .val (.int z7), .unset, .unset, .unset] [(.int (8 : Int32))])) (fun _ k => XS.bipush (g := (mkF m 8 #[.val (.int p1), .val (.int z7), .unset, .unset, .unset] [])) X0.here hx rfl (hb hby at_8) k) ?_
  obtain ⟨T1, h1, k1, X1, e1, E1, A1, O1, st1⟩ := newR X0 hx hZ hown (hw _ (List.mem_of_getElem? (i := 1) rfl)) (hw _ (List.mem_of_getElem? (i := 2) rfl)) e0 (g := (mkF m 10 #[.val (.int p1), .val (.int z7), .unset, .unset, .unset] [(.int (8 : Int32))])) rfl (hb hby at_10) rfl (by decide) (cap := 8) (by decide) (by decide) (by decide) (by decide)
  obtain ⟨b1, g1⟩ : ∃ z, z = h0.size := ⟨_, rfl⟩
  rw [← g1] at A1 st1
  have gn_b1 : n0 ≤ b1 := Nat.le_trans Z0 (Nat.le_of_eq g1.symm)
  have Zs1 : n0 ≤ h1.size := Nat.le_trans Z0 E1.1
  have Fa2 : Sta Z h1 "com/example/santa_fe/santafe/protocol/ErrorCode" "BAD_ARGUMENT" "Lcom/example/santa_fe/santafe/protocol/ErrorCode;" (.ref e_0) := S_0.ext E1
  have Fa3 : Exa Z h1 e_0 "com/example/santa_fe/santafe/protocol/ErrorCode" := XE_0.ext E1
  have Fa4 : Sta Z h1 "com/example/santa_fe/santafe/protocol/ErrorCode" "BAD_RESUMPTION_TOKEN" "Lcom/example/santa_fe/santafe/protocol/ErrorCode;" (.ref e_1) := S_1.ext E1
  have Fa5 : Exa Z h1 e_1 "com/example/santa_fe/santafe/protocol/ErrorCode" := XE_1.ext E1
  have Fa6 : Sta Z h1 "com/example/santa_fe/santafe/protocol/ErrorCode" "BAD_VERB" "Lcom/example/santa_fe/santafe/protocol/ErrorCode;" (.ref e_2) := S_2.ext E1
  have Fa7 : Exa Z h1 e_2 "com/example/santa_fe/santafe/protocol/ErrorCode" := XE_2.ext E1
  have Fa8 : Sta Z h1 "com/example/santa_fe/santafe/protocol/ErrorCode" "CANNOT_DISSEMINATE_FORMAT" "Lcom/example/santa_fe/santafe/protocol/ErrorCode;" (.ref e_3) := S_3.ext E1
  have Fa9 : Exa Z h1 e_3 "com/example/santa_fe/santafe/protocol/ErrorCode" := XE_3.ext E1
  have Fa10 : Sta Z h1 "com/example/santa_fe/santafe/protocol/ErrorCode" "ID_DOES_NOT_EXIST" "Lcom/example/santa_fe/santafe/protocol/ErrorCode;" (.ref e_4) := S_4.ext E1
  have Fa11 : Exa Z h1 e_4 "com/example/santa_fe/santafe/protocol/ErrorCode" := XE_4.ext E1
  have Fa12 : Sta Z h1 "com/example/santa_fe/santafe/protocol/ErrorCode" "NO_RECORDS_MATCH" "Lcom/example/santa_fe/santafe/protocol/ErrorCode;" (.ref e_5) := S_5.ext E1
  have Fa13 : Exa Z h1 e_5 "com/example/santa_fe/santafe/protocol/ErrorCode" := XE_5.ext E1
  have Fa14 : Sta Z h1 "com/example/santa_fe/santafe/protocol/ErrorCode" "NO_METADATA_FORMATS" "Lcom/example/santa_fe/santafe/protocol/ErrorCode;" (.ref e_6) := S_6.ext E1
  have Fa15 : Exa Z h1 e_6 "com/example/santa_fe/santafe/protocol/ErrorCode" := XE_6.ext E1
  have Fa16 : Sta Z h1 "com/example/santa_fe/santafe/protocol/ErrorCode" "NO_SET_HIERARCHY" "Lcom/example/santa_fe/santafe/protocol/ErrorCode;" (.ref e_7) := S_7.ext E1
  have Fa17 : Exa Z h1 e_7 "com/example/santa_fe/santafe/protocol/ErrorCode" := XE_7.ext E1
  have V1 : Arv Z h1 b1 k1 (.object "com/example/santa_fe/santafe/protocol/ErrorCode") (8 : Int32) [.null, .null, .null, .null, .null, .null, .null, .null] .null := (Arv.new A1 (by decide)).pad (pad_rep [] .null 8)
  refine own_st (T' := T1) (g' := (mkF m 13 #[.val (.int p1), .val (.int z7), .unset, .unset, .unset] [(.ref b1)])) (fun _ k => (st1) _ k) ?_
  refine own_st (T' := T1) (g' := (mkF m 14 #[.val (.int p1), .val (.int z7), .unset, .unset, .unset] [(.ref b1), (.ref b1)])) (fun _ k => XS.dup (g := (mkF m 13 #[.val (.int p1), .val (.int z7), .unset, .unset, .unset] [(.ref b1)])) X1.here hx rfl (hb hby at_13) rfl rfl k) ?_
  refine own_st (T' := T1) (g' := (mkF m 15 #[.val (.int p1), .val (.int z7), .unset, .unset, .unset] [(.int (0 : Int32)), (.ref b1), (.ref b1)])) (fun _ k => XS.iconst (g := (mkF m 14 #[.val (.int p1), .val (.int z7), .unset, .unset, .unset] [(.ref b1), (.ref b1)])) X1.here hx rfl (hb hby at_14) k) ?_
  obtain ⟨T18, X18, e18, st18⟩ := getS2 X1 hx hZ hown (host := "") (Or.inl (hw _ (List.mem_of_getElem? (i := 3) rfl))) Via.refl e1 Fa2 (g := (mkF m 15 #[.val (.int p1), .val (.int z7), .unset, .unset, .unset] [(.int (0 : Int32)), (.ref b1), (.ref b1)])) rfl (hb hby at_15)
  refine own_st (T' := T18) (g' := (mkF m 18 #[.val (.int p1), .val (.int z7), .unset, .unset, .unset] [(.ref e_0), (.int (0 : Int32)), (.ref b1), (.ref b1)])) (fun _ k => (st18) _ k) ?_
  obtain ⟨cl19, Ar19, qk19, Sz19, Nn19, Hs19, Gs19⟩ := V1
  have hin19 : ¬ ((0 : Int32) < 0 ∨ cl19.slots.size ≤ ((0 : Int32)).toNatClampNeg) := inb_of Sz19 ⟨by decide, by decide⟩
  obtain ⟨T19, h19, X19, e19, W19, st19⟩ := stR X18 hx hZ e18 Ar19 (j := (0 : Int32)) hin19 rfl (Sto.ofV Ar19 qk19 O1 (Ins.self Fa3)) (g := (mkF m 18 #[.val (.int p1), .val (.int z7), .unset, .unset, .unset] [(.ref e_0), (.int (0 : Int32)), (.ref b1), (.ref b1)])) rfl rfl (hb hby at_18)
  have V19 : Arv Z h19 b1 k1 (.object "com/example/santa_fe/santafe/protocol/ErrorCode") (8 : Int32) [(.ref e_0), .null, .null, .null, .null, .null, .null, .null] .null := Arv.set Ar19 qk19 Sz19 Nn19 Hs19 Gs19 rfl W19 0 rfl (Nat.le_of_ble_eq_true rfl)
  have Zs19 : n0 ≤ h19.size := Nat.le_trans Zs1 (Keep.of_wr W19).1
  obtain ⟨lc19, X19, N19⟩ := own_loc X19 (Fr.snoc X19 N0 gn_b1)
  have Fa20 : Sta Z h19 "com/example/santa_fe/santafe/protocol/ErrorCode" "BAD_ARGUMENT" "Lcom/example/santa_fe/santafe/protocol/ErrorCode;" (.ref e_0) := Fa2.wr W19
  have Fa21 : Exa Z h19 e_0 "com/example/santa_fe/santafe/protocol/ErrorCode" := Fa3.wr W19
  have Fa22 : Sta Z h19 "com/example/santa_fe/santafe/protocol/ErrorCode" "BAD_RESUMPTION_TOKEN" "Lcom/example/santa_fe/santafe/protocol/ErrorCode;" (.ref e_1) := Fa4.wr W19
  have Fa23 : Exa Z h19 e_1 "com/example/santa_fe/santafe/protocol/ErrorCode" := Fa5.wr W19
  have Fa24 : Sta Z h19 "com/example/santa_fe/santafe/protocol/ErrorCode" "BAD_VERB" "Lcom/example/santa_fe/santafe/protocol/ErrorCode;" (.ref e_2) := Fa6.wr W19
  have Fa25 : Exa Z h19 e_2 "com/example/santa_fe/santafe/protocol/ErrorCode" := Fa7.wr W19
  have Fa26 : Sta Z h19 "com/example/santa_fe/santafe/protocol/ErrorCode" "CANNOT_DISSEMINATE_FORMAT" "Lcom/example/santa_fe/santafe/protocol/ErrorCode;" (.ref e_3) := Fa8.wr W19
  have Fa27 : Exa Z h19 e_3 "com/example/santa_fe/santafe/protocol/ErrorCode" := Fa9.wr W19
  have Fa28 : Sta Z h19 "com/example/santa_fe/santafe/protocol/ErrorCode" "ID_DOES_NOT_EXIST" "Lcom/example/santa_fe/santafe/protocol/ErrorCode;" (.ref e_4) := Fa10.wr W19
  have Fa29 : Exa Z h19 e_4 "com/example/santa_fe/santafe/protocol/ErrorCode" := Fa11.wr W19
  have Fa30 : Sta Z h19 "com/example/santa_fe/santafe/protocol/ErrorCode" "NO_RECORDS_MATCH" "Lcom/example/santa_fe/santafe/protocol/ErrorCode;" (.ref e_5) := Fa12.wr W19
  have Fa31 : Exa Z h19 e_5 "com/example/santa_fe/santafe/protocol/ErrorCode" := Fa13.wr W19
  have Fa32 : Sta Z h19 "com/example/santa_fe/santafe/protocol/ErrorCode" "NO_METADATA_FORMATS" "Lcom/example/santa_fe/santafe/protocol/ErrorCode;" (.ref e_6) := Fa14.wr W19
  have Fa33 : Exa Z h19 e_6 "com/example/santa_fe/santafe/protocol/ErrorCode" := Fa15.wr W19
  have Fa34 : Sta Z h19 "com/example/santa_fe/santafe/protocol/ErrorCode" "NO_SET_HIERARCHY" "Lcom/example/santa_fe/santafe/protocol/ErrorCode;" (.ref e_7) := Fa16.wr W19
  have Fa35 : Exa Z h19 e_7 "com/example/santa_fe/santafe/protocol/ErrorCode" := Fa17.wr W19
  refine own_st (T' := T19) (g' := (mkF m 19 #[.val (.int p1), .val (.int z7), .unset, .unset, .unset] [(.ref b1)])) (fun _ k => (st19) _ k) ?_
  refine own_st (T' := T19) (g' := (mkF m 20 #[.val (.int p1), .val (.int z7), .unset, .unset, .unset] [(.ref b1), (.ref b1)])) (fun _ k => XS.dup (g := (mkF m 19 #[.val (.int p1), .val (.int z7), .unset, .unset, .unset] [(.ref b1)])) X19.here hx rfl (hb hby at_19) rfl rfl k) ?_
  refine own_st (T' := T19) (g' := (mkF m 21 #[.val (.int p1), .val (.int z7), .unset, .unset, .unset] [(.int (1 : Int32)), (.ref b1), (.ref b1)])) (fun _ k => XS.iconst (g := (mkF m 20 #[.val (.int p1), .val (.int z7), .unset, .unset, .unset] [(.ref b1), (.ref b1)])) X19.here hx rfl (hb hby at_20) k) ?_
  obtain ⟨T36, X36, e36, st36⟩ := getS2 X19 hx hZ hown (host := "") (Or.inl (hw _ (List.mem_of_getElem? (i := 7) rfl))) Via.refl e19 Fa22 (g := (mkF m 21 #[.val (.int p1), .val (.int z7), .unset, .unset, .unset] [(.int (1 : Int32)), (.ref b1), (.ref b1)])) rfl (hb hby at_21)
  refine own_st (T' := T36) (g' := (mkF m 24 #[.val (.int p1), .val (.int z7), .unset, .unset, .unset] [(.ref e_1), (.int (1 : Int32)), (.ref b1), (.ref b1)])) (fun _ k => (st36) _ k) ?_
  obtain ⟨cl37, Ar37, qk37, Sz37, Nn37, Hs37, Gs37⟩ := V19
  have hin37 : ¬ ((1 : Int32) < 0 ∨ cl37.slots.size ≤ ((1 : Int32)).toNatClampNeg) := inb_of Sz37 ⟨by decide, by decide⟩
  obtain ⟨T37, h37, X37, e37, W37, st37⟩ := stR X36 hx hZ e36 Ar37 (j := (1 : Int32)) hin37 rfl (Sto.ofV Ar37 qk37 O1 (Ins.self Fa23)) (g := (mkF m 24 #[.val (.int p1), .val (.int z7), .unset, .unset, .unset] [(.ref e_1), (.int (1 : Int32)), (.ref b1), (.ref b1)])) rfl rfl (hb hby at_24)
  have V37 : Arv Z h37 b1 k1 (.object "com/example/santa_fe/santafe/protocol/ErrorCode") (8 : Int32) [(.ref e_0), (.ref e_1), .null, .null, .null, .null, .null, .null] .null := Arv.set Ar37 qk37 Sz37 Nn37 Hs37 Gs37 rfl W37 1 rfl (Nat.le_of_ble_eq_true rfl)
  have Zs37 : n0 ≤ h37.size := Nat.le_trans Zs19 (Keep.of_wr W37).1
  obtain ⟨lc37, X37, N37⟩ := own_loc X37 (Fr.snoc X37 N19 gn_b1)
  have Fa38 : Sta Z h37 "com/example/santa_fe/santafe/protocol/ErrorCode" "BAD_ARGUMENT" "Lcom/example/santa_fe/santafe/protocol/ErrorCode;" (.ref e_0) := Fa20.wr W37
  have Fa39 : Exa Z h37 e_0 "com/example/santa_fe/santafe/protocol/ErrorCode" := Fa21.wr W37
  have Fa40 : Sta Z h37 "com/example/santa_fe/santafe/protocol/ErrorCode" "BAD_RESUMPTION_TOKEN" "Lcom/example/santa_fe/santafe/protocol/ErrorCode;" (.ref e_1) := Fa22.wr W37
  have Fa41 : Exa Z h37 e_1 "com/example/santa_fe/santafe/protocol/ErrorCode" := Fa23.wr W37
  have Fa42 : Sta Z h37 "com/example/santa_fe/santafe/protocol/ErrorCode" "BAD_VERB" "Lcom/example/santa_fe/santafe/protocol/ErrorCode;" (.ref e_2) := Fa24.wr W37
  have Fa43 : Exa Z h37 e_2 "com/example/santa_fe/santafe/protocol/ErrorCode" := Fa25.wr W37
  have Fa44 : Sta Z h37 "com/example/santa_fe/santafe/protocol/ErrorCode" "CANNOT_DISSEMINATE_FORMAT" "Lcom/example/santa_fe/santafe/protocol/ErrorCode;" (.ref e_3) := Fa26.wr W37
  have Fa45 : Exa Z h37 e_3 "com/example/santa_fe/santafe/protocol/ErrorCode" := Fa27.wr W37
  have Fa46 : Sta Z h37 "com/example/santa_fe/santafe/protocol/ErrorCode" "ID_DOES_NOT_EXIST" "Lcom/example/santa_fe/santafe/protocol/ErrorCode;" (.ref e_4) := Fa28.wr W37
  have Fa47 : Exa Z h37 e_4 "com/example/santa_fe/santafe/protocol/ErrorCode" := Fa29.wr W37
  have Fa48 : Sta Z h37 "com/example/santa_fe/santafe/protocol/ErrorCode" "NO_RECORDS_MATCH" "Lcom/example/santa_fe/santafe/protocol/ErrorCode;" (.ref e_5) := Fa30.wr W37
  have Fa49 : Exa Z h37 e_5 "com/example/santa_fe/santafe/protocol/ErrorCode" := Fa31.wr W37
  have Fa50 : Sta Z h37 "com/example/santa_fe/santafe/protocol/ErrorCode" "NO_METADATA_FORMATS" "Lcom/example/santa_fe/santafe/protocol/ErrorCode;" (.ref e_6) := Fa32.wr W37
  have Fa51 : Exa Z h37 e_6 "com/example/santa_fe/santafe/protocol/ErrorCode" := Fa33.wr W37
  have Fa52 : Sta Z h37 "com/example/santa_fe/santafe/protocol/ErrorCode" "NO_SET_HIERARCHY" "Lcom/example/santa_fe/santafe/protocol/ErrorCode;" (.ref e_7) := Fa34.wr W37
  have Fa53 : Exa Z h37 e_7 "com/example/santa_fe/santafe/protocol/ErrorCode" := Fa35.wr W37
  refine own_st (T' := T37) (g' := (mkF m 25 #[.val (.int p1), .val (.int z7), .unset, .unset, .unset] [(.ref b1)])) (fun _ k => (st37) _ k) ?_
  refine own_st (T' := T37) (g' := (mkF m 26 #[.val (.int p1), .val (.int z7), .unset, .unset, .unset] [(.ref b1), (.ref b1)])) (fun _ k => XS.dup (g := (mkF m 25 #[.val (.int p1), .val (.int z7), .unset, .unset, .unset] [(.ref b1)])) X37.here hx rfl (hb hby at_25) rfl rfl k) ?_
  refine own_st (T' := T37) (g' := (mkF m 27 #[.val (.int p1), .val (.int z7), .unset, .unset, .unset] [(.int (2 : Int32)), (.ref b1), (.ref b1)])) (fun _ k => XS.iconst (g := (mkF m 26 #[.val (.int p1), .val (.int z7), .unset, .unset, .unset] [(.ref b1), (.ref b1)])) X37.here hx rfl (hb hby at_26) k) ?_
  obtain ⟨T54, X54, e54, st54⟩ := getS2 X37 hx hZ hown (host := "") (Or.inl (hw _ (List.mem_of_getElem? (i := 9) rfl))) Via.refl e37 Fa42 (g := (mkF m 27 #[.val (.int p1), .val (.int z7), .unset, .unset, .unset] [(.int (2 : Int32)), (.ref b1), (.ref b1)])) rfl (hb hby at_27)
  refine own_st (T' := T54) (g' := (mkF m 30 #[.val (.int p1), .val (.int z7), .unset, .unset, .unset] [(.ref e_2), (.int (2 : Int32)), (.ref b1), (.ref b1)])) (fun _ k => (st54) _ k) ?_
  obtain ⟨cl55, Ar55, qk55, Sz55, Nn55, Hs55, Gs55⟩ := V37
  have hin55 : ¬ ((2 : Int32) < 0 ∨ cl55.slots.size ≤ ((2 : Int32)).toNatClampNeg) := inb_of Sz55 ⟨by decide, by decide⟩
  obtain ⟨T55, h55, X55, e55, W55, st55⟩ := stR X54 hx hZ e54 Ar55 (j := (2 : Int32)) hin55 rfl (Sto.ofV Ar55 qk55 O1 (Ins.self Fa43)) (g := (mkF m 30 #[.val (.int p1), .val (.int z7), .unset, .unset, .unset] [(.ref e_2), (.int (2 : Int32)), (.ref b1), (.ref b1)])) rfl rfl (hb hby at_30)
  have V55 : Arv Z h55 b1 k1 (.object "com/example/santa_fe/santafe/protocol/ErrorCode") (8 : Int32) [(.ref e_0), (.ref e_1), (.ref e_2), .null, .null, .null, .null, .null] .null := Arv.set Ar55 qk55 Sz55 Nn55 Hs55 Gs55 rfl W55 2 rfl (Nat.le_of_ble_eq_true rfl)
  have Zs55 : n0 ≤ h55.size := Nat.le_trans Zs37 (Keep.of_wr W55).1
  obtain ⟨lc55, X55, N55⟩ := own_loc X55 (Fr.snoc X55 N37 gn_b1)
  have Fa56 : Sta Z h55 "com/example/santa_fe/santafe/protocol/ErrorCode" "BAD_ARGUMENT" "Lcom/example/santa_fe/santafe/protocol/ErrorCode;" (.ref e_0) := Fa38.wr W55
  have Fa57 : Exa Z h55 e_0 "com/example/santa_fe/santafe/protocol/ErrorCode" := Fa39.wr W55
  have Fa58 : Sta Z h55 "com/example/santa_fe/santafe/protocol/ErrorCode" "BAD_RESUMPTION_TOKEN" "Lcom/example/santa_fe/santafe/protocol/ErrorCode;" (.ref e_1) := Fa40.wr W55
  have Fa59 : Exa Z h55 e_1 "com/example/santa_fe/santafe/protocol/ErrorCode" := Fa41.wr W55
  have Fa60 : Sta Z h55 "com/example/santa_fe/santafe/protocol/ErrorCode" "BAD_VERB" "Lcom/example/santa_fe/santafe/protocol/ErrorCode;" (.ref e_2) := Fa42.wr W55
  have Fa61 : Exa Z h55 e_2 "com/example/santa_fe/santafe/protocol/ErrorCode" := Fa43.wr W55
  have Fa62 : Sta Z h55 "com/example/santa_fe/santafe/protocol/ErrorCode" "CANNOT_DISSEMINATE_FORMAT" "Lcom/example/santa_fe/santafe/protocol/ErrorCode;" (.ref e_3) := Fa44.wr W55
  have Fa63 : Exa Z h55 e_3 "com/example/santa_fe/santafe/protocol/ErrorCode" := Fa45.wr W55
  have Fa64 : Sta Z h55 "com/example/santa_fe/santafe/protocol/ErrorCode" "ID_DOES_NOT_EXIST" "Lcom/example/santa_fe/santafe/protocol/ErrorCode;" (.ref e_4) := Fa46.wr W55
  have Fa65 : Exa Z h55 e_4 "com/example/santa_fe/santafe/protocol/ErrorCode" := Fa47.wr W55
  have Fa66 : Sta Z h55 "com/example/santa_fe/santafe/protocol/ErrorCode" "NO_RECORDS_MATCH" "Lcom/example/santa_fe/santafe/protocol/ErrorCode;" (.ref e_5) := Fa48.wr W55
  have Fa67 : Exa Z h55 e_5 "com/example/santa_fe/santafe/protocol/ErrorCode" := Fa49.wr W55
  have Fa68 : Sta Z h55 "com/example/santa_fe/santafe/protocol/ErrorCode" "NO_METADATA_FORMATS" "Lcom/example/santa_fe/santafe/protocol/ErrorCode;" (.ref e_6) := Fa50.wr W55
  have Fa69 : Exa Z h55 e_6 "com/example/santa_fe/santafe/protocol/ErrorCode" := Fa51.wr W55
  have Fa70 : Sta Z h55 "com/example/santa_fe/santafe/protocol/ErrorCode" "NO_SET_HIERARCHY" "Lcom/example/santa_fe/santafe/protocol/ErrorCode;" (.ref e_7) := Fa52.wr W55
  have Fa71 : Exa Z h55 e_7 "com/example/santa_fe/santafe/protocol/ErrorCode" := Fa53.wr W55
  refine own_st (T' := T55) (g' := (mkF m 31 #[.val (.int p1), .val (.int z7), .unset, .unset, .unset] [(.ref b1)])) (fun _ k => (st55) _ k) ?_
  refine own_st (T' := T55) (g' := (mkF m 32 #[.val (.int p1), .val (.int z7), .unset, .unset, .unset] [(.ref b1), (.ref b1)])) (fun _ k => XS.dup (g := (mkF m 31 #[.val (.int p1), .val (.int z7), .unset, .unset, .unset] [(.ref b1)])) X55.here hx rfl (hb hby at_31) rfl rfl k) ?_
  refine own_st (T' := T55) (g' := (mkF m 33 #[.val (.int p1), .val (.int z7), .unset, .unset, .unset] [(.int (3 : Int32)), (.ref b1), (.ref b1)])) (fun _ k => XS.iconst (g := (mkF m 32 #[.val (.int p1), .val (.int z7), .unset, .unset, .unset] [(.ref b1), (.ref b1)])) X55.here hx rfl (hb hby at_32) k) ?_
  obtain ⟨T72, X72, e72, st72⟩ := getS2 X55 hx hZ hown (host := "") (Or.inl (hw _ (List.mem_of_getElem? (i := 11) rfl))) Via.refl e55 Fa62 (g := (mkF m 33 #[.val (.int p1), .val (.int z7), .unset, .unset, .unset] [(.int (3 : Int32)), (.ref b1), (.ref b1)])) rfl (hb hby at_33)
  refine own_st (T' := T72) (g' := (mkF m 36 #[.val (.int p1), .val (.int z7), .unset, .unset, .unset] [(.ref e_3), (.int (3 : Int32)), (.ref b1), (.ref b1)])) (fun _ k => (st72) _ k) ?_
  obtain ⟨cl73, Ar73, qk73, Sz73, Nn73, Hs73, Gs73⟩ := V55
  have hin73 : ¬ ((3 : Int32) < 0 ∨ cl73.slots.size ≤ ((3 : Int32)).toNatClampNeg) := inb_of Sz73 ⟨by decide, by decide⟩
  obtain ⟨T73, h73, X73, e73, W73, st73⟩ := stR X72 hx hZ e72 Ar73 (j := (3 : Int32)) hin73 rfl (Sto.ofV Ar73 qk73 O1 (Ins.self Fa63)) (g := (mkF m 36 #[.val (.int p1), .val (.int z7), .unset, .unset, .unset] [(.ref e_3), (.int (3 : Int32)), (.ref b1), (.ref b1)])) rfl rfl (hb hby at_36)
  have V73 : Arv Z h73 b1 k1 (.object "com/example/santa_fe/santafe/protocol/ErrorCode") (8 : Int32) [(.ref e_0), (.ref e_1), (.ref e_2), (.ref e_3), .null, .null, .null, .null] .null := Arv.set Ar73 qk73 Sz73 Nn73 Hs73 Gs73 rfl W73 3 rfl (Nat.le_of_ble_eq_true rfl)
  have Zs73 : n0 ≤ h73.size := Nat.le_trans Zs55 (Keep.of_wr W73).1
  obtain ⟨lc73, X73, N73⟩ := own_loc X73 (Fr.snoc X73 N55 gn_b1)
  have Fa74 : Sta Z h73 "com/example/santa_fe/santafe/protocol/ErrorCode" "BAD_ARGUMENT" "Lcom/example/santa_fe/santafe/protocol/ErrorCode;" (.ref e_0) := Fa56.wr W73
  have Fa75 : Exa Z h73 e_0 "com/example/santa_fe/santafe/protocol/ErrorCode" := Fa57.wr W73
  have Fa76 : Sta Z h73 "com/example/santa_fe/santafe/protocol/ErrorCode" "BAD_RESUMPTION_TOKEN" "Lcom/example/santa_fe/santafe/protocol/ErrorCode;" (.ref e_1) := Fa58.wr W73
  have Fa77 : Exa Z h73 e_1 "com/example/santa_fe/santafe/protocol/ErrorCode" := Fa59.wr W73
  have Fa78 : Sta Z h73 "com/example/santa_fe/santafe/protocol/ErrorCode" "BAD_VERB" "Lcom/example/santa_fe/santafe/protocol/ErrorCode;" (.ref e_2) := Fa60.wr W73
  have Fa79 : Exa Z h73 e_2 "com/example/santa_fe/santafe/protocol/ErrorCode" := Fa61.wr W73
  have Fa80 : Sta Z h73 "com/example/santa_fe/santafe/protocol/ErrorCode" "CANNOT_DISSEMINATE_FORMAT" "Lcom/example/santa_fe/santafe/protocol/ErrorCode;" (.ref e_3) := Fa62.wr W73
  have Fa81 : Exa Z h73 e_3 "com/example/santa_fe/santafe/protocol/ErrorCode" := Fa63.wr W73
  have Fa82 : Sta Z h73 "com/example/santa_fe/santafe/protocol/ErrorCode" "ID_DOES_NOT_EXIST" "Lcom/example/santa_fe/santafe/protocol/ErrorCode;" (.ref e_4) := Fa64.wr W73
  have Fa83 : Exa Z h73 e_4 "com/example/santa_fe/santafe/protocol/ErrorCode" := Fa65.wr W73
  have Fa84 : Sta Z h73 "com/example/santa_fe/santafe/protocol/ErrorCode" "NO_RECORDS_MATCH" "Lcom/example/santa_fe/santafe/protocol/ErrorCode;" (.ref e_5) := Fa66.wr W73
  have Fa85 : Exa Z h73 e_5 "com/example/santa_fe/santafe/protocol/ErrorCode" := Fa67.wr W73
  have Fa86 : Sta Z h73 "com/example/santa_fe/santafe/protocol/ErrorCode" "NO_METADATA_FORMATS" "Lcom/example/santa_fe/santafe/protocol/ErrorCode;" (.ref e_6) := Fa68.wr W73
  have Fa87 : Exa Z h73 e_6 "com/example/santa_fe/santafe/protocol/ErrorCode" := Fa69.wr W73
  have Fa88 : Sta Z h73 "com/example/santa_fe/santafe/protocol/ErrorCode" "NO_SET_HIERARCHY" "Lcom/example/santa_fe/santafe/protocol/ErrorCode;" (.ref e_7) := Fa70.wr W73
  have Fa89 : Exa Z h73 e_7 "com/example/santa_fe/santafe/protocol/ErrorCode" := Fa71.wr W73
  refine own_st (T' := T73) (g' := (mkF m 37 #[.val (.int p1), .val (.int z7), .unset, .unset, .unset] [(.ref b1)])) (fun _ k => (st73) _ k) ?_
  refine own_st (T' := T73) (g' := (mkF m 38 #[.val (.int p1), .val (.int z7), .unset, .unset, .unset] [(.ref b1), (.ref b1)])) (fun _ k => XS.dup (g := (mkF m 37 #[.val (.int p1), .val (.int z7), .unset, .unset, .unset] [(.ref b1)])) X73.here hx rfl (hb hby at_37) rfl rfl k) ?_
  refine own_st (T' := T73) (g' := (mkF m 39 #[.val (.int p1), .val (.int z7), .unset, .unset, .unset] [(.int (4 : Int32)), (.ref b1), (.ref b1)])) (fun _ k => XS.iconst (g := (mkF m 38 #[.val (.int p1), .val (.int z7), .unset, .unset, .unset] [(.ref b1), (.ref b1)])) X73.here hx rfl (hb hby at_38) k) ?_
  obtain ⟨T90, X90, e90, st90⟩ := getS2 X73 hx hZ hown (host := "") (Or.inl (hw _ (List.mem_of_getElem? (i := 13) rfl))) Via.refl e73 Fa82 (g := (mkF m 39 #[.val (.int p1), .val (.int z7), .unset, .unset, .unset] [(.int (4 : Int32)), (.ref b1), (.ref b1)])) rfl (hb hby at_39)
  refine own_st (T' := T90) (g' := (mkF m 42 #[.val (.int p1), .val (.int z7), .unset, .unset, .unset] [(.ref e_4), (.int (4 : Int32)), (.ref b1), (.ref b1)])) (fun _ k => (st90) _ k) ?_
  obtain ⟨cl91, Ar91, qk91, Sz91, Nn91, Hs91, Gs91⟩ := V73
  have hin91 : ¬ ((4 : Int32) < 0 ∨ cl91.slots.size ≤ ((4 : Int32)).toNatClampNeg) := inb_of Sz91 ⟨by decide, by decide⟩
  obtain ⟨T91, h91, X91, e91, W91, st91⟩ := stR X90 hx hZ e90 Ar91 (j := (4 : Int32)) hin91 rfl (Sto.ofV Ar91 qk91 O1 (Ins.self Fa83)) (g := (mkF m 42 #[.val (.int p1), .val (.int z7), .unset, .unset, .unset] [(.ref e_4), (.int (4 : Int32)), (.ref b1), (.ref b1)])) rfl rfl (hb hby at_42)
  have V91 : Arv Z h91 b1 k1 (.object "com/example/santa_fe/santafe/protocol/ErrorCode") (8 : Int32) [(.ref e_0), (.ref e_1), (.ref e_2), (.ref e_3), (.ref e_4), .null, .null, .null] .null := Arv.set Ar91 qk91 Sz91 Nn91 Hs91 Gs91 rfl W91 4 rfl (Nat.le_of_ble_eq_true rfl)
  have Zs91 : n0 ≤ h91.size := Nat.le_trans Zs73 (Keep.of_wr W91).1
  obtain ⟨lc91, X91, N91⟩ := own_loc X91 (Fr.snoc X91 N73 gn_b1)
  have Fa92 : Sta Z h91 "com/example/santa_fe/santafe/protocol/ErrorCode" "BAD_ARGUMENT" "Lcom/example/santa_fe/santafe/protocol/ErrorCode;" (.ref e_0) := Fa74.wr W91
  have Fa93 : Exa Z h91 e_0 "com/example/santa_fe/santafe/protocol/ErrorCode" := Fa75.wr W91
  have Fa94 : Sta Z h91 "com/example/santa_fe/santafe/protocol/ErrorCode" "BAD_RESUMPTION_TOKEN" "Lcom/example/santa_fe/santafe/protocol/ErrorCode;" (.ref e_1) := Fa76.wr W91
  have Fa95 : Exa Z h91 e_1 "com/example/santa_fe/santafe/protocol/ErrorCode" := Fa77.wr W91
  have Fa96 : Sta Z h91 "com/example/santa_fe/santafe/protocol/ErrorCode" "BAD_VERB" "Lcom/example/santa_fe/santafe/protocol/ErrorCode;" (.ref e_2) := Fa78.wr W91
  have Fa97 : Exa Z h91 e_2 "com/example/santa_fe/santafe/protocol/ErrorCode" := Fa79.wr W91
  have Fa98 : Sta Z h91 "com/example/santa_fe/santafe/protocol/ErrorCode" "CANNOT_DISSEMINATE_FORMAT" "Lcom/example/santa_fe/santafe/protocol/ErrorCode;" (.ref e_3) := Fa80.wr W91
  have Fa99 : Exa Z h91 e_3 "com/example/santa_fe/santafe/protocol/ErrorCode" := Fa81.wr W91
  have Fa100 : Sta Z h91 "com/example/santa_fe/santafe/protocol/ErrorCode" "ID_DOES_NOT_EXIST" "Lcom/example/santa_fe/santafe/protocol/ErrorCode;" (.ref e_4) := Fa82.wr W91
  have Fa101 : Exa Z h91 e_4 "com/example/santa_fe/santafe/protocol/ErrorCode" := Fa83.wr W91
  have Fa102 : Sta Z h91 "com/example/santa_fe/santafe/protocol/ErrorCode" "NO_RECORDS_MATCH" "Lcom/example/santa_fe/santafe/protocol/ErrorCode;" (.ref e_5) := Fa84.wr W91
  have Fa103 : Exa Z h91 e_5 "com/example/santa_fe/santafe/protocol/ErrorCode" := Fa85.wr W91
  have Fa104 : Sta Z h91 "com/example/santa_fe/santafe/protocol/ErrorCode" "NO_METADATA_FORMATS" "Lcom/example/santa_fe/santafe/protocol/ErrorCode;" (.ref e_6) := Fa86.wr W91
  have Fa105 : Exa Z h91 e_6 "com/example/santa_fe/santafe/protocol/ErrorCode" := Fa87.wr W91
  have Fa106 : Sta Z h91 "com/example/santa_fe/santafe/protocol/ErrorCode" "NO_SET_HIERARCHY" "Lcom/example/santa_fe/santafe/protocol/ErrorCode;" (.ref e_7) := Fa88.wr W91
  have Fa107 : Exa Z h91 e_7 "com/example/santa_fe/santafe/protocol/ErrorCode" := Fa89.wr W91
  refine own_st (T' := T91) (g' := (mkF m 43 #[.val (.int p1), .val (.int z7), .unset, .unset, .unset] [(.ref b1)])) (fun _ k => (st91) _ k) ?_
  refine own_st (T' := T91) (g' := (mkF m 44 #[.val (.int p1), .val (.int z7), .unset, .unset, .unset] [(.ref b1), (.ref b1)])) (fun _ k => XS.dup (g := (mkF m 43 #[.val (.int p1), .val (.int z7), .unset, .unset, .unset] [(.ref b1)])) X91.here hx rfl (hb hby at_43) rfl rfl k) ?_
  refine own_st (T' := T91) (g' := (mkF m 45 #[.val (.int p1), .val (.int z7), .unset, .unset, .unset] [(.int (5 : Int32)), (.ref b1), (.ref b1)])) (fun _ k => XS.iconst (g := (mkF m 44 #[.val (.int p1), .val (.int z7), .unset, .unset, .unset] [(.ref b1), (.ref b1)])) X91.here hx rfl (hb hby at_44) k) ?_
  obtain ⟨T108, X108, e108, st108⟩ := getS2 X91 hx hZ hown (host := "") (Or.inl (hw _ (List.mem_of_getElem? (i := 15) rfl))) Via.refl e91 Fa102 (g := (mkF m 45 #[.val (.int p1), .val (.int z7), .unset, .unset, .unset] [(.int (5 : Int32)), (.ref b1), (.ref b1)])) rfl (hb hby at_45)
  refine own_st (T' := T108) (g' := (mkF m 48 #[.val (.int p1), .val (.int z7), .unset, .unset, .unset] [(.ref e_5), (.int (5 : Int32)), (.ref b1), (.ref b1)])) (fun _ k => (st108) _ k) ?_
  obtain ⟨cl109, Ar109, qk109, Sz109, Nn109, Hs109, Gs109⟩ := V91
  have hin109 : ¬ ((5 : Int32) < 0 ∨ cl109.slots.size ≤ ((5 : Int32)).toNatClampNeg) := inb_of Sz109 ⟨by decide, by decide⟩
  obtain ⟨T109, h109, X109, e109, W109, st109⟩ := stR X108 hx hZ e108 Ar109 (j := (5 : Int32)) hin109 rfl (Sto.ofV Ar109 qk109 O1 (Ins.self Fa103)) (g := (mkF m 48 #[.val (.int p1), .val (.int z7), .unset, .unset, .unset] [(.ref e_5), (.int (5 : Int32)), (.ref b1), (.ref b1)])) rfl rfl (hb hby at_48)
  have V109 : Arv Z h109 b1 k1 (.object "com/example/santa_fe/santafe/protocol/ErrorCode") (8 : Int32) [(.ref e_0), (.ref e_1), (.ref e_2), (.ref e_3), (.ref e_4), (.ref e_5), .null, .null] .null := Arv.set Ar109 qk109 Sz109 Nn109 Hs109 Gs109 rfl W109 5 rfl (Nat.le_of_ble_eq_true rfl)
  have Zs109 : n0 ≤ h109.size := Nat.le_trans Zs91 (Keep.of_wr W109).1
  obtain ⟨lc109, X109, N109⟩ := own_loc X109 (Fr.snoc X109 N91 gn_b1)
  have Fa110 : Sta Z h109 "com/example/santa_fe/santafe/protocol/ErrorCode" "BAD_ARGUMENT" "Lcom/example/santa_fe/santafe/protocol/ErrorCode;" (.ref e_0) := Fa92.wr W109
  have Fa111 : Exa Z h109 e_0 "com/example/santa_fe/santafe/protocol/ErrorCode" := Fa93.wr W109
  have Fa112 : Sta Z h109 "com/example/santa_fe/santafe/protocol/ErrorCode" "BAD_RESUMPTION_TOKEN" "Lcom/example/santa_fe/santafe/protocol/ErrorCode;" (.ref e_1) := Fa94.wr W109
  have Fa113 : Exa Z h109 e_1 "com/example/santa_fe/santafe/protocol/ErrorCode" := Fa95.wr W109
  have Fa114 : Sta Z h109 "com/example/santa_fe/santafe/protocol/ErrorCode" "BAD_VERB" "Lcom/example/santa_fe/santafe/protocol/ErrorCode;" (.ref e_2) := Fa96.wr W109
  have Fa115 : Exa Z h109 e_2 "com/example/santa_fe/santafe/protocol/ErrorCode" := Fa97.wr W109
  have Fa116 : Sta Z h109 "com/example/santa_fe/santafe/protocol/ErrorCode" "CANNOT_DISSEMINATE_FORMAT" "Lcom/example/santa_fe/santafe/protocol/ErrorCode;" (.ref e_3) := Fa98.wr W109
  have Fa117 : Exa Z h109 e_3 "com/example/santa_fe/santafe/protocol/ErrorCode" := Fa99.wr W109
  have Fa118 : Sta Z h109 "com/example/santa_fe/santafe/protocol/ErrorCode" "ID_DOES_NOT_EXIST" "Lcom/example/santa_fe/santafe/protocol/ErrorCode;" (.ref e_4) := Fa100.wr W109
  have Fa119 : Exa Z h109 e_4 "com/example/santa_fe/santafe/protocol/ErrorCode" := Fa101.wr W109
  have Fa120 : Sta Z h109 "com/example/santa_fe/santafe/protocol/ErrorCode" "NO_RECORDS_MATCH" "Lcom/example/santa_fe/santafe/protocol/ErrorCode;" (.ref e_5) := Fa102.wr W109
  have Fa121 : Exa Z h109 e_5 "com/example/santa_fe/santafe/protocol/ErrorCode" := Fa103.wr W109
  have Fa122 : Sta Z h109 "com/example/santa_fe/santafe/protocol/ErrorCode" "NO_METADATA_FORMATS" "Lcom/example/santa_fe/santafe/protocol/ErrorCode;" (.ref e_6) := Fa104.wr W109
  have Fa123 : Exa Z h109 e_6 "com/example/santa_fe/santafe/protocol/ErrorCode" := Fa105.wr W109
  have Fa124 : Sta Z h109 "com/example/santa_fe/santafe/protocol/ErrorCode" "NO_SET_HIERARCHY" "Lcom/example/santa_fe/santafe/protocol/ErrorCode;" (.ref e_7) := Fa106.wr W109
  have Fa125 : Exa Z h109 e_7 "com/example/santa_fe/santafe/protocol/ErrorCode" := Fa107.wr W109
  refine own_st (T' := T109) (g' := (mkF m 49 #[.val (.int p1), .val (.int z7), .unset, .unset, .unset] [(.ref b1)])) (fun _ k => (st109) _ k) ?_
  refine own_st (T' := T109) (g' := (mkF m 50 #[.val (.int p1), .val (.int z7), .unset, .unset, .unset] [(.ref b1), (.ref b1)])) (fun _ k => XS.dup (g := (mkF m 49 #[.val (.int p1), .val (.int z7), .unset, .unset, .unset] [(.ref b1)])) X109.here hx rfl (hb hby at_49) rfl rfl k) ?_
  refine own_st (T' := T109) (g' := (mkF m 52 #[.val (.int p1), .val (.int z7), .unset, .unset, .unset] [(.int (6 : Int32)), (.ref b1), (.ref b1)])) (fun _ k => XS.bipush (g := (mkF m 50 #[.val (.int p1), .val (.int z7), .unset, .unset, .unset] [(.ref b1), (.ref b1)])) X109.here hx rfl (hb hby at_50) k) ?_
  obtain ⟨T126, X126, e126, st126⟩ := getS2 X109 hx hZ hown (host := "") (Or.inl (hw _ (List.mem_of_getElem? (i := 17) rfl))) Via.refl e109 Fa122 (g := (mkF m 52 #[.val (.int p1), .val (.int z7), .unset, .unset, .unset] [(.int (6 : Int32)), (.ref b1), (.ref b1)])) rfl (hb hby at_52)
  refine own_st (T' := T126) (g' := (mkF m 55 #[.val (.int p1), .val (.int z7), .unset, .unset, .unset] [(.ref e_6), (.int (6 : Int32)), (.ref b1), (.ref b1)])) (fun _ k => (st126) _ k) ?_
  obtain ⟨cl127, Ar127, qk127, Sz127, Nn127, Hs127, Gs127⟩ := V109
  have hin127 : ¬ ((6 : Int32) < 0 ∨ cl127.slots.size ≤ ((6 : Int32)).toNatClampNeg) := inb_of Sz127 ⟨by decide, by decide⟩
  obtain ⟨T127, h127, X127, e127, W127, st127⟩ := stR X126 hx hZ e126 Ar127 (j := (6 : Int32)) hin127 rfl (Sto.ofV Ar127 qk127 O1 (Ins.self Fa123)) (g := (mkF m 55 #[.val (.int p1), .val (.int z7), .unset, .unset, .unset] [(.ref e_6), (.int (6 : Int32)), (.ref b1), (.ref b1)])) rfl rfl (hb hby at_55)
  have V127 : Arv Z h127 b1 k1 (.object "com/example/santa_fe/santafe/protocol/ErrorCode") (8 : Int32) [(.ref e_0), (.ref e_1), (.ref e_2), (.ref e_3), (.ref e_4), (.ref e_5), (.ref e_6), .null] .null := Arv.set Ar127 qk127 Sz127 Nn127 Hs127 Gs127 rfl W127 6 rfl (Nat.le_of_ble_eq_true rfl)
  have Zs127 : n0 ≤ h127.size := Nat.le_trans Zs109 (Keep.of_wr W127).1
  obtain ⟨lc127, X127, N127⟩ := own_loc X127 (Fr.snoc X127 N109 gn_b1)
  have Fa128 : Sta Z h127 "com/example/santa_fe/santafe/protocol/ErrorCode" "BAD_ARGUMENT" "Lcom/example/santa_fe/santafe/protocol/ErrorCode;" (.ref e_0) := Fa110.wr W127
  have Fa129 : Exa Z h127 e_0 "com/example/santa_fe/santafe/protocol/ErrorCode" := Fa111.wr W127
  have Fa130 : Sta Z h127 "com/example/santa_fe/santafe/protocol/ErrorCode" "BAD_RESUMPTION_TOKEN" "Lcom/example/santa_fe/santafe/protocol/ErrorCode;" (.ref e_1) := Fa112.wr W127
  have Fa131 : Exa Z h127 e_1 "com/example/santa_fe/santafe/protocol/ErrorCode" := Fa113.wr W127
  have Fa132 : Sta Z h127 "com/example/santa_fe/santafe/protocol/ErrorCode" "BAD_VERB" "Lcom/example/santa_fe/santafe/protocol/ErrorCode;" (.ref e_2) := Fa114.wr W127
  have Fa133 : Exa Z h127 e_2 "com/example/santa_fe/santafe/protocol/ErrorCode" := Fa115.wr W127
  have Fa134 : Sta Z h127 "com/example/santa_fe/santafe/protocol/ErrorCode" "CANNOT_DISSEMINATE_FORMAT" "Lcom/example/santa_fe/santafe/protocol/ErrorCode;" (.ref e_3) := Fa116.wr W127
  have Fa135 : Exa Z h127 e_3 "com/example/santa_fe/santafe/protocol/ErrorCode" := Fa117.wr W127
  have Fa136 : Sta Z h127 "com/example/santa_fe/santafe/protocol/ErrorCode" "ID_DOES_NOT_EXIST" "Lcom/example/santa_fe/santafe/protocol/ErrorCode;" (.ref e_4) := Fa118.wr W127
  have Fa137 : Exa Z h127 e_4 "com/example/santa_fe/santafe/protocol/ErrorCode" := Fa119.wr W127
  have Fa138 : Sta Z h127 "com/example/santa_fe/santafe/protocol/ErrorCode" "NO_RECORDS_MATCH" "Lcom/example/santa_fe/santafe/protocol/ErrorCode;" (.ref e_5) := Fa120.wr W127
  have Fa139 : Exa Z h127 e_5 "com/example/santa_fe/santafe/protocol/ErrorCode" := Fa121.wr W127
  have Fa140 : Sta Z h127 "com/example/santa_fe/santafe/protocol/ErrorCode" "NO_METADATA_FORMATS" "Lcom/example/santa_fe/santafe/protocol/ErrorCode;" (.ref e_6) := Fa122.wr W127
  have Fa141 : Exa Z h127 e_6 "com/example/santa_fe/santafe/protocol/ErrorCode" := Fa123.wr W127
  have Fa142 : Sta Z h127 "com/example/santa_fe/santafe/protocol/ErrorCode" "NO_SET_HIERARCHY" "Lcom/example/santa_fe/santafe/protocol/ErrorCode;" (.ref e_7) := Fa124.wr W127
  have Fa143 : Exa Z h127 e_7 "com/example/santa_fe/santafe/protocol/ErrorCode" := Fa125.wr W127
  refine own_st (T' := T127) (g' := (mkF m 56 #[.val (.int p1), .val (.int z7), .unset, .unset, .unset] [(.ref b1)])) (fun _ k => (st127) _ k) ?_
  refine own_st (T' := T127) (g' := (mkF m 57 #[.val (.int p1), .val (.int z7), .unset, .unset, .unset] [(.ref b1), (.ref b1)])) (fun _ k => XS.dup (g := (mkF m 56 #[.val (.int p1), .val (.int z7), .unset, .unset, .unset] [(.ref b1)])) X127.here hx rfl (hb hby at_56) rfl rfl k) ?_
  refine own_st (T' := T127) (g' := (mkF m 59 #[.val (.int p1), .val (.int z7), .unset, .unset, .unset] [(.int (7 : Int32)), (.ref b1), (.ref b1)])) (fun _ k => XS.bipush (g := (mkF m 57 #[.val (.int p1), .val (.int z7), .unset, .unset, .unset] [(.ref b1), (.ref b1)])) X127.here hx rfl (hb hby at_57) k) ?_
  obtain ⟨T144, X144, e144, st144⟩ := getS2 X127 hx hZ hown (host := "") (Or.inl (hw _ (List.mem_of_getElem? (i := 19) rfl))) Via.refl e127 Fa142 (g := (mkF m 59 #[.val (.int p1), .val (.int z7), .unset, .unset, .unset] [(.int (7 : Int32)), (.ref b1), (.ref b1)])) rfl (hb hby at_59)
  refine own_st (T' := T144) (g' := (mkF m 62 #[.val (.int p1), .val (.int z7), .unset, .unset, .unset] [(.ref e_7), (.int (7 : Int32)), (.ref b1), (.ref b1)])) (fun _ k => (st144) _ k) ?_
  obtain ⟨cl145, Ar145, qk145, Sz145, Nn145, Hs145, Gs145⟩ := V127
  have hin145 : ¬ ((7 : Int32) < 0 ∨ cl145.slots.size ≤ ((7 : Int32)).toNatClampNeg) := inb_of Sz145 ⟨by decide, by decide⟩
  obtain ⟨T145, h145, X145, e145, W145, st145⟩ := stR X144 hx hZ e144 Ar145 (j := (7 : Int32)) hin145 rfl (Sto.ofV Ar145 qk145 O1 (Ins.self Fa143)) (g := (mkF m 62 #[.val (.int p1), .val (.int z7), .unset, .unset, .unset] [(.ref e_7), (.int (7 : Int32)), (.ref b1), (.ref b1)])) rfl rfl (hb hby at_62)
  have V145 : Arv Z h145 b1 k1 (.object "com/example/santa_fe/santafe/protocol/ErrorCode") (8 : Int32) [(.ref e_0), (.ref e_1), (.ref e_2), (.ref e_3), (.ref e_4), (.ref e_5), (.ref e_6), (.ref e_7)] .null := Arv.set Ar145 qk145 Sz145 Nn145 Hs145 Gs145 rfl W145 7 rfl (Nat.le_of_ble_eq_true rfl)
  have Zs145 : n0 ≤ h145.size := Nat.le_trans Zs127 (Keep.of_wr W145).1
  obtain ⟨lc145, X145, N145⟩ := own_loc X145 (Fr.snoc X145 N127 gn_b1)
  have Fa146 : Sta Z h145 "com/example/santa_fe/santafe/protocol/ErrorCode" "BAD_ARGUMENT" "Lcom/example/santa_fe/santafe/protocol/ErrorCode;" (.ref e_0) := Fa128.wr W145
  have Fa147 : Exa Z h145 e_0 "com/example/santa_fe/santafe/protocol/ErrorCode" := Fa129.wr W145
  have Fa148 : Sta Z h145 "com/example/santa_fe/santafe/protocol/ErrorCode" "BAD_RESUMPTION_TOKEN" "Lcom/example/santa_fe/santafe/protocol/ErrorCode;" (.ref e_1) := Fa130.wr W145
  have Fa149 : Exa Z h145 e_1 "com/example/santa_fe/santafe/protocol/ErrorCode" := Fa131.wr W145
  have Fa150 : Sta Z h145 "com/example/santa_fe/santafe/protocol/ErrorCode" "BAD_VERB" "Lcom/example/santa_fe/santafe/protocol/ErrorCode;" (.ref e_2) := Fa132.wr W145
  have Fa151 : Exa Z h145 e_2 "com/example/santa_fe/santafe/protocol/ErrorCode" := Fa133.wr W145
  have Fa152 : Sta Z h145 "com/example/santa_fe/santafe/protocol/ErrorCode" "CANNOT_DISSEMINATE_FORMAT" "Lcom/example/santa_fe/santafe/protocol/ErrorCode;" (.ref e_3) := Fa134.wr W145
  have Fa153 : Exa Z h145 e_3 "com/example/santa_fe/santafe/protocol/ErrorCode" := Fa135.wr W145
  have Fa154 : Sta Z h145 "com/example/santa_fe/santafe/protocol/ErrorCode" "ID_DOES_NOT_EXIST" "Lcom/example/santa_fe/santafe/protocol/ErrorCode;" (.ref e_4) := Fa136.wr W145
  have Fa155 : Exa Z h145 e_4 "com/example/santa_fe/santafe/protocol/ErrorCode" := Fa137.wr W145
  have Fa156 : Sta Z h145 "com/example/santa_fe/santafe/protocol/ErrorCode" "NO_RECORDS_MATCH" "Lcom/example/santa_fe/santafe/protocol/ErrorCode;" (.ref e_5) := Fa138.wr W145
  have Fa157 : Exa Z h145 e_5 "com/example/santa_fe/santafe/protocol/ErrorCode" := Fa139.wr W145
  have Fa158 : Sta Z h145 "com/example/santa_fe/santafe/protocol/ErrorCode" "NO_METADATA_FORMATS" "Lcom/example/santa_fe/santafe/protocol/ErrorCode;" (.ref e_6) := Fa140.wr W145
  have Fa159 : Exa Z h145 e_6 "com/example/santa_fe/santafe/protocol/ErrorCode" := Fa141.wr W145
  have Fa160 : Sta Z h145 "com/example/santa_fe/santafe/protocol/ErrorCode" "NO_SET_HIERARCHY" "Lcom/example/santa_fe/santafe/protocol/ErrorCode;" (.ref e_7) := Fa142.wr W145
  have Fa161 : Exa Z h145 e_7 "com/example/santa_fe/santafe/protocol/ErrorCode" := Fa143.wr W145
  refine own_st (T' := T145) (g' := (mkF m 63 #[.val (.int p1), .val (.int z7), .unset, .unset, .unset] [(.ref b1)])) (fun _ k => (st145) _ k) ?_
  refine own_st (T' := T145) (g' := (mkF m 64 #[.val (.int p1), .val (.int z7), .val (.ref b1), .unset, .unset] [])) (fun _ k => Jvm.Free.XS.astoreN (g := (mkF m 63 #[.val (.int p1), .val (.int z7), .unset, .unset, .unset] [(.ref b1)])) X145.here hx rfl (hb hby at_63) rfl rfl (l' := #[.val (.int p1), .val (.int z7), .val (.ref b1), .unset, .unset]) rfl k) ?_
  rcases hz with rfl | rfl | rfl | rfl | rfl | rfl | rfl | rfl
  · refine own_st (T' := T145) (g' := (mkF m 65 #[.val (.int p1), .val (.int (0 : Int32)), .val (.ref b1), .unset, .unset] [(.ref b1)])) (fun _ k => Jvm.Free.XS.aloadN (g := (mkF m 64 #[.val (.int p1), .val (.int (0 : Int32)), .val (.ref b1), .unset, .unset] [])) X145.here hx rfl (hb hby at_64) rfl rfl k) ?_
    refine own_st (T' := T145) (g' := (mkF m 66 #[.val (.int p1), .val (.int (0 : Int32)), .val (.ref b1), .unset, .unset] [(.int (0 : Int32)), (.ref b1)])) (fun _ k => Jvm.Free.XS.iloadN (g := (mkF m 65 #[.val (.int p1), .val (.int (0 : Int32)), .val (.ref b1), .unset, .unset] [(.ref b1)])) X145.here hx rfl (hb hby at_65) rfl k) ?_
    obtain ⟨cl162, Ar162, -, Sz162, Nn162, Hs162, Gs162⟩ := id V145
    have hin162 : ¬ ((0 : Int32) < 0 ∨ cl162.slots.size ≤ ((0 : Int32)).toNatClampNeg) := inb_of Sz162 ⟨by decide, by decide⟩
    have hat162 : cl162.slots[((0 : Int32)).toNatClampNeg]? = some (.ref e_0) := Has.at Hs162 hin162 rfl
    refine own_st (T' := T145) (g' := (mkF m 67 #[.val (.int p1), .val (.int (0 : Int32)), .val (.ref b1), .unset, .unset] [(.ref e_0)])) (fun _ k => (X145.aaload hx (j := (0 : Int32)) (v := (.ref e_0)) (by rw [e145]; exact Ar162.1) (State.isArrayOf_alike hZ.alike Ar162.2.1) rfl Ar162.2.2 hin162 hat162 (g := (mkF m 66 #[.val (.int p1), .val (.int (0 : Int32)), .val (.ref b1), .unset, .unset] [(.int (0 : Int32)), (.ref b1)])) rfl rfl (hb hby at_66)) _ k) ?_
    refine own_st (T' := T145) (g' := (mkF m 68 #[.val (.int p1), .val (.int (0 : Int32)), .val (.ref b1), .val (.ref e_0), .unset] [])) (fun _ k => Jvm.Free.XS.astoreN (g := (mkF m 67 #[.val (.int p1), .val (.int (0 : Int32)), .val (.ref b1), .unset, .unset] [(.ref e_0)])) X145.here hx rfl (hb hby at_67) rfl rfl (l' := #[.val (.int p1), .val (.int (0 : Int32)), .val (.ref b1), .val (.ref e_0), .unset]) rfl k) ?_
    refine own_st (T' := T145) (g' := (mkF m 69 #[.val (.int p1), .val (.int (0 : Int32)), .val (.ref b1), .val (.ref e_0), .unset] [(.int (0 : Int32))])) (fun _ k => Jvm.Free.XS.iloadN (g := (mkF m 68 #[.val (.int p1), .val (.int (0 : Int32)), .val (.ref b1), .val (.ref e_0), .unset] [])) X145.here hx rfl (hb hby at_68) rfl k) ?_
    refine own_st (T' := T145) (g' := (mkF m 72 #[.val (.int p1), .val (.int (0 : Int32)), .val (.ref b1), .val (.ref e_0), .unset] [])) (fun _ k => XS.ifNo (g := (mkF m 69 #[.val (.int p1), .val (.int (0 : Int32)), .val (.ref b1), .val (.ref e_0), .unset] [(.int (0 : Int32))])) X145.here hx rfl (hb hby at_69) rfl ((if0 _ _).trans (teq (by decide : (0 : Int32) = (0 : Int32))).2) k) ?_
    refine own_st (T' := T145) (g' := (mkF m 73 #[.val (.int p1), .val (.int (0 : Int32)), .val (.ref b1), .val (.ref e_0), .unset] [(.int (0 : Int32))])) (fun _ k => XS.iconst (g := (mkF m 72 #[.val (.int p1), .val (.int (0 : Int32)), .val (.ref b1), .val (.ref e_0), .unset] [])) X145.here hx rfl (hb hby at_72) k) ?_
    refine own_st (T' := T145) (g' := (mkF m 75 #[.val (.int p1), .val (.int (0 : Int32)), .val (.ref b1), .val (.ref e_0), .val (.int (0 : Int32))] [])) (fun _ k => Jvm.Free.XS.istore (g := (mkF m 73 #[.val (.int p1), .val (.int (0 : Int32)), .val (.ref b1), .val (.ref e_0), .unset] [(.int (0 : Int32))])) X145.here hx rfl (hb hby at_73) rfl (l' := #[.val (.int p1), .val (.int (0 : Int32)), .val (.ref b1), .val (.ref e_0), .val (.int (0 : Int32))]) rfl k) ?_
    refine own_st (T' := T145) (g' := (mkF m 92 #[.val (.int p1), .val (.int (0 : Int32)), .val (.ref b1), .val (.ref e_0), .val (.int (0 : Int32))] [])) (fun _ k => XS.goto (g := (mkF m 75 #[.val (.int p1), .val (.int (0 : Int32)), .val (.ref b1), .val (.ref e_0), .val (.int (0 : Int32))] [])) X145.here hx rfl (pc0 := 75) (pc' := 92) rfl (hb hby at_75) (by decide) (by decide) k) ?_
    refine own_st (T' := T145) (g' := (mkF m 93 #[.val (.int p1), .val (.int (0 : Int32)), .val (.ref b1), .val (.ref e_0), .val (.int (0 : Int32))] [(.ref e_0)])) (fun _ k => Jvm.Free.XS.aloadN (g := (mkF m 92 #[.val (.int p1), .val (.int (0 : Int32)), .val (.ref b1), .val (.ref e_0), .val (.int (0 : Int32))] [])) X145.here hx rfl (hb hby at_92) rfl rfl k) ?_
    obtain ⟨cq163, kq163, q163a, q163b, q163c⟩ := isOf hZ e145 Fa147
    obtain ⟨v163, T163, L163, X163, hQ163, st163⟩ := own_packV (X145.virtualBack hx (y := (⟨"com/example/santa_fe/santafe/protocol/ErrorCode", "echoesArguments", "()Z"⟩ : MethodName)) (z := (⟨"com/example/santa_fe/santafe/protocol/ErrorCode", "echoesArguments", "()Z"⟩ : MethodName)) hown (mvT hZ (hw _ (List.mem_of_getElem? (i := 21) rfl))) (mvT hZ (hw _ (List.mem_of_getElem? (i := 22) rfl))) (notFace_of_selects (args := #[]) (mvT hZ (hw _ (List.mem_of_getElem? (i := 24) rfl)))) (mvT hZ (hw _ (List.mem_of_getElem? (i := 24) rfl))) (mvT hZ (hw _ (List.mem_of_getElem? (i := 23) rfl))) (by decide) (backOf (W := 0) (rm1 l Z a0 hw [] e_0 e_2 e_0 h145 n0 Zs145 Fa150 Fa146) hZ (hw _ (List.mem_of_getElem? (i := 25) rfl)) (hw _ (List.mem_of_getElem? (i := 4) rfl)) (by decide) (by decide)) q163a q163c (g := (mkF m 93 #[.val (.int p1), .val (.int (0 : Int32)), .val (.ref b1), .val (.ref e_0), .val (.int (0 : Int32))] [(.ref e_0)])) rfl (by rw [hml]; rfl) (Steps.refl _) (argsL := []) (rest := []) (lenOf own_pd0_0 rfl) rfl (by show 2 * 0 + _ ≤ _; exact Nat.le_of_eq rfl) (hb hby at_93) (fun _ _ => ⟨rfl, e145, (by decide : 1 + 0 ≤ _), (by decide : 8 + 0 ≤ _)⟩))
    obtain ⟨rfl, N163q, e163⟩ := hQ163
    obtain ⟨lc163, X163, N163⟩ := own_loc X163 (Fr.app N145 N163q)
    refine own_st (T' := T163) (g' := (mkF m 96 #[.val (.int p1), .val (.int (0 : Int32)), .val (.ref b1), .val (.ref e_0), .val (.int (0 : Int32))] [(.int (own_g e_0 e_2 e_0))])) (fun _ k => (st163) _ k) ?_
    refine own_st (T' := T163) (g' := (mkF m 98 #[.val (.int p1), .val (.int (0 : Int32)), .val (.ref b1), .val (.ref e_0), .val (.int (0 : Int32))] [(.int (0 : Int32)), (.int (own_g e_0 e_2 e_0))])) (fun _ k => Jvm.Free.XS.iload (g := (mkF m 96 #[.val (.int p1), .val (.int (0 : Int32)), .val (.ref b1), .val (.ref e_0), .val (.int (0 : Int32))] [(.int (own_g e_0 e_2 e_0))])) X163.here hx rfl (hb hby at_96) rfl k) ?_
    refine own_st (T' := T163) (g' := (mkF m 101 #[.val (.int p1), .val (.int (0 : Int32)), .val (.ref b1), .val (.ref e_0), .val (.int (0 : Int32))] [])) (fun _ k => XS.icmpNo (g := (mkF m 98 #[.val (.int p1), .val (.int (0 : Int32)), .val (.ref b1), .val (.ref e_0), .val (.int (0 : Int32))] [(.int (0 : Int32)), (.int (own_g e_0 e_2 e_0))])) X163.here hx rfl (hb hby at_98) rfl (teq ((if_neg hv0).trans (if_pos rfl))).2 k) ?_
    refine own_st (T' := T163) (g' := (mkF m 102 #[.val (.int p1), .val (.int (0 : Int32)), .val (.ref b1), .val (.ref e_0), .val (.int (0 : Int32))] [(.int (1 : Int32))])) (fun _ k => XS.iconst (g := (mkF m 101 #[.val (.int p1), .val (.int (0 : Int32)), .val (.ref b1), .val (.ref e_0), .val (.int (0 : Int32))] [])) X163.here hx rfl (hb hby at_101) k) ?_
    refine own_st (T' := T163) (g' := (mkF m 106 #[.val (.int p1), .val (.int (0 : Int32)), .val (.ref b1), .val (.ref e_0), .val (.int (0 : Int32))] [(.int (1 : Int32))])) (fun _ k => XS.goto (g := (mkF m 102 #[.val (.int p1), .val (.int (0 : Int32)), .val (.ref b1), .val (.ref e_0), .val (.int (0 : Int32))] [(.int (1 : Int32))])) X163.here hx rfl (pc0 := 102) (pc' := 106) rfl (hb hby at_102) (by decide) (by decide) k) ?_
    exact own_end (Q := Q0 Z p1 h0 n0) (v := some (.int (nar .boolean (1 : Int32)))) X163 (fun h => by rw [Bd.returns] at h; cases h) (fun fs hr => retN X163 hx (t := .boolean) Bd.returns (by simp) (hb hby at_106) hr) (⟨rfl, N163⟩) (by decide) (by decide)
  · refine own_st (T' := T145) (g' := (mkF m 65 #[.val (.int p1), .val (.int (1 : Int32)), .val (.ref b1), .unset, .unset] [(.ref b1)])) (fun _ k => Jvm.Free.XS.aloadN (g := (mkF m 64 #[.val (.int p1), .val (.int (1 : Int32)), .val (.ref b1), .unset, .unset] [])) X145.here hx rfl (hb hby at_64) rfl rfl k) ?_
    refine own_st (T' := T145) (g' := (mkF m 66 #[.val (.int p1), .val (.int (1 : Int32)), .val (.ref b1), .unset, .unset] [(.int (1 : Int32)), (.ref b1)])) (fun _ k => Jvm.Free.XS.iloadN (g := (mkF m 65 #[.val (.int p1), .val (.int (1 : Int32)), .val (.ref b1), .unset, .unset] [(.ref b1)])) X145.here hx rfl (hb hby at_65) rfl k) ?_
    obtain ⟨cl164, Ar164, -, Sz164, Nn164, Hs164, Gs164⟩ := id V145
    have hin164 : ¬ ((1 : Int32) < 0 ∨ cl164.slots.size ≤ ((1 : Int32)).toNatClampNeg) := inb_of Sz164 ⟨by decide, by decide⟩
    have hat164 : cl164.slots[((1 : Int32)).toNatClampNeg]? = some (.ref e_1) := Has.at Hs164 hin164 rfl
    refine own_st (T' := T145) (g' := (mkF m 67 #[.val (.int p1), .val (.int (1 : Int32)), .val (.ref b1), .unset, .unset] [(.ref e_1)])) (fun _ k => (X145.aaload hx (j := (1 : Int32)) (v := (.ref e_1)) (by rw [e145]; exact Ar164.1) (State.isArrayOf_alike hZ.alike Ar164.2.1) rfl Ar164.2.2 hin164 hat164 (g := (mkF m 66 #[.val (.int p1), .val (.int (1 : Int32)), .val (.ref b1), .unset, .unset] [(.int (1 : Int32)), (.ref b1)])) rfl rfl (hb hby at_66)) _ k) ?_
    refine own_st (T' := T145) (g' := (mkF m 68 #[.val (.int p1), .val (.int (1 : Int32)), .val (.ref b1), .val (.ref e_1), .unset] [])) (fun _ k => Jvm.Free.XS.astoreN (g := (mkF m 67 #[.val (.int p1), .val (.int (1 : Int32)), .val (.ref b1), .unset, .unset] [(.ref e_1)])) X145.here hx rfl (hb hby at_67) rfl rfl (l' := #[.val (.int p1), .val (.int (1 : Int32)), .val (.ref b1), .val (.ref e_1), .unset]) rfl k) ?_
    refine own_st (T' := T145) (g' := (mkF m 69 #[.val (.int p1), .val (.int (1 : Int32)), .val (.ref b1), .val (.ref e_1), .unset] [(.int (1 : Int32))])) (fun _ k => Jvm.Free.XS.iloadN (g := (mkF m 68 #[.val (.int p1), .val (.int (1 : Int32)), .val (.ref b1), .val (.ref e_1), .unset] [])) X145.here hx rfl (hb hby at_68) rfl k) ?_
    refine own_st (T' := T145) (g' := (mkF m 78 #[.val (.int p1), .val (.int (1 : Int32)), .val (.ref b1), .val (.ref e_1), .unset] [])) (fun _ k => XS.ifYes (g := (mkF m 69 #[.val (.int p1), .val (.int (1 : Int32)), .val (.ref b1), .val (.ref e_1), .unset] [(.int (1 : Int32))])) X145.here hx rfl (pc0 := 69) (pc' := 78) rfl (hb hby at_69) rfl ((if0 _ _).trans (feq (by decide : ¬ ((1 : Int32) = (0 : Int32)))).2) (by decide) (by decide) k) ?_
    refine own_st (T' := T145) (g' := (mkF m 79 #[.val (.int p1), .val (.int (1 : Int32)), .val (.ref b1), .val (.ref e_1), .unset] [(.int (1 : Int32))])) (fun _ k => Jvm.Free.XS.iloadN (g := (mkF m 78 #[.val (.int p1), .val (.int (1 : Int32)), .val (.ref b1), .val (.ref e_1), .unset] [])) X145.here hx rfl (hb hby at_78) rfl k) ?_
    refine own_st (T' := T145) (g' := (mkF m 80 #[.val (.int p1), .val (.int (1 : Int32)), .val (.ref b1), .val (.ref e_1), .unset] [(.int (2 : Int32)), (.int (1 : Int32))])) (fun _ k => XS.iconst (g := (mkF m 79 #[.val (.int p1), .val (.int (1 : Int32)), .val (.ref b1), .val (.ref e_1), .unset] [(.int (1 : Int32))])) X145.here hx rfl (hb hby at_79) k) ?_
    refine own_st (T' := T145) (g' := (mkF m 89 #[.val (.int p1), .val (.int (1 : Int32)), .val (.ref b1), .val (.ref e_1), .unset] [])) (fun _ k => XS.icmpYes (g := (mkF m 80 #[.val (.int p1), .val (.int (1 : Int32)), .val (.ref b1), .val (.ref e_1), .unset] [(.int (2 : Int32)), (.int (1 : Int32))])) X145.here hx rfl (pc0 := 80) (pc' := 89) rfl (hb hby at_80) rfl (feq (by decide : ¬ ((1 : Int32) = (2 : Int32)))).2 (by decide) (by decide) k) ?_
    refine own_st (T' := T145) (g' := (mkF m 90 #[.val (.int p1), .val (.int (1 : Int32)), .val (.ref b1), .val (.ref e_1), .unset] [(.int (1 : Int32))])) (fun _ k => XS.iconst (g := (mkF m 89 #[.val (.int p1), .val (.int (1 : Int32)), .val (.ref b1), .val (.ref e_1), .unset] [])) X145.here hx rfl (hb hby at_89) k) ?_
    refine own_st (T' := T145) (g' := (mkF m 92 #[.val (.int p1), .val (.int (1 : Int32)), .val (.ref b1), .val (.ref e_1), .val (.int (1 : Int32))] [])) (fun _ k => Jvm.Free.XS.istore (g := (mkF m 90 #[.val (.int p1), .val (.int (1 : Int32)), .val (.ref b1), .val (.ref e_1), .unset] [(.int (1 : Int32))])) X145.here hx rfl (hb hby at_90) rfl (l' := #[.val (.int p1), .val (.int (1 : Int32)), .val (.ref b1), .val (.ref e_1), .val (.int (1 : Int32))]) rfl k) ?_
    refine own_st (T' := T145) (g' := (mkF m 93 #[.val (.int p1), .val (.int (1 : Int32)), .val (.ref b1), .val (.ref e_1), .val (.int (1 : Int32))] [(.ref e_1)])) (fun _ k => Jvm.Free.XS.aloadN (g := (mkF m 92 #[.val (.int p1), .val (.int (1 : Int32)), .val (.ref b1), .val (.ref e_1), .val (.int (1 : Int32))] [])) X145.here hx rfl (hb hby at_92) rfl rfl k) ?_
    obtain ⟨cq165, kq165, q165a, q165b, q165c⟩ := isOf hZ e145 Fa149
    obtain ⟨v165, T165, L165, X165, hQ165, st165⟩ := own_packV (X145.virtualBack hx (y := (⟨"com/example/santa_fe/santafe/protocol/ErrorCode", "echoesArguments", "()Z"⟩ : MethodName)) (z := (⟨"com/example/santa_fe/santafe/protocol/ErrorCode", "echoesArguments", "()Z"⟩ : MethodName)) hown (mvT hZ (hw _ (List.mem_of_getElem? (i := 21) rfl))) (mvT hZ (hw _ (List.mem_of_getElem? (i := 22) rfl))) (notFace_of_selects (args := #[]) (mvT hZ (hw _ (List.mem_of_getElem? (i := 24) rfl)))) (mvT hZ (hw _ (List.mem_of_getElem? (i := 24) rfl))) (mvT hZ (hw _ (List.mem_of_getElem? (i := 23) rfl))) (by decide) (backOf (W := 0) (rm1 l Z a0 hw [] e_1 e_2 e_0 h145 n0 Zs145 Fa150 Fa146) hZ (hw _ (List.mem_of_getElem? (i := 25) rfl)) (hw _ (List.mem_of_getElem? (i := 4) rfl)) (by decide) (by decide)) q165a q165c (g := (mkF m 93 #[.val (.int p1), .val (.int (1 : Int32)), .val (.ref b1), .val (.ref e_1), .val (.int (1 : Int32))] [(.ref e_1)])) rfl (by rw [hml]; rfl) (Steps.refl _) (argsL := []) (rest := []) (lenOf own_pd0_0 rfl) rfl (by show 2 * 0 + _ ≤ _; exact Nat.le_of_eq rfl) (hb hby at_93) (fun _ _ => ⟨rfl, e145, (by decide : 1 + 0 ≤ _), (by decide : 8 + 0 ≤ _)⟩))
    obtain ⟨rfl, N165q, e165⟩ := hQ165
    obtain ⟨lc165, X165, N165⟩ := own_loc X165 (Fr.app N145 N165q)
    refine own_st (T' := T165) (g' := (mkF m 96 #[.val (.int p1), .val (.int (1 : Int32)), .val (.ref b1), .val (.ref e_1), .val (.int (1 : Int32))] [(.int (own_g e_1 e_2 e_0))])) (fun _ k => (st165) _ k) ?_
    refine own_st (T' := T165) (g' := (mkF m 98 #[.val (.int p1), .val (.int (1 : Int32)), .val (.ref b1), .val (.ref e_1), .val (.int (1 : Int32))] [(.int (1 : Int32)), (.int (own_g e_1 e_2 e_0))])) (fun _ k => Jvm.Free.XS.iload (g := (mkF m 96 #[.val (.int p1), .val (.int (1 : Int32)), .val (.ref b1), .val (.ref e_1), .val (.int (1 : Int32))] [(.int (own_g e_1 e_2 e_0))])) X165.here hx rfl (hb hby at_96) rfl k) ?_
    refine own_st (T' := T165) (g' := (mkF m 101 #[.val (.int p1), .val (.int (1 : Int32)), .val (.ref b1), .val (.ref e_1), .val (.int (1 : Int32))] [])) (fun _ k => XS.icmpNo (g := (mkF m 98 #[.val (.int p1), .val (.int (1 : Int32)), .val (.ref b1), .val (.ref e_1), .val (.int (1 : Int32))] [(.int (1 : Int32)), (.int (own_g e_1 e_2 e_0))])) X165.here hx rfl (hb hby at_98) rfl (teq ((if_neg hv1).trans (if_neg hb1))).2 k) ?_
    refine own_st (T' := T165) (g' := (mkF m 102 #[.val (.int p1), .val (.int (1 : Int32)), .val (.ref b1), .val (.ref e_1), .val (.int (1 : Int32))] [(.int (1 : Int32))])) (fun _ k => XS.iconst (g := (mkF m 101 #[.val (.int p1), .val (.int (1 : Int32)), .val (.ref b1), .val (.ref e_1), .val (.int (1 : Int32))] [])) X165.here hx rfl (hb hby at_101) k) ?_
    refine own_st (T' := T165) (g' := (mkF m 106 #[.val (.int p1), .val (.int (1 : Int32)), .val (.ref b1), .val (.ref e_1), .val (.int (1 : Int32))] [(.int (1 : Int32))])) (fun _ k => XS.goto (g := (mkF m 102 #[.val (.int p1), .val (.int (1 : Int32)), .val (.ref b1), .val (.ref e_1), .val (.int (1 : Int32))] [(.int (1 : Int32))])) X165.here hx rfl (pc0 := 102) (pc' := 106) rfl (hb hby at_102) (by decide) (by decide) k) ?_
    exact own_end (Q := Q0 Z p1 h0 n0) (v := some (.int (nar .boolean (1 : Int32)))) X165 (fun h => by rw [Bd.returns] at h; cases h) (fun fs hr => retN X165 hx (t := .boolean) Bd.returns (by simp) (hb hby at_106) hr) (⟨rfl, N165⟩) (by decide) (by decide)
  · refine own_st (T' := T145) (g' := (mkF m 65 #[.val (.int p1), .val (.int (2 : Int32)), .val (.ref b1), .unset, .unset] [(.ref b1)])) (fun _ k => Jvm.Free.XS.aloadN (g := (mkF m 64 #[.val (.int p1), .val (.int (2 : Int32)), .val (.ref b1), .unset, .unset] [])) X145.here hx rfl (hb hby at_64) rfl rfl k) ?_
    refine own_st (T' := T145) (g' := (mkF m 66 #[.val (.int p1), .val (.int (2 : Int32)), .val (.ref b1), .unset, .unset] [(.int (2 : Int32)), (.ref b1)])) (fun _ k => Jvm.Free.XS.iloadN (g := (mkF m 65 #[.val (.int p1), .val (.int (2 : Int32)), .val (.ref b1), .unset, .unset] [(.ref b1)])) X145.here hx rfl (hb hby at_65) rfl k) ?_
    obtain ⟨cl166, Ar166, -, Sz166, Nn166, Hs166, Gs166⟩ := id V145
    have hin166 : ¬ ((2 : Int32) < 0 ∨ cl166.slots.size ≤ ((2 : Int32)).toNatClampNeg) := inb_of Sz166 ⟨by decide, by decide⟩
    have hat166 : cl166.slots[((2 : Int32)).toNatClampNeg]? = some (.ref e_2) := Has.at Hs166 hin166 rfl
    refine own_st (T' := T145) (g' := (mkF m 67 #[.val (.int p1), .val (.int (2 : Int32)), .val (.ref b1), .unset, .unset] [(.ref e_2)])) (fun _ k => (X145.aaload hx (j := (2 : Int32)) (v := (.ref e_2)) (by rw [e145]; exact Ar166.1) (State.isArrayOf_alike hZ.alike Ar166.2.1) rfl Ar166.2.2 hin166 hat166 (g := (mkF m 66 #[.val (.int p1), .val (.int (2 : Int32)), .val (.ref b1), .unset, .unset] [(.int (2 : Int32)), (.ref b1)])) rfl rfl (hb hby at_66)) _ k) ?_
    refine own_st (T' := T145) (g' := (mkF m 68 #[.val (.int p1), .val (.int (2 : Int32)), .val (.ref b1), .val (.ref e_2), .unset] [])) (fun _ k => Jvm.Free.XS.astoreN (g := (mkF m 67 #[.val (.int p1), .val (.int (2 : Int32)), .val (.ref b1), .unset, .unset] [(.ref e_2)])) X145.here hx rfl (hb hby at_67) rfl rfl (l' := #[.val (.int p1), .val (.int (2 : Int32)), .val (.ref b1), .val (.ref e_2), .unset]) rfl k) ?_
    refine own_st (T' := T145) (g' := (mkF m 69 #[.val (.int p1), .val (.int (2 : Int32)), .val (.ref b1), .val (.ref e_2), .unset] [(.int (2 : Int32))])) (fun _ k => Jvm.Free.XS.iloadN (g := (mkF m 68 #[.val (.int p1), .val (.int (2 : Int32)), .val (.ref b1), .val (.ref e_2), .unset] [])) X145.here hx rfl (hb hby at_68) rfl k) ?_
    refine own_st (T' := T145) (g' := (mkF m 78 #[.val (.int p1), .val (.int (2 : Int32)), .val (.ref b1), .val (.ref e_2), .unset] [])) (fun _ k => XS.ifYes (g := (mkF m 69 #[.val (.int p1), .val (.int (2 : Int32)), .val (.ref b1), .val (.ref e_2), .unset] [(.int (2 : Int32))])) X145.here hx rfl (pc0 := 69) (pc' := 78) rfl (hb hby at_69) rfl ((if0 _ _).trans (feq (by decide : ¬ ((2 : Int32) = (0 : Int32)))).2) (by decide) (by decide) k) ?_
    refine own_st (T' := T145) (g' := (mkF m 79 #[.val (.int p1), .val (.int (2 : Int32)), .val (.ref b1), .val (.ref e_2), .unset] [(.int (2 : Int32))])) (fun _ k => Jvm.Free.XS.iloadN (g := (mkF m 78 #[.val (.int p1), .val (.int (2 : Int32)), .val (.ref b1), .val (.ref e_2), .unset] [])) X145.here hx rfl (hb hby at_78) rfl k) ?_
    refine own_st (T' := T145) (g' := (mkF m 80 #[.val (.int p1), .val (.int (2 : Int32)), .val (.ref b1), .val (.ref e_2), .unset] [(.int (2 : Int32)), (.int (2 : Int32))])) (fun _ k => XS.iconst (g := (mkF m 79 #[.val (.int p1), .val (.int (2 : Int32)), .val (.ref b1), .val (.ref e_2), .unset] [(.int (2 : Int32))])) X145.here hx rfl (hb hby at_79) k) ?_
    refine own_st (T' := T145) (g' := (mkF m 83 #[.val (.int p1), .val (.int (2 : Int32)), .val (.ref b1), .val (.ref e_2), .unset] [])) (fun _ k => XS.icmpNo (g := (mkF m 80 #[.val (.int p1), .val (.int (2 : Int32)), .val (.ref b1), .val (.ref e_2), .unset] [(.int (2 : Int32)), (.int (2 : Int32))])) X145.here hx rfl (hb hby at_80) rfl (teq (by decide : (2 : Int32) = (2 : Int32))).2 k) ?_
    refine own_st (T' := T145) (g' := (mkF m 84 #[.val (.int p1), .val (.int (2 : Int32)), .val (.ref b1), .val (.ref e_2), .unset] [(.int (0 : Int32))])) (fun _ k => XS.iconst (g := (mkF m 83 #[.val (.int p1), .val (.int (2 : Int32)), .val (.ref b1), .val (.ref e_2), .unset] [])) X145.here hx rfl (hb hby at_83) k) ?_
    refine own_st (T' := T145) (g' := (mkF m 86 #[.val (.int p1), .val (.int (2 : Int32)), .val (.ref b1), .val (.ref e_2), .val (.int (0 : Int32))] [])) (fun _ k => Jvm.Free.XS.istore (g := (mkF m 84 #[.val (.int p1), .val (.int (2 : Int32)), .val (.ref b1), .val (.ref e_2), .unset] [(.int (0 : Int32))])) X145.here hx rfl (hb hby at_84) rfl (l' := #[.val (.int p1), .val (.int (2 : Int32)), .val (.ref b1), .val (.ref e_2), .val (.int (0 : Int32))]) rfl k) ?_
    refine own_st (T' := T145) (g' := (mkF m 92 #[.val (.int p1), .val (.int (2 : Int32)), .val (.ref b1), .val (.ref e_2), .val (.int (0 : Int32))] [])) (fun _ k => XS.goto (g := (mkF m 86 #[.val (.int p1), .val (.int (2 : Int32)), .val (.ref b1), .val (.ref e_2), .val (.int (0 : Int32))] [])) X145.here hx rfl (pc0 := 86) (pc' := 92) rfl (hb hby at_86) (by decide) (by decide) k) ?_
    refine own_st (T' := T145) (g' := (mkF m 93 #[.val (.int p1), .val (.int (2 : Int32)), .val (.ref b1), .val (.ref e_2), .val (.int (0 : Int32))] [(.ref e_2)])) (fun _ k => Jvm.Free.XS.aloadN (g := (mkF m 92 #[.val (.int p1), .val (.int (2 : Int32)), .val (.ref b1), .val (.ref e_2), .val (.int (0 : Int32))] [])) X145.here hx rfl (hb hby at_92) rfl rfl k) ?_
    obtain ⟨cq167, kq167, q167a, q167b, q167c⟩ := isOf hZ e145 Fa151
    obtain ⟨v167, T167, L167, X167, hQ167, st167⟩ := own_packV (X145.virtualBack hx (y := (⟨"com/example/santa_fe/santafe/protocol/ErrorCode", "echoesArguments", "()Z"⟩ : MethodName)) (z := (⟨"com/example/santa_fe/santafe/protocol/ErrorCode", "echoesArguments", "()Z"⟩ : MethodName)) hown (mvT hZ (hw _ (List.mem_of_getElem? (i := 21) rfl))) (mvT hZ (hw _ (List.mem_of_getElem? (i := 22) rfl))) (notFace_of_selects (args := #[]) (mvT hZ (hw _ (List.mem_of_getElem? (i := 24) rfl)))) (mvT hZ (hw _ (List.mem_of_getElem? (i := 24) rfl))) (mvT hZ (hw _ (List.mem_of_getElem? (i := 23) rfl))) (by decide) (backOf (W := 0) (rm1 l Z a0 hw [] e_2 e_2 e_0 h145 n0 Zs145 Fa150 Fa146) hZ (hw _ (List.mem_of_getElem? (i := 25) rfl)) (hw _ (List.mem_of_getElem? (i := 4) rfl)) (by decide) (by decide)) q167a q167c (g := (mkF m 93 #[.val (.int p1), .val (.int (2 : Int32)), .val (.ref b1), .val (.ref e_2), .val (.int (0 : Int32))] [(.ref e_2)])) rfl (by rw [hml]; rfl) (Steps.refl _) (argsL := []) (rest := []) (lenOf own_pd0_0 rfl) rfl (by show 2 * 0 + _ ≤ _; exact Nat.le_of_eq rfl) (hb hby at_93) (fun _ _ => ⟨rfl, e145, (by decide : 1 + 0 ≤ _), (by decide : 8 + 0 ≤ _)⟩))
    obtain ⟨rfl, N167q, e167⟩ := hQ167
    obtain ⟨lc167, X167, N167⟩ := own_loc X167 (Fr.app N145 N167q)
    refine own_st (T' := T167) (g' := (mkF m 96 #[.val (.int p1), .val (.int (2 : Int32)), .val (.ref b1), .val (.ref e_2), .val (.int (0 : Int32))] [(.int (own_g e_2 e_2 e_0))])) (fun _ k => (st167) _ k) ?_
    refine own_st (T' := T167) (g' := (mkF m 98 #[.val (.int p1), .val (.int (2 : Int32)), .val (.ref b1), .val (.ref e_2), .val (.int (0 : Int32))] [(.int (0 : Int32)), (.int (own_g e_2 e_2 e_0))])) (fun _ k => Jvm.Free.XS.iload (g := (mkF m 96 #[.val (.int p1), .val (.int (2 : Int32)), .val (.ref b1), .val (.ref e_2), .val (.int (0 : Int32))] [(.int (own_g e_2 e_2 e_0))])) X167.here hx rfl (hb hby at_96) rfl k) ?_
    refine own_st (T' := T167) (g' := (mkF m 101 #[.val (.int p1), .val (.int (2 : Int32)), .val (.ref b1), .val (.ref e_2), .val (.int (0 : Int32))] [])) (fun _ k => XS.icmpNo (g := (mkF m 98 #[.val (.int p1), .val (.int (2 : Int32)), .val (.ref b1), .val (.ref e_2), .val (.int (0 : Int32))] [(.int (0 : Int32)), (.int (own_g e_2 e_2 e_0))])) X167.here hx rfl (hb hby at_98) rfl (teq (if_pos rfl)).2 k) ?_
    refine own_st (T' := T167) (g' := (mkF m 102 #[.val (.int p1), .val (.int (2 : Int32)), .val (.ref b1), .val (.ref e_2), .val (.int (0 : Int32))] [(.int (1 : Int32))])) (fun _ k => XS.iconst (g := (mkF m 101 #[.val (.int p1), .val (.int (2 : Int32)), .val (.ref b1), .val (.ref e_2), .val (.int (0 : Int32))] [])) X167.here hx rfl (hb hby at_101) k) ?_
    refine own_st (T' := T167) (g' := (mkF m 106 #[.val (.int p1), .val (.int (2 : Int32)), .val (.ref b1), .val (.ref e_2), .val (.int (0 : Int32))] [(.int (1 : Int32))])) (fun _ k => XS.goto (g := (mkF m 102 #[.val (.int p1), .val (.int (2 : Int32)), .val (.ref b1), .val (.ref e_2), .val (.int (0 : Int32))] [(.int (1 : Int32))])) X167.here hx rfl (pc0 := 102) (pc' := 106) rfl (hb hby at_102) (by decide) (by decide) k) ?_
    exact own_end (Q := Q0 Z p1 h0 n0) (v := some (.int (nar .boolean (1 : Int32)))) X167 (fun h => by rw [Bd.returns] at h; cases h) (fun fs hr => retN X167 hx (t := .boolean) Bd.returns (by simp) (hb hby at_106) hr) (⟨rfl, N167⟩) (by decide) (by decide)
  · refine own_st (T' := T145) (g' := (mkF m 65 #[.val (.int p1), .val (.int (3 : Int32)), .val (.ref b1), .unset, .unset] [(.ref b1)])) (fun _ k => Jvm.Free.XS.aloadN (g := (mkF m 64 #[.val (.int p1), .val (.int (3 : Int32)), .val (.ref b1), .unset, .unset] [])) X145.here hx rfl (hb hby at_64) rfl rfl k) ?_
    refine own_st (T' := T145) (g' := (mkF m 66 #[.val (.int p1), .val (.int (3 : Int32)), .val (.ref b1), .unset, .unset] [(.int (3 : Int32)), (.ref b1)])) (fun _ k => Jvm.Free.XS.iloadN (g := (mkF m 65 #[.val (.int p1), .val (.int (3 : Int32)), .val (.ref b1), .unset, .unset] [(.ref b1)])) X145.here hx rfl (hb hby at_65) rfl k) ?_
    obtain ⟨cl168, Ar168, -, Sz168, Nn168, Hs168, Gs168⟩ := id V145
    have hin168 : ¬ ((3 : Int32) < 0 ∨ cl168.slots.size ≤ ((3 : Int32)).toNatClampNeg) := inb_of Sz168 ⟨by decide, by decide⟩
    have hat168 : cl168.slots[((3 : Int32)).toNatClampNeg]? = some (.ref e_3) := Has.at Hs168 hin168 rfl
    refine own_st (T' := T145) (g' := (mkF m 67 #[.val (.int p1), .val (.int (3 : Int32)), .val (.ref b1), .unset, .unset] [(.ref e_3)])) (fun _ k => (X145.aaload hx (j := (3 : Int32)) (v := (.ref e_3)) (by rw [e145]; exact Ar168.1) (State.isArrayOf_alike hZ.alike Ar168.2.1) rfl Ar168.2.2 hin168 hat168 (g := (mkF m 66 #[.val (.int p1), .val (.int (3 : Int32)), .val (.ref b1), .unset, .unset] [(.int (3 : Int32)), (.ref b1)])) rfl rfl (hb hby at_66)) _ k) ?_
    refine own_st (T' := T145) (g' := (mkF m 68 #[.val (.int p1), .val (.int (3 : Int32)), .val (.ref b1), .val (.ref e_3), .unset] [])) (fun _ k => Jvm.Free.XS.astoreN (g := (mkF m 67 #[.val (.int p1), .val (.int (3 : Int32)), .val (.ref b1), .unset, .unset] [(.ref e_3)])) X145.here hx rfl (hb hby at_67) rfl rfl (l' := #[.val (.int p1), .val (.int (3 : Int32)), .val (.ref b1), .val (.ref e_3), .unset]) rfl k) ?_
    refine own_st (T' := T145) (g' := (mkF m 69 #[.val (.int p1), .val (.int (3 : Int32)), .val (.ref b1), .val (.ref e_3), .unset] [(.int (3 : Int32))])) (fun _ k => Jvm.Free.XS.iloadN (g := (mkF m 68 #[.val (.int p1), .val (.int (3 : Int32)), .val (.ref b1), .val (.ref e_3), .unset] [])) X145.here hx rfl (hb hby at_68) rfl k) ?_
    refine own_st (T' := T145) (g' := (mkF m 78 #[.val (.int p1), .val (.int (3 : Int32)), .val (.ref b1), .val (.ref e_3), .unset] [])) (fun _ k => XS.ifYes (g := (mkF m 69 #[.val (.int p1), .val (.int (3 : Int32)), .val (.ref b1), .val (.ref e_3), .unset] [(.int (3 : Int32))])) X145.here hx rfl (pc0 := 69) (pc' := 78) rfl (hb hby at_69) rfl ((if0 _ _).trans (feq (by decide : ¬ ((3 : Int32) = (0 : Int32)))).2) (by decide) (by decide) k) ?_
    refine own_st (T' := T145) (g' := (mkF m 79 #[.val (.int p1), .val (.int (3 : Int32)), .val (.ref b1), .val (.ref e_3), .unset] [(.int (3 : Int32))])) (fun _ k => Jvm.Free.XS.iloadN (g := (mkF m 78 #[.val (.int p1), .val (.int (3 : Int32)), .val (.ref b1), .val (.ref e_3), .unset] [])) X145.here hx rfl (hb hby at_78) rfl k) ?_
    refine own_st (T' := T145) (g' := (mkF m 80 #[.val (.int p1), .val (.int (3 : Int32)), .val (.ref b1), .val (.ref e_3), .unset] [(.int (2 : Int32)), (.int (3 : Int32))])) (fun _ k => XS.iconst (g := (mkF m 79 #[.val (.int p1), .val (.int (3 : Int32)), .val (.ref b1), .val (.ref e_3), .unset] [(.int (3 : Int32))])) X145.here hx rfl (hb hby at_79) k) ?_
    refine own_st (T' := T145) (g' := (mkF m 89 #[.val (.int p1), .val (.int (3 : Int32)), .val (.ref b1), .val (.ref e_3), .unset] [])) (fun _ k => XS.icmpYes (g := (mkF m 80 #[.val (.int p1), .val (.int (3 : Int32)), .val (.ref b1), .val (.ref e_3), .unset] [(.int (2 : Int32)), (.int (3 : Int32))])) X145.here hx rfl (pc0 := 80) (pc' := 89) rfl (hb hby at_80) rfl (feq (by decide : ¬ ((3 : Int32) = (2 : Int32)))).2 (by decide) (by decide) k) ?_
    refine own_st (T' := T145) (g' := (mkF m 90 #[.val (.int p1), .val (.int (3 : Int32)), .val (.ref b1), .val (.ref e_3), .unset] [(.int (1 : Int32))])) (fun _ k => XS.iconst (g := (mkF m 89 #[.val (.int p1), .val (.int (3 : Int32)), .val (.ref b1), .val (.ref e_3), .unset] [])) X145.here hx rfl (hb hby at_89) k) ?_
    refine own_st (T' := T145) (g' := (mkF m 92 #[.val (.int p1), .val (.int (3 : Int32)), .val (.ref b1), .val (.ref e_3), .val (.int (1 : Int32))] [])) (fun _ k => Jvm.Free.XS.istore (g := (mkF m 90 #[.val (.int p1), .val (.int (3 : Int32)), .val (.ref b1), .val (.ref e_3), .unset] [(.int (1 : Int32))])) X145.here hx rfl (hb hby at_90) rfl (l' := #[.val (.int p1), .val (.int (3 : Int32)), .val (.ref b1), .val (.ref e_3), .val (.int (1 : Int32))]) rfl k) ?_
    refine own_st (T' := T145) (g' := (mkF m 93 #[.val (.int p1), .val (.int (3 : Int32)), .val (.ref b1), .val (.ref e_3), .val (.int (1 : Int32))] [(.ref e_3)])) (fun _ k => Jvm.Free.XS.aloadN (g := (mkF m 92 #[.val (.int p1), .val (.int (3 : Int32)), .val (.ref b1), .val (.ref e_3), .val (.int (1 : Int32))] [])) X145.here hx rfl (hb hby at_92) rfl rfl k) ?_
    obtain ⟨cq169, kq169, q169a, q169b, q169c⟩ := isOf hZ e145 Fa153
    obtain ⟨v169, T169, L169, X169, hQ169, st169⟩ := own_packV (X145.virtualBack hx (y := (⟨"com/example/santa_fe/santafe/protocol/ErrorCode", "echoesArguments", "()Z"⟩ : MethodName)) (z := (⟨"com/example/santa_fe/santafe/protocol/ErrorCode", "echoesArguments", "()Z"⟩ : MethodName)) hown (mvT hZ (hw _ (List.mem_of_getElem? (i := 21) rfl))) (mvT hZ (hw _ (List.mem_of_getElem? (i := 22) rfl))) (notFace_of_selects (args := #[]) (mvT hZ (hw _ (List.mem_of_getElem? (i := 24) rfl)))) (mvT hZ (hw _ (List.mem_of_getElem? (i := 24) rfl))) (mvT hZ (hw _ (List.mem_of_getElem? (i := 23) rfl))) (by decide) (backOf (W := 0) (rm1 l Z a0 hw [] e_3 e_2 e_0 h145 n0 Zs145 Fa150 Fa146) hZ (hw _ (List.mem_of_getElem? (i := 25) rfl)) (hw _ (List.mem_of_getElem? (i := 4) rfl)) (by decide) (by decide)) q169a q169c (g := (mkF m 93 #[.val (.int p1), .val (.int (3 : Int32)), .val (.ref b1), .val (.ref e_3), .val (.int (1 : Int32))] [(.ref e_3)])) rfl (by rw [hml]; rfl) (Steps.refl _) (argsL := []) (rest := []) (lenOf own_pd0_0 rfl) rfl (by show 2 * 0 + _ ≤ _; exact Nat.le_of_eq rfl) (hb hby at_93) (fun _ _ => ⟨rfl, e145, (by decide : 1 + 0 ≤ _), (by decide : 8 + 0 ≤ _)⟩))
    obtain ⟨rfl, N169q, e169⟩ := hQ169
    obtain ⟨lc169, X169, N169⟩ := own_loc X169 (Fr.app N145 N169q)
    refine own_st (T' := T169) (g' := (mkF m 96 #[.val (.int p1), .val (.int (3 : Int32)), .val (.ref b1), .val (.ref e_3), .val (.int (1 : Int32))] [(.int (own_g e_3 e_2 e_0))])) (fun _ k => (st169) _ k) ?_
    refine own_st (T' := T169) (g' := (mkF m 98 #[.val (.int p1), .val (.int (3 : Int32)), .val (.ref b1), .val (.ref e_3), .val (.int (1 : Int32))] [(.int (1 : Int32)), (.int (own_g e_3 e_2 e_0))])) (fun _ k => Jvm.Free.XS.iload (g := (mkF m 96 #[.val (.int p1), .val (.int (3 : Int32)), .val (.ref b1), .val (.ref e_3), .val (.int (1 : Int32))] [(.int (own_g e_3 e_2 e_0))])) X169.here hx rfl (hb hby at_96) rfl k) ?_
    refine own_st (T' := T169) (g' := (mkF m 101 #[.val (.int p1), .val (.int (3 : Int32)), .val (.ref b1), .val (.ref e_3), .val (.int (1 : Int32))] [])) (fun _ k => XS.icmpNo (g := (mkF m 98 #[.val (.int p1), .val (.int (3 : Int32)), .val (.ref b1), .val (.ref e_3), .val (.int (1 : Int32))] [(.int (1 : Int32)), (.int (own_g e_3 e_2 e_0))])) X169.here hx rfl (hb hby at_98) rfl (teq ((if_neg hv3).trans (if_neg hb3))).2 k) ?_
    refine own_st (T' := T169) (g' := (mkF m 102 #[.val (.int p1), .val (.int (3 : Int32)), .val (.ref b1), .val (.ref e_3), .val (.int (1 : Int32))] [(.int (1 : Int32))])) (fun _ k => XS.iconst (g := (mkF m 101 #[.val (.int p1), .val (.int (3 : Int32)), .val (.ref b1), .val (.ref e_3), .val (.int (1 : Int32))] [])) X169.here hx rfl (hb hby at_101) k) ?_
    refine own_st (T' := T169) (g' := (mkF m 106 #[.val (.int p1), .val (.int (3 : Int32)), .val (.ref b1), .val (.ref e_3), .val (.int (1 : Int32))] [(.int (1 : Int32))])) (fun _ k => XS.goto (g := (mkF m 102 #[.val (.int p1), .val (.int (3 : Int32)), .val (.ref b1), .val (.ref e_3), .val (.int (1 : Int32))] [(.int (1 : Int32))])) X169.here hx rfl (pc0 := 102) (pc' := 106) rfl (hb hby at_102) (by decide) (by decide) k) ?_
    exact own_end (Q := Q0 Z p1 h0 n0) (v := some (.int (nar .boolean (1 : Int32)))) X169 (fun h => by rw [Bd.returns] at h; cases h) (fun fs hr => retN X169 hx (t := .boolean) Bd.returns (by simp) (hb hby at_106) hr) (⟨rfl, N169⟩) (by decide) (by decide)
  · refine own_st (T' := T145) (g' := (mkF m 65 #[.val (.int p1), .val (.int (4 : Int32)), .val (.ref b1), .unset, .unset] [(.ref b1)])) (fun _ k => Jvm.Free.XS.aloadN (g := (mkF m 64 #[.val (.int p1), .val (.int (4 : Int32)), .val (.ref b1), .unset, .unset] [])) X145.here hx rfl (hb hby at_64) rfl rfl k) ?_
    refine own_st (T' := T145) (g' := (mkF m 66 #[.val (.int p1), .val (.int (4 : Int32)), .val (.ref b1), .unset, .unset] [(.int (4 : Int32)), (.ref b1)])) (fun _ k => Jvm.Free.XS.iloadN (g := (mkF m 65 #[.val (.int p1), .val (.int (4 : Int32)), .val (.ref b1), .unset, .unset] [(.ref b1)])) X145.here hx rfl (hb hby at_65) rfl k) ?_
    obtain ⟨cl170, Ar170, -, Sz170, Nn170, Hs170, Gs170⟩ := id V145
    have hin170 : ¬ ((4 : Int32) < 0 ∨ cl170.slots.size ≤ ((4 : Int32)).toNatClampNeg) := inb_of Sz170 ⟨by decide, by decide⟩
    have hat170 : cl170.slots[((4 : Int32)).toNatClampNeg]? = some (.ref e_4) := Has.at Hs170 hin170 rfl
    refine own_st (T' := T145) (g' := (mkF m 67 #[.val (.int p1), .val (.int (4 : Int32)), .val (.ref b1), .unset, .unset] [(.ref e_4)])) (fun _ k => (X145.aaload hx (j := (4 : Int32)) (v := (.ref e_4)) (by rw [e145]; exact Ar170.1) (State.isArrayOf_alike hZ.alike Ar170.2.1) rfl Ar170.2.2 hin170 hat170 (g := (mkF m 66 #[.val (.int p1), .val (.int (4 : Int32)), .val (.ref b1), .unset, .unset] [(.int (4 : Int32)), (.ref b1)])) rfl rfl (hb hby at_66)) _ k) ?_
    refine own_st (T' := T145) (g' := (mkF m 68 #[.val (.int p1), .val (.int (4 : Int32)), .val (.ref b1), .val (.ref e_4), .unset] [])) (fun _ k => Jvm.Free.XS.astoreN (g := (mkF m 67 #[.val (.int p1), .val (.int (4 : Int32)), .val (.ref b1), .unset, .unset] [(.ref e_4)])) X145.here hx rfl (hb hby at_67) rfl rfl (l' := #[.val (.int p1), .val (.int (4 : Int32)), .val (.ref b1), .val (.ref e_4), .unset]) rfl k) ?_
    refine own_st (T' := T145) (g' := (mkF m 69 #[.val (.int p1), .val (.int (4 : Int32)), .val (.ref b1), .val (.ref e_4), .unset] [(.int (4 : Int32))])) (fun _ k => Jvm.Free.XS.iloadN (g := (mkF m 68 #[.val (.int p1), .val (.int (4 : Int32)), .val (.ref b1), .val (.ref e_4), .unset] [])) X145.here hx rfl (hb hby at_68) rfl k) ?_
    refine own_st (T' := T145) (g' := (mkF m 78 #[.val (.int p1), .val (.int (4 : Int32)), .val (.ref b1), .val (.ref e_4), .unset] [])) (fun _ k => XS.ifYes (g := (mkF m 69 #[.val (.int p1), .val (.int (4 : Int32)), .val (.ref b1), .val (.ref e_4), .unset] [(.int (4 : Int32))])) X145.here hx rfl (pc0 := 69) (pc' := 78) rfl (hb hby at_69) rfl ((if0 _ _).trans (feq (by decide : ¬ ((4 : Int32) = (0 : Int32)))).2) (by decide) (by decide) k) ?_
    refine own_st (T' := T145) (g' := (mkF m 79 #[.val (.int p1), .val (.int (4 : Int32)), .val (.ref b1), .val (.ref e_4), .unset] [(.int (4 : Int32))])) (fun _ k => Jvm.Free.XS.iloadN (g := (mkF m 78 #[.val (.int p1), .val (.int (4 : Int32)), .val (.ref b1), .val (.ref e_4), .unset] [])) X145.here hx rfl (hb hby at_78) rfl k) ?_
    refine own_st (T' := T145) (g' := (mkF m 80 #[.val (.int p1), .val (.int (4 : Int32)), .val (.ref b1), .val (.ref e_4), .unset] [(.int (2 : Int32)), (.int (4 : Int32))])) (fun _ k => XS.iconst (g := (mkF m 79 #[.val (.int p1), .val (.int (4 : Int32)), .val (.ref b1), .val (.ref e_4), .unset] [(.int (4 : Int32))])) X145.here hx rfl (hb hby at_79) k) ?_
    refine own_st (T' := T145) (g' := (mkF m 89 #[.val (.int p1), .val (.int (4 : Int32)), .val (.ref b1), .val (.ref e_4), .unset] [])) (fun _ k => XS.icmpYes (g := (mkF m 80 #[.val (.int p1), .val (.int (4 : Int32)), .val (.ref b1), .val (.ref e_4), .unset] [(.int (2 : Int32)), (.int (4 : Int32))])) X145.here hx rfl (pc0 := 80) (pc' := 89) rfl (hb hby at_80) rfl (feq (by decide : ¬ ((4 : Int32) = (2 : Int32)))).2 (by decide) (by decide) k) ?_
    refine own_st (T' := T145) (g' := (mkF m 90 #[.val (.int p1), .val (.int (4 : Int32)), .val (.ref b1), .val (.ref e_4), .unset] [(.int (1 : Int32))])) (fun _ k => XS.iconst (g := (mkF m 89 #[.val (.int p1), .val (.int (4 : Int32)), .val (.ref b1), .val (.ref e_4), .unset] [])) X145.here hx rfl (hb hby at_89) k) ?_
    refine own_st (T' := T145) (g' := (mkF m 92 #[.val (.int p1), .val (.int (4 : Int32)), .val (.ref b1), .val (.ref e_4), .val (.int (1 : Int32))] [])) (fun _ k => Jvm.Free.XS.istore (g := (mkF m 90 #[.val (.int p1), .val (.int (4 : Int32)), .val (.ref b1), .val (.ref e_4), .unset] [(.int (1 : Int32))])) X145.here hx rfl (hb hby at_90) rfl (l' := #[.val (.int p1), .val (.int (4 : Int32)), .val (.ref b1), .val (.ref e_4), .val (.int (1 : Int32))]) rfl k) ?_
    refine own_st (T' := T145) (g' := (mkF m 93 #[.val (.int p1), .val (.int (4 : Int32)), .val (.ref b1), .val (.ref e_4), .val (.int (1 : Int32))] [(.ref e_4)])) (fun _ k => Jvm.Free.XS.aloadN (g := (mkF m 92 #[.val (.int p1), .val (.int (4 : Int32)), .val (.ref b1), .val (.ref e_4), .val (.int (1 : Int32))] [])) X145.here hx rfl (hb hby at_92) rfl rfl k) ?_
    obtain ⟨cq171, kq171, q171a, q171b, q171c⟩ := isOf hZ e145 Fa155
    obtain ⟨v171, T171, L171, X171, hQ171, st171⟩ := own_packV (X145.virtualBack hx (y := (⟨"com/example/santa_fe/santafe/protocol/ErrorCode", "echoesArguments", "()Z"⟩ : MethodName)) (z := (⟨"com/example/santa_fe/santafe/protocol/ErrorCode", "echoesArguments", "()Z"⟩ : MethodName)) hown (mvT hZ (hw _ (List.mem_of_getElem? (i := 21) rfl))) (mvT hZ (hw _ (List.mem_of_getElem? (i := 22) rfl))) (notFace_of_selects (args := #[]) (mvT hZ (hw _ (List.mem_of_getElem? (i := 24) rfl)))) (mvT hZ (hw _ (List.mem_of_getElem? (i := 24) rfl))) (mvT hZ (hw _ (List.mem_of_getElem? (i := 23) rfl))) (by decide) (backOf (W := 0) (rm1 l Z a0 hw [] e_4 e_2 e_0 h145 n0 Zs145 Fa150 Fa146) hZ (hw _ (List.mem_of_getElem? (i := 25) rfl)) (hw _ (List.mem_of_getElem? (i := 4) rfl)) (by decide) (by decide)) q171a q171c (g := (mkF m 93 #[.val (.int p1), .val (.int (4 : Int32)), .val (.ref b1), .val (.ref e_4), .val (.int (1 : Int32))] [(.ref e_4)])) rfl (by rw [hml]; rfl) (Steps.refl _) (argsL := []) (rest := []) (lenOf own_pd0_0 rfl) rfl (by show 2 * 0 + _ ≤ _; exact Nat.le_of_eq rfl) (hb hby at_93) (fun _ _ => ⟨rfl, e145, (by decide : 1 + 0 ≤ _), (by decide : 8 + 0 ≤ _)⟩))
    obtain ⟨rfl, N171q, e171⟩ := hQ171
    obtain ⟨lc171, X171, N171⟩ := own_loc X171 (Fr.app N145 N171q)
    refine own_st (T' := T171) (g' := (mkF m 96 #[.val (.int p1), .val (.int (4 : Int32)), .val (.ref b1), .val (.ref e_4), .val (.int (1 : Int32))] [(.int (own_g e_4 e_2 e_0))])) (fun _ k => (st171) _ k) ?_
    refine own_st (T' := T171) (g' := (mkF m 98 #[.val (.int p1), .val (.int (4 : Int32)), .val (.ref b1), .val (.ref e_4), .val (.int (1 : Int32))] [(.int (1 : Int32)), (.int (own_g e_4 e_2 e_0))])) (fun _ k => Jvm.Free.XS.iload (g := (mkF m 96 #[.val (.int p1), .val (.int (4 : Int32)), .val (.ref b1), .val (.ref e_4), .val (.int (1 : Int32))] [(.int (own_g e_4 e_2 e_0))])) X171.here hx rfl (hb hby at_96) rfl k) ?_
    refine own_st (T' := T171) (g' := (mkF m 101 #[.val (.int p1), .val (.int (4 : Int32)), .val (.ref b1), .val (.ref e_4), .val (.int (1 : Int32))] [])) (fun _ k => XS.icmpNo (g := (mkF m 98 #[.val (.int p1), .val (.int (4 : Int32)), .val (.ref b1), .val (.ref e_4), .val (.int (1 : Int32))] [(.int (1 : Int32)), (.int (own_g e_4 e_2 e_0))])) X171.here hx rfl (hb hby at_98) rfl (teq ((if_neg hv4).trans (if_neg hb4))).2 k) ?_
    refine own_st (T' := T171) (g' := (mkF m 102 #[.val (.int p1), .val (.int (4 : Int32)), .val (.ref b1), .val (.ref e_4), .val (.int (1 : Int32))] [(.int (1 : Int32))])) (fun _ k => XS.iconst (g := (mkF m 101 #[.val (.int p1), .val (.int (4 : Int32)), .val (.ref b1), .val (.ref e_4), .val (.int (1 : Int32))] [])) X171.here hx rfl (hb hby at_101) k) ?_
    refine own_st (T' := T171) (g' := (mkF m 106 #[.val (.int p1), .val (.int (4 : Int32)), .val (.ref b1), .val (.ref e_4), .val (.int (1 : Int32))] [(.int (1 : Int32))])) (fun _ k => XS.goto (g := (mkF m 102 #[.val (.int p1), .val (.int (4 : Int32)), .val (.ref b1), .val (.ref e_4), .val (.int (1 : Int32))] [(.int (1 : Int32))])) X171.here hx rfl (pc0 := 102) (pc' := 106) rfl (hb hby at_102) (by decide) (by decide) k) ?_
    exact own_end (Q := Q0 Z p1 h0 n0) (v := some (.int (nar .boolean (1 : Int32)))) X171 (fun h => by rw [Bd.returns] at h; cases h) (fun fs hr => retN X171 hx (t := .boolean) Bd.returns (by simp) (hb hby at_106) hr) (⟨rfl, N171⟩) (by decide) (by decide)
  · refine own_st (T' := T145) (g' := (mkF m 65 #[.val (.int p1), .val (.int (5 : Int32)), .val (.ref b1), .unset, .unset] [(.ref b1)])) (fun _ k => Jvm.Free.XS.aloadN (g := (mkF m 64 #[.val (.int p1), .val (.int (5 : Int32)), .val (.ref b1), .unset, .unset] [])) X145.here hx rfl (hb hby at_64) rfl rfl k) ?_
    refine own_st (T' := T145) (g' := (mkF m 66 #[.val (.int p1), .val (.int (5 : Int32)), .val (.ref b1), .unset, .unset] [(.int (5 : Int32)), (.ref b1)])) (fun _ k => Jvm.Free.XS.iloadN (g := (mkF m 65 #[.val (.int p1), .val (.int (5 : Int32)), .val (.ref b1), .unset, .unset] [(.ref b1)])) X145.here hx rfl (hb hby at_65) rfl k) ?_
    obtain ⟨cl172, Ar172, -, Sz172, Nn172, Hs172, Gs172⟩ := id V145
    have hin172 : ¬ ((5 : Int32) < 0 ∨ cl172.slots.size ≤ ((5 : Int32)).toNatClampNeg) := inb_of Sz172 ⟨by decide, by decide⟩
    have hat172 : cl172.slots[((5 : Int32)).toNatClampNeg]? = some (.ref e_5) := Has.at Hs172 hin172 rfl
    refine own_st (T' := T145) (g' := (mkF m 67 #[.val (.int p1), .val (.int (5 : Int32)), .val (.ref b1), .unset, .unset] [(.ref e_5)])) (fun _ k => (X145.aaload hx (j := (5 : Int32)) (v := (.ref e_5)) (by rw [e145]; exact Ar172.1) (State.isArrayOf_alike hZ.alike Ar172.2.1) rfl Ar172.2.2 hin172 hat172 (g := (mkF m 66 #[.val (.int p1), .val (.int (5 : Int32)), .val (.ref b1), .unset, .unset] [(.int (5 : Int32)), (.ref b1)])) rfl rfl (hb hby at_66)) _ k) ?_
    refine own_st (T' := T145) (g' := (mkF m 68 #[.val (.int p1), .val (.int (5 : Int32)), .val (.ref b1), .val (.ref e_5), .unset] [])) (fun _ k => Jvm.Free.XS.astoreN (g := (mkF m 67 #[.val (.int p1), .val (.int (5 : Int32)), .val (.ref b1), .unset, .unset] [(.ref e_5)])) X145.here hx rfl (hb hby at_67) rfl rfl (l' := #[.val (.int p1), .val (.int (5 : Int32)), .val (.ref b1), .val (.ref e_5), .unset]) rfl k) ?_
    refine own_st (T' := T145) (g' := (mkF m 69 #[.val (.int p1), .val (.int (5 : Int32)), .val (.ref b1), .val (.ref e_5), .unset] [(.int (5 : Int32))])) (fun _ k => Jvm.Free.XS.iloadN (g := (mkF m 68 #[.val (.int p1), .val (.int (5 : Int32)), .val (.ref b1), .val (.ref e_5), .unset] [])) X145.here hx rfl (hb hby at_68) rfl k) ?_
    refine own_st (T' := T145) (g' := (mkF m 78 #[.val (.int p1), .val (.int (5 : Int32)), .val (.ref b1), .val (.ref e_5), .unset] [])) (fun _ k => XS.ifYes (g := (mkF m 69 #[.val (.int p1), .val (.int (5 : Int32)), .val (.ref b1), .val (.ref e_5), .unset] [(.int (5 : Int32))])) X145.here hx rfl (pc0 := 69) (pc' := 78) rfl (hb hby at_69) rfl ((if0 _ _).trans (feq (by decide : ¬ ((5 : Int32) = (0 : Int32)))).2) (by decide) (by decide) k) ?_
    refine own_st (T' := T145) (g' := (mkF m 79 #[.val (.int p1), .val (.int (5 : Int32)), .val (.ref b1), .val (.ref e_5), .unset] [(.int (5 : Int32))])) (fun _ k => Jvm.Free.XS.iloadN (g := (mkF m 78 #[.val (.int p1), .val (.int (5 : Int32)), .val (.ref b1), .val (.ref e_5), .unset] [])) X145.here hx rfl (hb hby at_78) rfl k) ?_
    refine own_st (T' := T145) (g' := (mkF m 80 #[.val (.int p1), .val (.int (5 : Int32)), .val (.ref b1), .val (.ref e_5), .unset] [(.int (2 : Int32)), (.int (5 : Int32))])) (fun _ k => XS.iconst (g := (mkF m 79 #[.val (.int p1), .val (.int (5 : Int32)), .val (.ref b1), .val (.ref e_5), .unset] [(.int (5 : Int32))])) X145.here hx rfl (hb hby at_79) k) ?_
    refine own_st (T' := T145) (g' := (mkF m 89 #[.val (.int p1), .val (.int (5 : Int32)), .val (.ref b1), .val (.ref e_5), .unset] [])) (fun _ k => XS.icmpYes (g := (mkF m 80 #[.val (.int p1), .val (.int (5 : Int32)), .val (.ref b1), .val (.ref e_5), .unset] [(.int (2 : Int32)), (.int (5 : Int32))])) X145.here hx rfl (pc0 := 80) (pc' := 89) rfl (hb hby at_80) rfl (feq (by decide : ¬ ((5 : Int32) = (2 : Int32)))).2 (by decide) (by decide) k) ?_
    refine own_st (T' := T145) (g' := (mkF m 90 #[.val (.int p1), .val (.int (5 : Int32)), .val (.ref b1), .val (.ref e_5), .unset] [(.int (1 : Int32))])) (fun _ k => XS.iconst (g := (mkF m 89 #[.val (.int p1), .val (.int (5 : Int32)), .val (.ref b1), .val (.ref e_5), .unset] [])) X145.here hx rfl (hb hby at_89) k) ?_
    refine own_st (T' := T145) (g' := (mkF m 92 #[.val (.int p1), .val (.int (5 : Int32)), .val (.ref b1), .val (.ref e_5), .val (.int (1 : Int32))] [])) (fun _ k => Jvm.Free.XS.istore (g := (mkF m 90 #[.val (.int p1), .val (.int (5 : Int32)), .val (.ref b1), .val (.ref e_5), .unset] [(.int (1 : Int32))])) X145.here hx rfl (hb hby at_90) rfl (l' := #[.val (.int p1), .val (.int (5 : Int32)), .val (.ref b1), .val (.ref e_5), .val (.int (1 : Int32))]) rfl k) ?_
    refine own_st (T' := T145) (g' := (mkF m 93 #[.val (.int p1), .val (.int (5 : Int32)), .val (.ref b1), .val (.ref e_5), .val (.int (1 : Int32))] [(.ref e_5)])) (fun _ k => Jvm.Free.XS.aloadN (g := (mkF m 92 #[.val (.int p1), .val (.int (5 : Int32)), .val (.ref b1), .val (.ref e_5), .val (.int (1 : Int32))] [])) X145.here hx rfl (hb hby at_92) rfl rfl k) ?_
    obtain ⟨cq173, kq173, q173a, q173b, q173c⟩ := isOf hZ e145 Fa157
    obtain ⟨v173, T173, L173, X173, hQ173, st173⟩ := own_packV (X145.virtualBack hx (y := (⟨"com/example/santa_fe/santafe/protocol/ErrorCode", "echoesArguments", "()Z"⟩ : MethodName)) (z := (⟨"com/example/santa_fe/santafe/protocol/ErrorCode", "echoesArguments", "()Z"⟩ : MethodName)) hown (mvT hZ (hw _ (List.mem_of_getElem? (i := 21) rfl))) (mvT hZ (hw _ (List.mem_of_getElem? (i := 22) rfl))) (notFace_of_selects (args := #[]) (mvT hZ (hw _ (List.mem_of_getElem? (i := 24) rfl)))) (mvT hZ (hw _ (List.mem_of_getElem? (i := 24) rfl))) (mvT hZ (hw _ (List.mem_of_getElem? (i := 23) rfl))) (by decide) (backOf (W := 0) (rm1 l Z a0 hw [] e_5 e_2 e_0 h145 n0 Zs145 Fa150 Fa146) hZ (hw _ (List.mem_of_getElem? (i := 25) rfl)) (hw _ (List.mem_of_getElem? (i := 4) rfl)) (by decide) (by decide)) q173a q173c (g := (mkF m 93 #[.val (.int p1), .val (.int (5 : Int32)), .val (.ref b1), .val (.ref e_5), .val (.int (1 : Int32))] [(.ref e_5)])) rfl (by rw [hml]; rfl) (Steps.refl _) (argsL := []) (rest := []) (lenOf own_pd0_0 rfl) rfl (by show 2 * 0 + _ ≤ _; exact Nat.le_of_eq rfl) (hb hby at_93) (fun _ _ => ⟨rfl, e145, (by decide : 1 + 0 ≤ _), (by decide : 8 + 0 ≤ _)⟩))
    obtain ⟨rfl, N173q, e173⟩ := hQ173
    obtain ⟨lc173, X173, N173⟩ := own_loc X173 (Fr.app N145 N173q)
    refine own_st (T' := T173) (g' := (mkF m 96 #[.val (.int p1), .val (.int (5 : Int32)), .val (.ref b1), .val (.ref e_5), .val (.int (1 : Int32))] [(.int (own_g e_5 e_2 e_0))])) (fun _ k => (st173) _ k) ?_
    refine own_st (T' := T173) (g' := (mkF m 98 #[.val (.int p1), .val (.int (5 : Int32)), .val (.ref b1), .val (.ref e_5), .val (.int (1 : Int32))] [(.int (1 : Int32)), (.int (own_g e_5 e_2 e_0))])) (fun _ k => Jvm.Free.XS.iload (g := (mkF m 96 #[.val (.int p1), .val (.int (5 : Int32)), .val (.ref b1), .val (.ref e_5), .val (.int (1 : Int32))] [(.int (own_g e_5 e_2 e_0))])) X173.here hx rfl (hb hby at_96) rfl k) ?_
    refine own_st (T' := T173) (g' := (mkF m 101 #[.val (.int p1), .val (.int (5 : Int32)), .val (.ref b1), .val (.ref e_5), .val (.int (1 : Int32))] [])) (fun _ k => XS.icmpNo (g := (mkF m 98 #[.val (.int p1), .val (.int (5 : Int32)), .val (.ref b1), .val (.ref e_5), .val (.int (1 : Int32))] [(.int (1 : Int32)), (.int (own_g e_5 e_2 e_0))])) X173.here hx rfl (hb hby at_98) rfl (teq ((if_neg hv5).trans (if_neg hb5))).2 k) ?_
    refine own_st (T' := T173) (g' := (mkF m 102 #[.val (.int p1), .val (.int (5 : Int32)), .val (.ref b1), .val (.ref e_5), .val (.int (1 : Int32))] [(.int (1 : Int32))])) (fun _ k => XS.iconst (g := (mkF m 101 #[.val (.int p1), .val (.int (5 : Int32)), .val (.ref b1), .val (.ref e_5), .val (.int (1 : Int32))] [])) X173.here hx rfl (hb hby at_101) k) ?_
    refine own_st (T' := T173) (g' := (mkF m 106 #[.val (.int p1), .val (.int (5 : Int32)), .val (.ref b1), .val (.ref e_5), .val (.int (1 : Int32))] [(.int (1 : Int32))])) (fun _ k => XS.goto (g := (mkF m 102 #[.val (.int p1), .val (.int (5 : Int32)), .val (.ref b1), .val (.ref e_5), .val (.int (1 : Int32))] [(.int (1 : Int32))])) X173.here hx rfl (pc0 := 102) (pc' := 106) rfl (hb hby at_102) (by decide) (by decide) k) ?_
    exact own_end (Q := Q0 Z p1 h0 n0) (v := some (.int (nar .boolean (1 : Int32)))) X173 (fun h => by rw [Bd.returns] at h; cases h) (fun fs hr => retN X173 hx (t := .boolean) Bd.returns (by simp) (hb hby at_106) hr) (⟨rfl, N173⟩) (by decide) (by decide)
  · refine own_st (T' := T145) (g' := (mkF m 65 #[.val (.int p1), .val (.int (6 : Int32)), .val (.ref b1), .unset, .unset] [(.ref b1)])) (fun _ k => Jvm.Free.XS.aloadN (g := (mkF m 64 #[.val (.int p1), .val (.int (6 : Int32)), .val (.ref b1), .unset, .unset] [])) X145.here hx rfl (hb hby at_64) rfl rfl k) ?_
    refine own_st (T' := T145) (g' := (mkF m 66 #[.val (.int p1), .val (.int (6 : Int32)), .val (.ref b1), .unset, .unset] [(.int (6 : Int32)), (.ref b1)])) (fun _ k => Jvm.Free.XS.iloadN (g := (mkF m 65 #[.val (.int p1), .val (.int (6 : Int32)), .val (.ref b1), .unset, .unset] [(.ref b1)])) X145.here hx rfl (hb hby at_65) rfl k) ?_
    obtain ⟨cl174, Ar174, -, Sz174, Nn174, Hs174, Gs174⟩ := id V145
    have hin174 : ¬ ((6 : Int32) < 0 ∨ cl174.slots.size ≤ ((6 : Int32)).toNatClampNeg) := inb_of Sz174 ⟨by decide, by decide⟩
    have hat174 : cl174.slots[((6 : Int32)).toNatClampNeg]? = some (.ref e_6) := Has.at Hs174 hin174 rfl
    refine own_st (T' := T145) (g' := (mkF m 67 #[.val (.int p1), .val (.int (6 : Int32)), .val (.ref b1), .unset, .unset] [(.ref e_6)])) (fun _ k => (X145.aaload hx (j := (6 : Int32)) (v := (.ref e_6)) (by rw [e145]; exact Ar174.1) (State.isArrayOf_alike hZ.alike Ar174.2.1) rfl Ar174.2.2 hin174 hat174 (g := (mkF m 66 #[.val (.int p1), .val (.int (6 : Int32)), .val (.ref b1), .unset, .unset] [(.int (6 : Int32)), (.ref b1)])) rfl rfl (hb hby at_66)) _ k) ?_
    refine own_st (T' := T145) (g' := (mkF m 68 #[.val (.int p1), .val (.int (6 : Int32)), .val (.ref b1), .val (.ref e_6), .unset] [])) (fun _ k => Jvm.Free.XS.astoreN (g := (mkF m 67 #[.val (.int p1), .val (.int (6 : Int32)), .val (.ref b1), .unset, .unset] [(.ref e_6)])) X145.here hx rfl (hb hby at_67) rfl rfl (l' := #[.val (.int p1), .val (.int (6 : Int32)), .val (.ref b1), .val (.ref e_6), .unset]) rfl k) ?_
    refine own_st (T' := T145) (g' := (mkF m 69 #[.val (.int p1), .val (.int (6 : Int32)), .val (.ref b1), .val (.ref e_6), .unset] [(.int (6 : Int32))])) (fun _ k => Jvm.Free.XS.iloadN (g := (mkF m 68 #[.val (.int p1), .val (.int (6 : Int32)), .val (.ref b1), .val (.ref e_6), .unset] [])) X145.here hx rfl (hb hby at_68) rfl k) ?_
    refine own_st (T' := T145) (g' := (mkF m 78 #[.val (.int p1), .val (.int (6 : Int32)), .val (.ref b1), .val (.ref e_6), .unset] [])) (fun _ k => XS.ifYes (g := (mkF m 69 #[.val (.int p1), .val (.int (6 : Int32)), .val (.ref b1), .val (.ref e_6), .unset] [(.int (6 : Int32))])) X145.here hx rfl (pc0 := 69) (pc' := 78) rfl (hb hby at_69) rfl ((if0 _ _).trans (feq (by decide : ¬ ((6 : Int32) = (0 : Int32)))).2) (by decide) (by decide) k) ?_
    refine own_st (T' := T145) (g' := (mkF m 79 #[.val (.int p1), .val (.int (6 : Int32)), .val (.ref b1), .val (.ref e_6), .unset] [(.int (6 : Int32))])) (fun _ k => Jvm.Free.XS.iloadN (g := (mkF m 78 #[.val (.int p1), .val (.int (6 : Int32)), .val (.ref b1), .val (.ref e_6), .unset] [])) X145.here hx rfl (hb hby at_78) rfl k) ?_
    refine own_st (T' := T145) (g' := (mkF m 80 #[.val (.int p1), .val (.int (6 : Int32)), .val (.ref b1), .val (.ref e_6), .unset] [(.int (2 : Int32)), (.int (6 : Int32))])) (fun _ k => XS.iconst (g := (mkF m 79 #[.val (.int p1), .val (.int (6 : Int32)), .val (.ref b1), .val (.ref e_6), .unset] [(.int (6 : Int32))])) X145.here hx rfl (hb hby at_79) k) ?_
    refine own_st (T' := T145) (g' := (mkF m 89 #[.val (.int p1), .val (.int (6 : Int32)), .val (.ref b1), .val (.ref e_6), .unset] [])) (fun _ k => XS.icmpYes (g := (mkF m 80 #[.val (.int p1), .val (.int (6 : Int32)), .val (.ref b1), .val (.ref e_6), .unset] [(.int (2 : Int32)), (.int (6 : Int32))])) X145.here hx rfl (pc0 := 80) (pc' := 89) rfl (hb hby at_80) rfl (feq (by decide : ¬ ((6 : Int32) = (2 : Int32)))).2 (by decide) (by decide) k) ?_
    refine own_st (T' := T145) (g' := (mkF m 90 #[.val (.int p1), .val (.int (6 : Int32)), .val (.ref b1), .val (.ref e_6), .unset] [(.int (1 : Int32))])) (fun _ k => XS.iconst (g := (mkF m 89 #[.val (.int p1), .val (.int (6 : Int32)), .val (.ref b1), .val (.ref e_6), .unset] [])) X145.here hx rfl (hb hby at_89) k) ?_
    refine own_st (T' := T145) (g' := (mkF m 92 #[.val (.int p1), .val (.int (6 : Int32)), .val (.ref b1), .val (.ref e_6), .val (.int (1 : Int32))] [])) (fun _ k => Jvm.Free.XS.istore (g := (mkF m 90 #[.val (.int p1), .val (.int (6 : Int32)), .val (.ref b1), .val (.ref e_6), .unset] [(.int (1 : Int32))])) X145.here hx rfl (hb hby at_90) rfl (l' := #[.val (.int p1), .val (.int (6 : Int32)), .val (.ref b1), .val (.ref e_6), .val (.int (1 : Int32))]) rfl k) ?_
    refine own_st (T' := T145) (g' := (mkF m 93 #[.val (.int p1), .val (.int (6 : Int32)), .val (.ref b1), .val (.ref e_6), .val (.int (1 : Int32))] [(.ref e_6)])) (fun _ k => Jvm.Free.XS.aloadN (g := (mkF m 92 #[.val (.int p1), .val (.int (6 : Int32)), .val (.ref b1), .val (.ref e_6), .val (.int (1 : Int32))] [])) X145.here hx rfl (hb hby at_92) rfl rfl k) ?_
    obtain ⟨cq175, kq175, q175a, q175b, q175c⟩ := isOf hZ e145 Fa159
    obtain ⟨v175, T175, L175, X175, hQ175, st175⟩ := own_packV (X145.virtualBack hx (y := (⟨"com/example/santa_fe/santafe/protocol/ErrorCode", "echoesArguments", "()Z"⟩ : MethodName)) (z := (⟨"com/example/santa_fe/santafe/protocol/ErrorCode", "echoesArguments", "()Z"⟩ : MethodName)) hown (mvT hZ (hw _ (List.mem_of_getElem? (i := 21) rfl))) (mvT hZ (hw _ (List.mem_of_getElem? (i := 22) rfl))) (notFace_of_selects (args := #[]) (mvT hZ (hw _ (List.mem_of_getElem? (i := 24) rfl)))) (mvT hZ (hw _ (List.mem_of_getElem? (i := 24) rfl))) (mvT hZ (hw _ (List.mem_of_getElem? (i := 23) rfl))) (by decide) (backOf (W := 0) (rm1 l Z a0 hw [] e_6 e_2 e_0 h145 n0 Zs145 Fa150 Fa146) hZ (hw _ (List.mem_of_getElem? (i := 25) rfl)) (hw _ (List.mem_of_getElem? (i := 4) rfl)) (by decide) (by decide)) q175a q175c (g := (mkF m 93 #[.val (.int p1), .val (.int (6 : Int32)), .val (.ref b1), .val (.ref e_6), .val (.int (1 : Int32))] [(.ref e_6)])) rfl (by rw [hml]; rfl) (Steps.refl _) (argsL := []) (rest := []) (lenOf own_pd0_0 rfl) rfl (by show 2 * 0 + _ ≤ _; exact Nat.le_of_eq rfl) (hb hby at_93) (fun _ _ => ⟨rfl, e145, (by decide : 1 + 0 ≤ _), (by decide : 8 + 0 ≤ _)⟩))
    obtain ⟨rfl, N175q, e175⟩ := hQ175
    obtain ⟨lc175, X175, N175⟩ := own_loc X175 (Fr.app N145 N175q)
    refine own_st (T' := T175) (g' := (mkF m 96 #[.val (.int p1), .val (.int (6 : Int32)), .val (.ref b1), .val (.ref e_6), .val (.int (1 : Int32))] [(.int (own_g e_6 e_2 e_0))])) (fun _ k => (st175) _ k) ?_
    refine own_st (T' := T175) (g' := (mkF m 98 #[.val (.int p1), .val (.int (6 : Int32)), .val (.ref b1), .val (.ref e_6), .val (.int (1 : Int32))] [(.int (1 : Int32)), (.int (own_g e_6 e_2 e_0))])) (fun _ k => Jvm.Free.XS.iload (g := (mkF m 96 #[.val (.int p1), .val (.int (6 : Int32)), .val (.ref b1), .val (.ref e_6), .val (.int (1 : Int32))] [(.int (own_g e_6 e_2 e_0))])) X175.here hx rfl (hb hby at_96) rfl k) ?_
    refine own_st (T' := T175) (g' := (mkF m 101 #[.val (.int p1), .val (.int (6 : Int32)), .val (.ref b1), .val (.ref e_6), .val (.int (1 : Int32))] [])) (fun _ k => XS.icmpNo (g := (mkF m 98 #[.val (.int p1), .val (.int (6 : Int32)), .val (.ref b1), .val (.ref e_6), .val (.int (1 : Int32))] [(.int (1 : Int32)), (.int (own_g e_6 e_2 e_0))])) X175.here hx rfl (hb hby at_98) rfl (teq ((if_neg hv6).trans (if_neg hb6))).2 k) ?_
    refine own_st (T' := T175) (g' := (mkF m 102 #[.val (.int p1), .val (.int (6 : Int32)), .val (.ref b1), .val (.ref e_6), .val (.int (1 : Int32))] [(.int (1 : Int32))])) (fun _ k => XS.iconst (g := (mkF m 101 #[.val (.int p1), .val (.int (6 : Int32)), .val (.ref b1), .val (.ref e_6), .val (.int (1 : Int32))] [])) X175.here hx rfl (hb hby at_101) k) ?_
    refine own_st (T' := T175) (g' := (mkF m 106 #[.val (.int p1), .val (.int (6 : Int32)), .val (.ref b1), .val (.ref e_6), .val (.int (1 : Int32))] [(.int (1 : Int32))])) (fun _ k => XS.goto (g := (mkF m 102 #[.val (.int p1), .val (.int (6 : Int32)), .val (.ref b1), .val (.ref e_6), .val (.int (1 : Int32))] [(.int (1 : Int32))])) X175.here hx rfl (pc0 := 102) (pc' := 106) rfl (hb hby at_102) (by decide) (by decide) k) ?_
    exact own_end (Q := Q0 Z p1 h0 n0) (v := some (.int (nar .boolean (1 : Int32)))) X175 (fun h => by rw [Bd.returns] at h; cases h) (fun fs hr => retN X175 hx (t := .boolean) Bd.returns (by simp) (hb hby at_106) hr) (⟨rfl, N175⟩) (by decide) (by decide)
  · refine own_st (T' := T145) (g' := (mkF m 65 #[.val (.int p1), .val (.int (7 : Int32)), .val (.ref b1), .unset, .unset] [(.ref b1)])) (fun _ k => Jvm.Free.XS.aloadN (g := (mkF m 64 #[.val (.int p1), .val (.int (7 : Int32)), .val (.ref b1), .unset, .unset] [])) X145.here hx rfl (hb hby at_64) rfl rfl k) ?_
    refine own_st (T' := T145) (g' := (mkF m 66 #[.val (.int p1), .val (.int (7 : Int32)), .val (.ref b1), .unset, .unset] [(.int (7 : Int32)), (.ref b1)])) (fun _ k => Jvm.Free.XS.iloadN (g := (mkF m 65 #[.val (.int p1), .val (.int (7 : Int32)), .val (.ref b1), .unset, .unset] [(.ref b1)])) X145.here hx rfl (hb hby at_65) rfl k) ?_
    obtain ⟨cl176, Ar176, -, Sz176, Nn176, Hs176, Gs176⟩ := id V145
    have hin176 : ¬ ((7 : Int32) < 0 ∨ cl176.slots.size ≤ ((7 : Int32)).toNatClampNeg) := inb_of Sz176 ⟨by decide, by decide⟩
    have hat176 : cl176.slots[((7 : Int32)).toNatClampNeg]? = some (.ref e_7) := Has.at Hs176 hin176 rfl
    refine own_st (T' := T145) (g' := (mkF m 67 #[.val (.int p1), .val (.int (7 : Int32)), .val (.ref b1), .unset, .unset] [(.ref e_7)])) (fun _ k => (X145.aaload hx (j := (7 : Int32)) (v := (.ref e_7)) (by rw [e145]; exact Ar176.1) (State.isArrayOf_alike hZ.alike Ar176.2.1) rfl Ar176.2.2 hin176 hat176 (g := (mkF m 66 #[.val (.int p1), .val (.int (7 : Int32)), .val (.ref b1), .unset, .unset] [(.int (7 : Int32)), (.ref b1)])) rfl rfl (hb hby at_66)) _ k) ?_
    refine own_st (T' := T145) (g' := (mkF m 68 #[.val (.int p1), .val (.int (7 : Int32)), .val (.ref b1), .val (.ref e_7), .unset] [])) (fun _ k => Jvm.Free.XS.astoreN (g := (mkF m 67 #[.val (.int p1), .val (.int (7 : Int32)), .val (.ref b1), .unset, .unset] [(.ref e_7)])) X145.here hx rfl (hb hby at_67) rfl rfl (l' := #[.val (.int p1), .val (.int (7 : Int32)), .val (.ref b1), .val (.ref e_7), .unset]) rfl k) ?_
    refine own_st (T' := T145) (g' := (mkF m 69 #[.val (.int p1), .val (.int (7 : Int32)), .val (.ref b1), .val (.ref e_7), .unset] [(.int (7 : Int32))])) (fun _ k => Jvm.Free.XS.iloadN (g := (mkF m 68 #[.val (.int p1), .val (.int (7 : Int32)), .val (.ref b1), .val (.ref e_7), .unset] [])) X145.here hx rfl (hb hby at_68) rfl k) ?_
    refine own_st (T' := T145) (g' := (mkF m 78 #[.val (.int p1), .val (.int (7 : Int32)), .val (.ref b1), .val (.ref e_7), .unset] [])) (fun _ k => XS.ifYes (g := (mkF m 69 #[.val (.int p1), .val (.int (7 : Int32)), .val (.ref b1), .val (.ref e_7), .unset] [(.int (7 : Int32))])) X145.here hx rfl (pc0 := 69) (pc' := 78) rfl (hb hby at_69) rfl ((if0 _ _).trans (feq (by decide : ¬ ((7 : Int32) = (0 : Int32)))).2) (by decide) (by decide) k) ?_
    refine own_st (T' := T145) (g' := (mkF m 79 #[.val (.int p1), .val (.int (7 : Int32)), .val (.ref b1), .val (.ref e_7), .unset] [(.int (7 : Int32))])) (fun _ k => Jvm.Free.XS.iloadN (g := (mkF m 78 #[.val (.int p1), .val (.int (7 : Int32)), .val (.ref b1), .val (.ref e_7), .unset] [])) X145.here hx rfl (hb hby at_78) rfl k) ?_
    refine own_st (T' := T145) (g' := (mkF m 80 #[.val (.int p1), .val (.int (7 : Int32)), .val (.ref b1), .val (.ref e_7), .unset] [(.int (2 : Int32)), (.int (7 : Int32))])) (fun _ k => XS.iconst (g := (mkF m 79 #[.val (.int p1), .val (.int (7 : Int32)), .val (.ref b1), .val (.ref e_7), .unset] [(.int (7 : Int32))])) X145.here hx rfl (hb hby at_79) k) ?_
    refine own_st (T' := T145) (g' := (mkF m 89 #[.val (.int p1), .val (.int (7 : Int32)), .val (.ref b1), .val (.ref e_7), .unset] [])) (fun _ k => XS.icmpYes (g := (mkF m 80 #[.val (.int p1), .val (.int (7 : Int32)), .val (.ref b1), .val (.ref e_7), .unset] [(.int (2 : Int32)), (.int (7 : Int32))])) X145.here hx rfl (pc0 := 80) (pc' := 89) rfl (hb hby at_80) rfl (feq (by decide : ¬ ((7 : Int32) = (2 : Int32)))).2 (by decide) (by decide) k) ?_
    refine own_st (T' := T145) (g' := (mkF m 90 #[.val (.int p1), .val (.int (7 : Int32)), .val (.ref b1), .val (.ref e_7), .unset] [(.int (1 : Int32))])) (fun _ k => XS.iconst (g := (mkF m 89 #[.val (.int p1), .val (.int (7 : Int32)), .val (.ref b1), .val (.ref e_7), .unset] [])) X145.here hx rfl (hb hby at_89) k) ?_
    refine own_st (T' := T145) (g' := (mkF m 92 #[.val (.int p1), .val (.int (7 : Int32)), .val (.ref b1), .val (.ref e_7), .val (.int (1 : Int32))] [])) (fun _ k => Jvm.Free.XS.istore (g := (mkF m 90 #[.val (.int p1), .val (.int (7 : Int32)), .val (.ref b1), .val (.ref e_7), .unset] [(.int (1 : Int32))])) X145.here hx rfl (hb hby at_90) rfl (l' := #[.val (.int p1), .val (.int (7 : Int32)), .val (.ref b1), .val (.ref e_7), .val (.int (1 : Int32))]) rfl k) ?_
    refine own_st (T' := T145) (g' := (mkF m 93 #[.val (.int p1), .val (.int (7 : Int32)), .val (.ref b1), .val (.ref e_7), .val (.int (1 : Int32))] [(.ref e_7)])) (fun _ k => Jvm.Free.XS.aloadN (g := (mkF m 92 #[.val (.int p1), .val (.int (7 : Int32)), .val (.ref b1), .val (.ref e_7), .val (.int (1 : Int32))] [])) X145.here hx rfl (hb hby at_92) rfl rfl k) ?_
    obtain ⟨cq177, kq177, q177a, q177b, q177c⟩ := isOf hZ e145 Fa161
    obtain ⟨v177, T177, L177, X177, hQ177, st177⟩ := own_packV (X145.virtualBack hx (y := (⟨"com/example/santa_fe/santafe/protocol/ErrorCode", "echoesArguments", "()Z"⟩ : MethodName)) (z := (⟨"com/example/santa_fe/santafe/protocol/ErrorCode", "echoesArguments", "()Z"⟩ : MethodName)) hown (mvT hZ (hw _ (List.mem_of_getElem? (i := 21) rfl))) (mvT hZ (hw _ (List.mem_of_getElem? (i := 22) rfl))) (notFace_of_selects (args := #[]) (mvT hZ (hw _ (List.mem_of_getElem? (i := 24) rfl)))) (mvT hZ (hw _ (List.mem_of_getElem? (i := 24) rfl))) (mvT hZ (hw _ (List.mem_of_getElem? (i := 23) rfl))) (by decide) (backOf (W := 0) (rm1 l Z a0 hw [] e_7 e_2 e_0 h145 n0 Zs145 Fa150 Fa146) hZ (hw _ (List.mem_of_getElem? (i := 25) rfl)) (hw _ (List.mem_of_getElem? (i := 4) rfl)) (by decide) (by decide)) q177a q177c (g := (mkF m 93 #[.val (.int p1), .val (.int (7 : Int32)), .val (.ref b1), .val (.ref e_7), .val (.int (1 : Int32))] [(.ref e_7)])) rfl (by rw [hml]; rfl) (Steps.refl _) (argsL := []) (rest := []) (lenOf own_pd0_0 rfl) rfl (by show 2 * 0 + _ ≤ _; exact Nat.le_of_eq rfl) (hb hby at_93) (fun _ _ => ⟨rfl, e145, (by decide : 1 + 0 ≤ _), (by decide : 8 + 0 ≤ _)⟩))
    obtain ⟨rfl, N177q, e177⟩ := hQ177
    obtain ⟨lc177, X177, N177⟩ := own_loc X177 (Fr.app N145 N177q)
    refine own_st (T' := T177) (g' := (mkF m 96 #[.val (.int p1), .val (.int (7 : Int32)), .val (.ref b1), .val (.ref e_7), .val (.int (1 : Int32))] [(.int (own_g e_7 e_2 e_0))])) (fun _ k => (st177) _ k) ?_
    refine own_st (T' := T177) (g' := (mkF m 98 #[.val (.int p1), .val (.int (7 : Int32)), .val (.ref b1), .val (.ref e_7), .val (.int (1 : Int32))] [(.int (1 : Int32)), (.int (own_g e_7 e_2 e_0))])) (fun _ k => Jvm.Free.XS.iload (g := (mkF m 96 #[.val (.int p1), .val (.int (7 : Int32)), .val (.ref b1), .val (.ref e_7), .val (.int (1 : Int32))] [(.int (own_g e_7 e_2 e_0))])) X177.here hx rfl (hb hby at_96) rfl k) ?_
    refine own_st (T' := T177) (g' := (mkF m 101 #[.val (.int p1), .val (.int (7 : Int32)), .val (.ref b1), .val (.ref e_7), .val (.int (1 : Int32))] [])) (fun _ k => XS.icmpNo (g := (mkF m 98 #[.val (.int p1), .val (.int (7 : Int32)), .val (.ref b1), .val (.ref e_7), .val (.int (1 : Int32))] [(.int (1 : Int32)), (.int (own_g e_7 e_2 e_0))])) X177.here hx rfl (hb hby at_98) rfl (teq ((if_neg hv7).trans (if_neg hb7))).2 k) ?_
    refine own_st (T' := T177) (g' := (mkF m 102 #[.val (.int p1), .val (.int (7 : Int32)), .val (.ref b1), .val (.ref e_7), .val (.int (1 : Int32))] [(.int (1 : Int32))])) (fun _ k => XS.iconst (g := (mkF m 101 #[.val (.int p1), .val (.int (7 : Int32)), .val (.ref b1), .val (.ref e_7), .val (.int (1 : Int32))] [])) X177.here hx rfl (hb hby at_101) k) ?_
    refine own_st (T' := T177) (g' := (mkF m 106 #[.val (.int p1), .val (.int (7 : Int32)), .val (.ref b1), .val (.ref e_7), .val (.int (1 : Int32))] [(.int (1 : Int32))])) (fun _ k => XS.goto (g := (mkF m 102 #[.val (.int p1), .val (.int (7 : Int32)), .val (.ref b1), .val (.ref e_7), .val (.int (1 : Int32))] [(.int (1 : Int32))])) X177.here hx rfl (pc0 := 102) (pc' := 106) rfl (hb hby at_102) (by decide) (by decide) k) ?_
    exact own_end (Q := Q0 Z p1 h0 n0) (v := some (.int (nar .boolean (1 : Int32)))) X177 (fun h => by rw [Bd.returns] at h; cases h) (fun fs hr => retN X177 hx (t := .boolean) Bd.returns (by simp) (hb hby at_106) hr) (⟨rfl, N177⟩) (by decide) (by decide)
set_option maxRecDepth 65536 in
set_option maxHeartbeats 40000000 in
theorem comes_1 {Post : Tables → Env → Array Value → State → Outcome → State → Prop} (hpost : ∀ tb e args s v u, (limb_1_1.after args s (.returned v) u = true ∧ limb_1_2.after args s (.returned v) u = true ∧ True) → FrameEnd s (.returned v) u (Jvm.fieldLocs frame_1_writes args s ++ Jvm.arrayLocs frame_1_arrays args s ++ Jvm.staticLocs frame_1_statics s) 16 128 → Post tb e args s (.returned v) u) :
    ArmFor flags0 classFile x code maxLocals ret World_1 tables_1 room_1 Calls_1 rest_1 Pre_1 Post := by
  intro l hfl _ _ p e ha hc hk s m args below hf hA hF happ hP
  obtain ⟨hcalls, hrest, hpre⟩ := hP
  obtain ⟨-, -, -, hnamed, -, -, -, hat⟩ := (Spec.applies_iff hf).mp happ
  obtain ⟨hg, hn⟩ := and_e (Cond.before_iff.mp (show (Jvm.Cond.and given_1 narrow_1).before args s = true from hpre))
  obtain ⟨hcount, hg0⟩ := and_e hg
  obtain ⟨w0, rfl⟩ : ∃ w0 : Value, args = #[w0] := by
    have hs : args.size = 1 := by simpa [Cond.value, given_1] using hcount
    obtain ⟨L⟩ := args
    match L, hs with
    | [w0], _ => exact ⟨w0, rfl⟩
  have hw := fun d (hd : d ∈ tables_1) => atoms_spec (ws := Jvm.Cond.code x code maxLocals ret :: tables_1) hat d (List.mem_cons_of_mem _ hd)
  obtain ⟨i0, ei0⟩ := is_v hg0
  obtain rfl : w0 = (.int i0) := Option.some.inj ei0
  obtain ⟨na0, hn0⟩ := and_e hn
  obtain ⟨na1, hn1⟩ := and_e hn0
  obtain ⟨na2, hn2⟩ := and_e hn1
  obtain ⟨na3, hn3⟩ := and_e hn2
  obtain ⟨na4, hn4⟩ := and_e hn3
  obtain ⟨na5, hn5⟩ := and_e hn4
  obtain ⟨na6, hn6⟩ := and_e hn5
  obtain ⟨na7, hn7⟩ := and_e hn6
  obtain ⟨na8, hn8⟩ := and_e hn7
  obtain ⟨na9, hn9⟩ := and_e hn8
  obtain ⟨na10, hn10⟩ := and_e hn9
  obtain ⟨na11, hn11⟩ := and_e hn10
  obtain ⟨na12, hn12⟩ := and_e hn11
  obtain ⟨na13, hn13⟩ := and_e hn12
  obtain ⟨na14, hn14⟩ := and_e hn13
  obtain ⟨e_0, ev0⟩ := exa_v na0
  have XE_0 := Exa.start ev0 na0
  have S_0 := Sta.start ev0 (Or.inr ⟨(hw _ (List.mem_of_getElem? (i := 4) rfl)), (hw _ (List.mem_of_getElem? (i := 5) rfl))⟩)
  have O_0 := own_ord ev0 na8
  obtain ⟨e_1, ev1⟩ := exa_v na1
  have XE_1 := Exa.start ev1 na1
  have S_1 := Sta.start ev1 (Or.inr ⟨(hw _ (List.mem_of_getElem? (i := 4) rfl)), (hw _ (List.mem_of_getElem? (i := 8) rfl))⟩)
  have O_1 := own_ord ev1 na13
  obtain ⟨e_2, ev2⟩ := exa_v na2
  have XE_2 := Exa.start ev2 na2
  have S_2 := Sta.start ev2 (Or.inr ⟨(hw _ (List.mem_of_getElem? (i := 4) rfl)), (hw _ (List.mem_of_getElem? (i := 10) rfl))⟩)
  have O_2 := own_ord ev2 na9
  obtain ⟨e_3, ev3⟩ := exa_v na3
  have XE_3 := Exa.start ev3 na3
  have S_3 := Sta.start ev3 (Or.inr ⟨(hw _ (List.mem_of_getElem? (i := 4) rfl)), (hw _ (List.mem_of_getElem? (i := 12) rfl))⟩)
  have O_3 := own_ord ev3 na10
  obtain ⟨e_4, ev4⟩ := exa_v na4
  have XE_4 := Exa.start ev4 na4
  have S_4 := Sta.start ev4 (Or.inr ⟨(hw _ (List.mem_of_getElem? (i := 4) rfl)), (hw _ (List.mem_of_getElem? (i := 14) rfl))⟩)
  have O_4 := own_ord ev4 na14
  obtain ⟨e_5, ev5⟩ := exa_v na5
  have XE_5 := Exa.start ev5 na5
  have S_5 := Sta.start ev5 (Or.inr ⟨(hw _ (List.mem_of_getElem? (i := 4) rfl)), (hw _ (List.mem_of_getElem? (i := 16) rfl))⟩)
  have O_5 := own_ord ev5 hn14
  obtain ⟨e_6, ev6⟩ := exa_v na6
  have XE_6 := Exa.start ev6 na6
  have S_6 := Sta.start ev6 (Or.inr ⟨(hw _ (List.mem_of_getElem? (i := 4) rfl)), (hw _ (List.mem_of_getElem? (i := 18) rfl))⟩)
  have O_6 := own_ord ev6 na11
  obtain ⟨e_7, ev7⟩ := exa_v na7
  have XE_7 := Exa.start ev7 na7
  have S_7 := Sta.start ev7 (Or.inr ⟨(hw _ (List.mem_of_getElem? (i := 4) rfl)), (hw _ (List.mem_of_getElem? (i := 20) rfl))⟩)
  have O_7 := own_ord ev7 na12
  have hv0 : ¬ e_0 = e_2 := O_0.ne O_2 (fun q => absurd (Value.int.inj q) (by decide))
  have hv1 : ¬ e_1 = e_2 := O_1.ne O_2 (fun q => absurd (Value.int.inj q) (by decide))
  have hv3 : ¬ e_3 = e_2 := O_3.ne O_2 (fun q => absurd (Value.int.inj q) (by decide))
  have hv4 : ¬ e_4 = e_2 := O_4.ne O_2 (fun q => absurd (Value.int.inj q) (by decide))
  have hv5 : ¬ e_5 = e_2 := O_5.ne O_2 (fun q => absurd (Value.int.inj q) (by decide))
  have hv6 : ¬ e_6 = e_2 := O_6.ne O_2 (fun q => absurd (Value.int.inj q) (by decide))
  have hv7 : ¬ e_7 = e_2 := O_7.ne O_2 (fun q => absurd (Value.int.inj q) (by decide))
  have hb1 : ¬ e_1 = e_0 := O_1.ne O_0 (fun q => absurd (Value.int.inj q) (by decide))
  have hb2 : ¬ e_2 = e_0 := O_2.ne O_0 (fun q => absurd (Value.int.inj q) (by decide))
  have hb3 : ¬ e_3 = e_0 := O_3.ne O_0 (fun q => absurd (Value.int.inj q) (by decide))
  have hb4 : ¬ e_4 = e_0 := O_4.ne O_0 (fun q => absurd (Value.int.inj q) (by decide))
  have hb5 : ¬ e_5 = e_0 := O_5.ne O_0 (fun q => absurd (Value.int.inj q) (by decide))
  have hb6 : ¬ e_6 = e_0 := O_6.ne O_0 (fun q => absurd (Value.int.inj q) (by decide))
  have hb7 : ¬ e_7 = e_0 := O_7.ne O_0 (fun q => absurd (Value.int.inj q) (by decide))
  obtain ⟨n, o, h1, h2, h3, _, L, rfl, ⟨rfl, N⟩, hq⟩ := rm0 l s _ hw tables_1 i0 e_0 e_1 e_2 e_3 e_4 e_5 e_6 e_7 s.heap s.heap.size (Nat.le_refl _) S_0 S_1 S_2 S_3 S_4 S_5 S_6 S_7 XE_0 XE_1 XE_2 XE_3 XE_4 XE_5 XE_6 XE_7 hv0 hv1 hv3 hv4 hv5 hv6 hv7 hb1 hb2 hb3 hb4 hb5 hb6 hb7 p e ha hc hk s m _ below hf ((Spec.applies_iff_loose hf).mp happ).1 ⟨rfl, State.Warmed39.refl s, rfl⟩ trivial
  refine ⟨n, _, h1, h2, h3, hpost _ _ _ _ _ _ ⟨Cond.after_iff.mpr rfl, Cond.after_iff.mpr (eq_i res_at (Term.int_eval (1)) rfl), trivial⟩ ⟨hq.1, hq.2.1, (hq.2.2.sift fun y hy => Or.inr (N y hy)).mono (by decide) (by decide)⟩⟩
theorem main_1_1 : Claimed_1_1 := comes_1 fun _ _ _ _ _ _ h hF => ⟨h.1, hF⟩
theorem main_1_2 : Claimed_1_2 := comes_1 fun _ _ _ _ _ _ h hF => ⟨h.2.1, hF⟩
end Jvm.Pilot.@@N@@
namespace Jvm.Pilot.@@N@@
open Jvm Jvm.ClassFile Sem Op Lib Jvm.Free Jvm.Stand Jvm.Pilot.@@N@@.Jvm.D
/-! MADE BY PROGRAM (witnessworld.py) out of the Statement's table words and the real class files: 13 classes; the members and pool entries that the words name. The judged class is class 1, her method 1. -/
namespace start1
open Jvm.ClassFile
def u (s : String) : CpInfo := .utf8 (stringToUtf16 s)
/-- a pool by its gaps: so many unusable entries, then the entry; so many at the end -/
def gap : Nat → List CpInfo → List CpInfo
  | 0, r => r
  | n + 1, r => .unusable :: gap n r
def poolList (es : List (Nat × CpInfo)) (last : Nat) : List CpInfo := es.foldr (fun e r => gap e.1 (e.2 :: r)) (gap last [])
def pool (es : List (Nat × CpInfo)) (last : Nat) : Array CpInfo := ⟨poolList es last⟩
def fileOf (pool : Array CpInfo) (this : Nat) (attrs : Array Attribute := #[]) (ms : Array MethodInfo := #[]) (fl : Nat := 33) (sup : Nat := 0) (ifs : Array Nat := #[]) (fds : Array FieldInfo := #[]) : ClassFile where
  minorVersion := 0
  majorVersion := 65
  constantPool := pool
  accessFlags := fl
  thisClass := this
  superClass := sup
  interfaces := ifs
  fields := fds
  methods := ms
  attributes := attrs
def plain (name : String) (sup : Option ClassId) : Class where
  name := name
  kind := .ordinary
  loader := none
  accessFlags := 33
  super := sup
  interfaces := #[]
  cf := none
  fields := #[]
  methods := #[]
  instanceTypes := #[]
  staticTypes := #[]
  resolved := #[]
  callSites := []
  init := .initialized
  statics := none
  mirror := none

def pool0 : Array CpInfo := pool [(5, u "<init>"), (0, u "()V"), (1, .class_ 10), (1, u "java/lang/Object")] 113

def k0m0 : Method := { name := "<init>", desc := "()V", sig := { parameters := [], returnType := none }, accessFlags := 1, code := none }
/-- java/lang/Object -/
def k0 : Class := { plain "java/lang/Object" none with
  accessFlags := 33
  interfaces := #[]
  cf := some (fileOf pool0 8 #[] #[{ accessFlags := 1, nameIndex := 5, descriptorIndex := 6, attributes := #[] }] 33 0 #[] #[])
  fields := #[]
  methods := #[k0m0]
  instanceTypes := #[]
  staticTypes := #[]
  resolved := Array.replicate 124 none
  statics := none }

def pool1 : Array CpInfo := pool [(2, .class_ 4), (1, u "java/lang/Object"), (0, u "<init>"), (0, u "()V"), (0, .integer 2147483647), (0, .class_ 9), (0, u "com/example/santa_fe/santafe/protocol/ErrorCode"), (0, .fieldref 8 11), (0, .nameAndType 12 13), (0, u "BAD_ARGUMENT"), (0, u "Lcom/example/santa_fe/santafe/protocol/ErrorCode;"), (0, .fieldref 8 15), (0, .nameAndType 16 13), (0, u "BAD_RESUMPTION_TOKEN"), (0, .fieldref 8 18), (0, .nameAndType 19 13), (0, u "BAD_VERB"), (0, .fieldref 8 21), (0, .nameAndType 22 13), (0, u "CANNOT_DISSEMINATE_FORMAT"), (0, .fieldref 8 24), (0, .nameAndType 25 13), (0, u "ID_DOES_NOT_EXIST"), (0, .fieldref 8 27), (0, .nameAndType 28 13), (0, u "NO_RECORDS_MATCH"), (0, .fieldref 8 30), (0, .nameAndType 31 13), (0, u "NO_METADATA_FORMATS"), (0, .fieldref 8 33), (0, .nameAndType 34 13), (0, u "NO_SET_HIERARCHY"), (0, .methodref 8 36), (0, .nameAndType 37 38), (0, u "echoesArguments"), (0, u "()Z"), (0, .class_ 40), (0, u "com/example/santa_fe/santafe/protocol/ErrorCodeEchoesArgumentsPinLaw"), (2, u "law"), (0, u "(I)Z")] 5

def k1m0 : Method := { name := "<init>", desc := "()V", sig := { parameters := [], returnType := none }, accessFlags := 2, code := none }
def k1c1 : Code := { maxStack := 4, maxLocals := 5, code := code, exceptionTable := #[], attributes := #[] }
def k1m1 : Method := { name := "law", desc := "(I)Z", sig := { parameters := [.int], returnType := some .boolean }, accessFlags := 9, code := some k1c1 }
/-- com/example/santa_fe/santafe/protocol/ErrorCodeEchoesArgumentsPinLaw -/
def k1 : Class := { plain "com/example/santa_fe/santafe/protocol/ErrorCodeEchoesArgumentsPinLaw" (some 0) with
  accessFlags := 49
  interfaces := #[]
  cf := some (fileOf pool1 39 #[] #[{ accessFlags := 2, nameIndex := 5, descriptorIndex := 6, attributes := #[] }, { accessFlags := 9, nameIndex := 43, descriptorIndex := 44, attributes := #[] }] 49 2 #[] #[])
  fields := #[]
  methods := #[k1m0, k1m1]
  instanceTypes := #[]
  staticTypes := #[]
  resolved := Array.replicate 50 none
  statics := none }

def pool2 : Array CpInfo := pool [(1, .class_ 2), (0, u "java/lang/constant/Constable"), (0, .class_ 4), (0, u "java/lang/Object")] 6

/-- java/lang/constant/Constable -/
def k2 : Class := { plain "java/lang/constant/Constable" (some 0) with
  accessFlags := 1537
  interfaces := #[]
  cf := some (fileOf pool2 1 #[] #[] 1537 3 #[] #[])
  fields := #[]
  methods := #[]
  instanceTypes := #[]
  staticTypes := #[]
  resolved := Array.replicate 11 none
  statics := none }

def pool3 : Array CpInfo := pool [(1, .class_ 2), (0, u "java/lang/Comparable"), (0, .class_ 4), (0, u "java/lang/Object")] 7

/-- java/lang/Comparable -/
def k3 : Class := { plain "java/lang/Comparable" (some 0) with
  accessFlags := 1537
  interfaces := #[]
  cf := some (fileOf pool3 1 #[] #[] 1537 3 #[] #[])
  fields := #[]
  methods := #[]
  instanceTypes := #[]
  staticTypes := #[]
  resolved := Array.replicate 12 none
  statics := none }

def pool4 : Array CpInfo := pool [(1, .class_ 2), (0, u "java/io/Serializable"), (0, .class_ 4), (0, u "java/lang/Object")] 2

/-- java/io/Serializable -/
def k4 : Class := { plain "java/io/Serializable" (some 0) with
  accessFlags := 1537
  interfaces := #[]
  cf := some (fileOf pool4 1 #[] #[] 1537 3 #[] #[])
  fields := #[]
  methods := #[]
  instanceTypes := #[]
  staticTypes := #[]
  resolved := Array.replicate 7 none
  statics := none }

def pool5 : Array CpInfo := pool [(2, .class_ 4), (1, u "java/lang/Enum"), (0, u "name"), (0, u "Ljava/lang/String;"), (2, u "ordinal"), (0, u "I"), (1, .class_ 14), (1, u "java/lang/Object"), (4, u "hash"), (86, .class_ 108), (1, u "java/lang/Enum$EnumDesc"), (2, .class_ 112), (0, u "java/lang/constant/Constable"), (0, .class_ 114), (0, u "java/lang/Comparable"), (0, .class_ 116), (0, u "java/io/Serializable")] 87

/-- java/lang/Enum -/
def k5 : Class := { plain "java/lang/Enum" (some 0) with
  accessFlags := 1057
  interfaces := #[2, 3, 4]
  cf := some (fileOf pool5 2 #[.nestMembers #[106]] #[] 1057 12 #[111, 113, 115] #[{ accessFlags := 18, nameIndex := 5, descriptorIndex := 6, attributes := #[] }, { accessFlags := 18, nameIndex := 9, descriptorIndex := 10, attributes := #[] }, { accessFlags := 2, nameIndex := 19, descriptorIndex := 10, attributes := #[] }])
  fields := #[{ name := "name", type := (.object "java/lang/String"), accessFlags := 18, slot := 0, constantValue := 0 }, { name := "ordinal", type := .int, accessFlags := 18, slot := 1, constantValue := 0 }, { name := "hash", type := .int, accessFlags := 2, slot := 2, constantValue := 0 }]
  methods := #[]
  instanceTypes := #[(.object "java/lang/String"), .int, .int]
  staticTypes := #[]
  resolved := Array.replicate 204 none
  statics := none }

def pool6 : Array CpInfo := pool [(1, .class_ 2), (0, u "com/example/santa_fe/santafe/protocol/ErrorCode"), (0, .fieldref 1 4), (0, .nameAndType 5 6), (0, u "BAD_ARGUMENT"), (0, u "Lcom/example/santa_fe/santafe/protocol/ErrorCode;"), (2, u "BAD_RESUMPTION_TOKEN"), (0, .fieldref 1 11), (0, .nameAndType 12 6), (0, u "BAD_VERB"), (2, u "CANNOT_DISSEMINATE_FORMAT"), (2, u "ID_DOES_NOT_EXIST"), (2, u "NO_RECORDS_MATCH"), (2, u "NO_METADATA_FORMATS"), (2, u "NO_SET_HIERARCHY"), (2, u "$VALUES"), (0, u "[Lcom/example/santa_fe/santafe/protocol/ErrorCode;"), (6, .class_ 40), (1, u "java/lang/Enum"), (8, u "code"), (0, u "Ljava/lang/String;"), (39, u "echoesArguments"), (0, u "()Z")] 6

def k6c0 : Code := { maxStack := 2, maxLocals := 1, code := prog_18_method_5_code, exceptionTable := #[], attributes := #[] }
def k6m0 : Method := { name := "echoesArguments", desc := "()Z", sig := { parameters := [], returnType := some .boolean }, accessFlags := 1, code := some k6c0 }
/-- com/example/santa_fe/santafe/protocol/ErrorCode -/
def k6 : Class := { plain "com/example/santa_fe/santafe/protocol/ErrorCode" (some 5) with
  accessFlags := 16433
  interfaces := #[]
  cf := some (fileOf pool6 1 #[] #[{ accessFlags := 1, nameIndex := 90, descriptorIndex := 91, attributes := #[] }] 16433 38 #[] #[{ accessFlags := 16409, nameIndex := 5, descriptorIndex := 6, attributes := #[] }, { accessFlags := 16409, nameIndex := 9, descriptorIndex := 6, attributes := #[] }, { accessFlags := 16409, nameIndex := 12, descriptorIndex := 6, attributes := #[] }, { accessFlags := 16409, nameIndex := 15, descriptorIndex := 6, attributes := #[] }, { accessFlags := 16409, nameIndex := 18, descriptorIndex := 6, attributes := #[] }, { accessFlags := 16409, nameIndex := 21, descriptorIndex := 6, attributes := #[] }, { accessFlags := 16409, nameIndex := 24, descriptorIndex := 6, attributes := #[] }, { accessFlags := 16409, nameIndex := 27, descriptorIndex := 6, attributes := #[] }, { accessFlags := 18, nameIndex := 49, descriptorIndex := 50, attributes := #[] }, { accessFlags := 4122, nameIndex := 30, descriptorIndex := 31, attributes := #[] }])
  fields := #[{ name := "BAD_ARGUMENT", type := (.object "com/example/santa_fe/santafe/protocol/ErrorCode"), accessFlags := 16409, slot := 0, constantValue := 0 }, { name := "BAD_RESUMPTION_TOKEN", type := (.object "com/example/santa_fe/santafe/protocol/ErrorCode"), accessFlags := 16409, slot := 1, constantValue := 0 }, { name := "BAD_VERB", type := (.object "com/example/santa_fe/santafe/protocol/ErrorCode"), accessFlags := 16409, slot := 2, constantValue := 0 }, { name := "CANNOT_DISSEMINATE_FORMAT", type := (.object "com/example/santa_fe/santafe/protocol/ErrorCode"), accessFlags := 16409, slot := 3, constantValue := 0 }, { name := "ID_DOES_NOT_EXIST", type := (.object "com/example/santa_fe/santafe/protocol/ErrorCode"), accessFlags := 16409, slot := 4, constantValue := 0 }, { name := "NO_RECORDS_MATCH", type := (.object "com/example/santa_fe/santafe/protocol/ErrorCode"), accessFlags := 16409, slot := 5, constantValue := 0 }, { name := "NO_METADATA_FORMATS", type := (.object "com/example/santa_fe/santafe/protocol/ErrorCode"), accessFlags := 16409, slot := 6, constantValue := 0 }, { name := "NO_SET_HIERARCHY", type := (.object "com/example/santa_fe/santafe/protocol/ErrorCode"), accessFlags := 16409, slot := 7, constantValue := 0 }, { name := "code", type := (.object "java/lang/String"), accessFlags := 18, slot := 3, constantValue := 0 }, { name := "$VALUES", type := (.array (.object "com/example/santa_fe/santafe/protocol/ErrorCode")), accessFlags := 4122, slot := 8, constantValue := 0 }]
  methods := #[k6m0]
  instanceTypes := #[(.object "java/lang/String"), .int, .int, (.object "java/lang/String")]
  staticTypes := #[(.object "com/example/santa_fe/santafe/protocol/ErrorCode"), (.object "com/example/santa_fe/santafe/protocol/ErrorCode"), (.object "com/example/santa_fe/santafe/protocol/ErrorCode"), (.object "com/example/santa_fe/santafe/protocol/ErrorCode"), (.object "com/example/santa_fe/santafe/protocol/ErrorCode"), (.object "com/example/santa_fe/santafe/protocol/ErrorCode"), (.object "com/example/santa_fe/santafe/protocol/ErrorCode"), (.object "com/example/santa_fe/santafe/protocol/ErrorCode"), (.array (.object "com/example/santa_fe/santafe/protocol/ErrorCode"))]
  resolved := Array.replicate 98 none
  statics := some 0 }

def pool7 : Array CpInfo := pool [(1, u "java/lang/Cloneable"), (0, .class_ 1), (0, u "java/lang/Object"), (0, .class_ 3)] 3

/-- java/lang/Cloneable -/
def k7 : Class := { plain "java/lang/Cloneable" (some 0) with
  accessFlags := 1537
  interfaces := #[]
  cf := some (fileOf pool7 2 #[] #[] 1537 4 #[] #[])
  fields := #[]
  methods := #[]
  instanceTypes := #[]
  staticTypes := #[]
  resolved := Array.replicate 8 none
  statics := none }

/-- the primitive byte -/
def k8 : Class := { plain "byte" none with kind := .primitive 'B', accessFlags := 0x411 }
/-- [B -/
def k9 : Class := { plain "[B" (some 0) with kind := .array 8 .byte, interfaces := #[7, 4], accessFlags := 1041 }

/-- the primitive int -/
def k10 : Class := { plain "int" none with kind := .primitive 'I', accessFlags := 0x411 }
/-- [I -/
def k11 : Class := { plain "[I" (some 0) with kind := .array 10 .int, interfaces := #[7, 4], accessFlags := 1041 }

/-- [Lcom/example/santa_fe/santafe/protocol/ErrorCode; -/
def k12 : Class := { plain "[Lcom/example/santa_fe/santafe/protocol/ErrorCode;" (some 0) with kind := .array 6 (.object "com/example/santa_fe/santafe/protocol/ErrorCode"), interfaces := #[7, 4], accessFlags := 1041 }

def heap : Heap := #[{ cls := 6, slots := #[.ref 1, .ref 2, .ref 3, .ref 4, .ref 5, .ref 6, .ref 7, .ref 8, .null], vm := .statics 6 },
  { cls := 6, slots := #[.null, .int 0, .int 0, .null], vm := .none },
  { cls := 6, slots := #[.null, .int 1, .int 0, .null], vm := .none },
  { cls := 6, slots := #[.null, .int 2, .int 0, .null], vm := .none },
  { cls := 6, slots := #[.null, .int 3, .int 0, .null], vm := .none },
  { cls := 6, slots := #[.null, .int 4, .int 0, .null], vm := .none },
  { cls := 6, slots := #[.null, .int 5, .int 0, .null], vm := .none },
  { cls := 6, slots := #[.null, .int 6, .int 0, .null], vm := .none },
  { cls := 6, slots := #[.null, .int 7, .int 0, .null], vm := .none }]
def classes : Array Class := #[k0, k1, k2, k3, k4, k5, k6, k7, k8, k9, k10, k11, k12]
def interned : List (Array UInt16 × Addr) := []
def slotsUsed : Nat := 41
def theMethod : MethodId := ⟨1, 1⟩
def args0 : Array Value := #[.int 5]
def aboutOver (below : List Frame) : State where
  vm := { classes := classes, interned := interned.toArray }
  heap := heap
  slotsUsed := slotsUsed
  threads := #[{ frames := .invoking theMethod args0 :: below }]
def below0 : List Frame := [.native { method := ⟨0, 0⟩, args := #[] }]
def about1 : State := aboutOver below0
def p0 : Program := .bare "" "" ""
def e0 : Env := launch0.env 0 0 0
theorem w_frames : about1.frames = Frame.invoking theMethod args0 :: below0 := rfl
set_option maxRecDepth 65536 in
theorem w_args : argsFit about1.vm theMethod args0 = true := by decide +kernel
set_option maxRecDepth 65536 in
theorem w_heap : heapFits about1 = true := by decide +kernel
set_option maxRecDepth 65536 in
theorem w_runnable : about1.curStatus? = some .runnable := by decide +kernel
set_option maxRecDepth 65536 in
theorem w_alone : about1.alone = true := by decide +kernel
set_option maxRecDepth 65536 in
theorem w_named : about1.methodNamed? x = some theMethod := by decide +kernel
set_option maxRecDepth 65536 in
theorem w_hears : about1.hears theMethod below0 = true := by decide +kernel
set_option maxRecDepth 65536 in
theorem w_ripe : about1.ripe theMethod args0 below0 = true := by decide +kernel
theorem w_running : about1.status = .running := rfl
set_option maxRecDepth 65536 in
theorem w_room : about1.hasRoom e0.platform room_1 = true :=
  launch0.hasRoom_least _ room_1 (by decide +kernel) (by decide +kernel) (by decide +kernel) (by decide +kernel) (by decide +kernel) (by decide +kernel)
theorem allAtoms_all (ts : List Jvm.Cond) (a : Array Jvm.Value) (st : Jvm.State) : (allAtoms ts).before a st = ts.all (fun c => c.before a st) := by
  induction ts with
  | nil => rfl
  | cons c t ih =>
    show (Jvm.Cond.and c (allAtoms t)).before a st = _
    rw [Jvm.Cond.before_and, ih, List.all_cons]
def words1 : List Jvm.Cond := Jvm.Cond.code x code maxLocals ret :: tables_1
/-- a 'code' word, met by the world's own term for the bytes: nothing is compared byte by byte -/
theorem code_word {y : MethodName} {bytes : ByteArray} {mx : Nat} {rt : Option FieldType} {a : Array Value} {s : State} {m : MethodId} {meth : Method} {c : Code} (h1 : s.methodNamed? y = some m) (h2 : s.vm.method? m = some meth) (h3 : meth.code = some c) (h4 : c.code = bytes)
    (h5 : (c.maxLocals == mx && c.exceptionTable.isEmpty && decide (c.maxStack ≤ mostOperands) && decide (meth.sig.returnType = rt) && !meth.locks && decide (parseMethodDescriptor y.desc = some meth.sig)) = true) : (Jvm.Cond.code y bytes mx rt).before a s = true := by
  simp only [Bool.and_eq_true, beq_iff_eq, Bool.not_eq_true', decide_eq_true_eq] at h5
  obtain ⟨⟨⟨⟨⟨g1, g2⟩, g3⟩, g4⟩, g5⟩, g6⟩ := h5
  simp [Cond.before, Cond.holds, Cond.value, h1, h2, h3, h4, g1, g2, g3, g4, g5, g6]
def isCode : Jvm.Cond → Bool
  | .code _ _ _ _ => true
  | _ => false
theorem all_split {L : List Jvm.Cond} {P : Jvm.Cond → Bool} (h1 : L.all (fun c => isCode c || P c) = true) (h2 : ∀ c ∈ L.filter isCode, P c = true) : L.all P = true := by
  refine List.all_eq_true.mpr fun c hc => ?_
  have h := List.all_eq_true.mp h1 c hc
  rcases Bool.eq_false_or_eq_true (isCode c) with hi | hi
  · exact h2 c (List.mem_filter.mpr ⟨hc, hi⟩)
  · simpa [hi] using h
set_option maxRecDepth 65536 in
theorem w_c0 : (Jvm.Cond.code x code maxLocals ret).before args0 about1 = true := code_word (m := ⟨1, 1⟩) (meth := k1m1) (c := k1c1) (by decide +kernel) rfl rfl rfl (by decide +kernel)
set_option maxRecDepth 65536 in
theorem w_c1 : (Jvm.Cond.code ({ cls := "com/example/santa_fe/santafe/protocol/ErrorCode", name := "echoesArguments", desc := "()Z" } : Jvm.MethodName) prog_18_method_5_code (1 : Nat) (Option.some Jvm.ClassFile.FieldType.boolean)).before args0 about1 = true := code_word (m := ⟨6, 0⟩) (meth := k6m0) (c := k6c0) (by decide +kernel) rfl rfl rfl (by decide +kernel)
def codes1 : List Jvm.Cond := [Jvm.Cond.code x code maxLocals ret, Jvm.Cond.code ({ cls := "com/example/santa_fe/santafe/protocol/ErrorCode", name := "echoesArguments", desc := "()Z" } : Jvm.MethodName) prog_18_method_5_code (1 : Nat) (Option.some Jvm.ClassFile.FieldType.boolean)]
set_option maxRecDepth 65536 in
theorem codes_eq : words1.filter isCode = codes1 := rfl
theorem w_codes : ∀ c ∈ words1.filter isCode, c.before args0 about1 = true := by
  rw [codes_eq]
  intro c hc
  simp only [codes1, List.mem_cons, List.not_mem_nil, or_false] at hc
  rcases hc with rfl | rfl
  · exact w_c0
  · exact w_c1
set_option maxRecDepth 65536 in
theorem w_t1 : (words1.take 24).all (fun c => isCode c || c.before args0 about1) = true := by decide +kernel
set_option maxRecDepth 65536 in
theorem w_t2 : (words1.drop 24).all (fun c => isCode c || c.before args0 about1) = true := by decide +kernel
theorem w_tables : (allAtoms (Jvm.Cond.code x code maxLocals ret :: tables_1)).before args0 about1 = true := by
  rw [allAtoms_all]
  show words1.all (fun c => c.before args0 about1) = true
  refine all_split ?_ w_codes
  rw [← List.take_append_drop 24 words1, List.all_append, w_t1, w_t2]
  rfl
set_option maxRecDepth 65536 in
theorem w_case : (Jvm.Cond.and given_1 narrow_1).before args0 about1 = true := by decide +kernel
theorem w_applies : (headSpec (Jvm.Cond.code x code maxLocals ret :: tables_1) room_1).applies x e0.platform about1 = true :=
  (Spec.applies_iff w_frames).mpr ⟨w_running, w_runnable, w_alone, w_named, w_hears, w_ripe, w_room, w_tables⟩
theorem atStart : AtStart classFile x code maxLocals ret World_1 tables_1 room_1 Calls_1 rest_1 Pre_1 launch0 p0 e0 about1 theMethod args0 below0 :=
  ⟨lists_1, trivial, launch0.admits_env _ _ _, launch0.least_env, fairChoices_fair.cas, fairChoices_fair.clock, w_frames, w_args, w_heap, w_applies, trivial, trivial, w_case⟩
end start1
theorem witness_1 : WitnessClaimed_1 := ⟨start1.p0, start1.e0, start1.about1, start1.theMethod, start1.args0, start1.below0, start1.atStart⟩
end Jvm.Pilot.@@N@@
