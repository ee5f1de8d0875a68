import JvmDerived
import JvmDerived.Pilot.@@N@@Statement
import JvmDerived.Pilot.@@N@@Code
set_option linter.unusedVariables false
set_option linter.unusedSimpArgs false
namespace Jvm.RoadKit
open Sem ClassFile Op Lib Jvm.Stand Jvm.Free Jvm.LawKit
section New
variable {p : Program} {l : Launch} {e : Env} {R : Room} {s : State} {m : MethodId} {args : Array Value} {below : List Frame} {meth : Method} {c : Code} {T : State} {locs : List Loc} {cells slots : Nat}
theorem retI (X : Stand p l e R s m args below meth c T locs cells slots) (hx : p.tables.exec = Jvm.exec) {pc : Nat} {Ls : Array Slot} {z : Int32} {rest : List Value} (hret : meth.sig.returnType = some .int) (hd : decode c.code pc = .ok (.ireturn, 1)) {fs : List Frame}
    (hl : ∀ (f : JFrame) (acts : List Action), f.method = m → f.locked = none → f.entered = [] → (doReturn e (T.setTop f) acts (some (.int z))).1 = T.setFrames fs) : Steps p.tables e below (T.setTop (mkF m pc Ls (.int z :: rest))) (T.setFrames fs) := by
  have hm' : T.vm.method? m = some meth := X.method'
  have hn : narrow .int (.int z) = .int z := rfl
  show Steps p.tables e below (T.setTop { method := m, pc := pc, locals := Ls, stack := _ :: rest, locked := none }) _
  jvm_step X.here [X.here.top, hx, hd, hm', hret, hn]
  first | (intro acts; rw [hl _ acts rfl rfl rfl]) | rw [hl _ _ rfl rfl rfl]
  exact Steps.refl _
end New
end Jvm.RoadKit
namespace Jvm.Pilot.@@N@@
open Jvm Jvm.ClassFile Sem Op Lib Jvm.Free Jvm.Stand Jvm.LawKit Jvm.RoadKit Bundle Jvm.Pilot.@@N@@.Jvm.D
/-- from the frame g on the run comes to an end that Q says -/
def own_Goes (p : Program) (e : Env) (below : List Frame) (Q : Outcome → State → Prop) (T : State) (g : JFrame) : Prop :=
  ∃ s₂ o, Steps p.tables e below (T.setTop g) s₂ ∧ s₂.status = .running ∧ Ended s₂ below o ∧ Q o s₂
theorem own_st {p : Program} {e : Env} {below : List Frame} {Q : Outcome → State → Prop} {T T' : State} {g g' : JFrame}
    (h : ∀ t, Steps p.tables e below (T'.setTop g') t → Steps p.tables e below (T.setTop g) t) (k : own_Goes p e below Q T' g') : own_Goes p e below Q T g := by
  obtain ⟨s₂, o, h1, h2⟩ := k
  exact ⟨s₂, o, h _ h1, h2⟩
theorem own_end {p : Program} {l : Launch} {e : Env} {R : Room} {s : State} {m : MethodId} {args : Array Value} {below : List Frame} {meth : Method} {c : Code} {T : State} {locs : List Loc} {cells slots : Nat} {C S : Nat} {Q : Option Value → Heap → List Loc → Prop} {g : JFrame} {v : Option Value}
    (X : Stand p l e R s m args below meth c T locs cells slots) (hv : meth.sig.returnType = none → v = none)
    (hret : ∀ fs, (∀ (f : JFrame) (acts : List Action), f.method = m → f.locked = none → f.entered = [] → (doReturn e (T.setTop f) acts v).1 = T.setFrames fs) → Steps p.tables e below (T.setTop g) (T.setFrames fs))
    (hQ : Q v T.heap locs) (hC : cells ≤ C) (hS : slots ≤ S) (hlocks : meth.locks = false := by first | assumption) :
    own_Goes p e below (fun o U' => ∃ v L, o = .returned v ∧ Q v U'.heap L ∧ FrameEnd s o U' L C S) T g := by
  obtain ⟨fs, hr, hrun, hended, hW, hsame⟩ := X.leave (v := v) hv hlocks
  exact ⟨_, _, hret fs hr, hrun, hended, _, _, rfl, hQ, ⟨_, rfl⟩, hW, hsame.mono hC hS⟩
theorem own_selP {s : State} {args : Array Value} {y : MethodName} {n : Nat} (wi : (Cond.instantiable y.cls n).before args s = true) (hpriv : s.PrivateAt y) (hinst : (Cond.instanceMethod y).before args s = true)
    (hy : y.cls ≠ "java/lang/invoke/MethodHandle" ∧ y.cls ≠ "java/lang/invoke/VarHandle") : (Cond.selects y.cls y y).before args s = true := by
  obtain ⟨c, k, hc, hk, -, hi, -, -⟩ := Cond.instantiable_spec wi
  exact Jvm.Stand.selects_self_of_private hc hk (Bool.or_eq_false_iff.mp hi).1 hpriv hinst hy
/-- what a call by a contract leaves, its counters put in -/
theorem own_packS {p : Program} {l : Launch} {e : Env} {R : Room} {s : State} {m : MethodId} {args : Array Value} {below : List Frame} {meth : Method} {c : Code} {T : State} {locs : List Loc} {cells slots rc rs : Nat} {Q : Option Value → Heap → List Loc → Prop} {g : JFrame} {rest : List Value}
    (h : ∃ (v : Option Value) (vm₁ : Vm) (B : Pt), s.WarmedH vm₁ ∧ Stand p l e R s m args below meth c B.U B.locs B.cells B.slots ∧ (∃ L, Q v B.U.heap L ∧ B.locs = locs ++ L ∧ B.cells = cells + rc ∧ B.slots = slots + rs) ∧ ∀ target, Steps p.tables e below (B.U.setTop { g with pc := g.pc + 3, stack := v.toList ++ rest }) target → Steps p.tables e below (T.setTop g) target) :
    ∃ (v : Option Value) (T' : State) (L : List Loc), Stand p l e R s m args below meth c T' (locs ++ L) (cells + rc) (slots + rs) ∧ Q v T'.heap L ∧ ∀ target, Steps p.tables e below (T'.setTop { g with pc := g.pc + 3, stack := v.toList ++ rest }) target → Steps p.tables e below (T.setTop g) target := by
  obtain ⟨v, vm₁, ⟨T', L', k', n'⟩, -, X', ⟨Lc, hq, l, y, z⟩, st⟩ := h
  subst l y z
  exact ⟨v, T', Lc, X', hq, st⟩
theorem own_packV {p : Program} {l : Launch} {e : Env} {R : Room} {s : State} {m : MethodId} {args : Array Value} {below : List Frame} {meth : Method} {c : Code} {T : State} {locs : List Loc} {cells slots rc rs : Nat} {Q : Option Value → Heap → List Loc → Prop} {g : JFrame} {rest : List Value}
    (h : ∃ (v : Option Value) (vm₁ : Vm) (B : Pt), s.WarmedH vm₁ ∧ Stand p l e R s m args below meth c B.U B.locs B.cells B.slots ∧ (∃ L, Q v B.U.heap L ∧ B.locs = locs ++ L ∧ B.cells = cells + rc ∧ B.slots = slots + rs) ∧ Steps p.tables e below (T.setTop g) (B.U.setTop { g with pc := g.pc + 3, stack := v.toList ++ rest })) :
    ∃ (v : Option Value) (T' : State) (L : List Loc), Stand p l e R s m args below meth c T' (locs ++ L) (cells + rc) (slots + rs) ∧ Q v T'.heap L ∧ ∀ target, Steps p.tables e below (T'.setTop { g with pc := g.pc + 3, stack := v.toList ++ rest }) target → Steps p.tables e below (T.setTop g) target := by
  obtain ⟨v, vm₁, ⟨T', L', k', n'⟩, -, X', ⟨Lc, hq, l, y, z⟩, st⟩ := h
  subst l y z
  exact ⟨v, T', Lc, X', hq, fun _ k => st.trans k⟩
/-- the written places, their list forgotten -/
theorem own_loc {p : Program} {l : Launch} {e : Env} {R : Room} {s : State} {m : MethodId} {args : Array Value} {below : List Frame} {meth : Method} {c : Code} {T : State} {locs : List Loc} {cells slots k : Nat}
    (X : Stand p l e R s m args below meth c T locs cells slots) (N : Fr k locs) : ∃ locs', Stand p l e R s m args below meth c T locs' cells slots ∧ Fr k locs' := ⟨_, X, N⟩

theorem own_and (x : Int32) : 0 ≤ (x &&& 2147483647).toInt := by
  have := (c_and x 2147483647 (by decide)).1; exact this
theorem own_rem (x d : Int32) (h0 : 0 ≤ x.toInt) (hd : 0 < d.toInt) : (x - (x / d) * d).toInt = x.toInt % d.toInt ∧ 0 ≤ (x - (x / d) * d).toInt ∧ (x - (x / d) * d).toInt < d.toInt := by
  rw [irem_eq_mod]
  have e := (c_irem x d d.toInt rfl).1 h0
  exact ⟨e, by rw [e]; exact Int.emod_nonneg _ (by omega), by rw [e]; exact Int.emod_lt_of_pos _ hd⟩
theorem own_in (j d : Int32) (h1 : 0 ≤ j.toInt) (h2 : j.toInt < d.toInt) : ¬ j < 0 ∧ j < d := by
  constructor
  · rw [Int32.lt_iff_toInt_lt]; simp; omega
  · rw [Int32.lt_iff_toInt_lt]; exact h2
theorem own_getD (L : List Int32) (k : Nat) : (L.map Value.int).getD k (.int 0) = .int (L.getD k 0) := by
  simp only [List.getD, List.getElem?_map]
  cases L[k]? <;> rfl

theorem d3_0 : decode jdk_29_method_65_code 0 = .ok (.iload_n 0, 1) := by decide +kernel
theorem d3_1 : decode jdk_29_method_65_code 1 = .ok (.iload_n 1, 1) := by decide +kernel
theorem d3_2 : decode jdk_29_method_65_code 2 = .ok (.if_icmp .lt 7, 3) := by decide +kernel
theorem d3_5 : decode jdk_29_method_65_code 5 = .ok (.iload_n 0, 1) := by decide +kernel
theorem d3_6 : decode jdk_29_method_65_code 6 = .ok (.goto 4, 3) := by decide +kernel
theorem d3_9 : decode jdk_29_method_65_code 9 = .ok (.iload_n 1, 1) := by decide +kernel
theorem d3_10 : decode jdk_29_method_65_code 10 = .ok (.ireturn, 1) := by decide +kernel
theorem own_ef3 (m : MethodId) (x0 : Int32) (x1 : Int32) : entryFrame m #[(.int x0), (.int x1)] 2 = mkF m 0 #[.val (.int x0), .val (.int x1)] [] := by first | (simp [entryFrame, mkF, argsToLocals, Value.category]; done) | rfl
def own_f3_10 (v0 : Int32) (v1 : Int32) (t0 : Int32) : Int32 := t0
def own_f3_0 (p1 : Int32) (p2 : Int32) : Int32 := (if p1 < p2 then own_f3_10 p1 p2 p2 else own_f3_10 p1 p2 p1)
def Q3 (Z : State) (p1 : Int32) (p2 : Int32) (h0 : Heap) (n0 : Nat) (v : Option Value) (h : Heap) (L : List Loc) : Prop := v = some (.int (own_f3_0 p1 p2)) ∧ Fr n0 L ∧ h = h0
set_option maxRecDepth 65536 in
set_option maxHeartbeats 40000000 in
theorem rm3 (l : Launch) (Z : State) (a0 : Array Value) (hw : ∀ d ∈ tables_1, d.before a0 Z = true) (ws : List Jvm.Cond) (p1 : Int32) (p2 : Int32) (h0 : Heap) (n0 : Nat) (Z0 : n0 ≤ h0.size)  :
    MetFree l (⟨"java/lang/Math", "max", "(II)I"⟩ : MethodName) (head1 (Jvm.Cond.code (⟨"java/lang/Math", "max", "(II)I"⟩ : MethodName) jdk_29_method_65_code 2 (some .int) :: ws) ({ frames := 0, cells := 0, slots := 0, locals := 0 } : Room)) (fun a U => a = #[(.int p1), (.int p2)] ∧ Z.Warmed39 U.vm ∧ U.heap = h0) (fun _ _ _ _ _ => True) (fun _ U o U' => ∃ v L, o = .returned v ∧ Q3 Z p1 p2 h0 n0 v U'.heap L ∧ FrameEnd U o U' L ({ frames := 0, cells := 0, slots := 0, locals := 0 } : Room).cells ({ frames := 0, cells := 0, slots := 0, locals := 0 } : Room).slots) := by
  refine MetFree.of_bodySF (Jvm.Free.JP.mathPlain rfl (by decide +kernel)) hisR ?_
  intro p e s m args below meth c s₁ Bd hml0 hP hK
  obtain ⟨rfl, hZ, hh⟩ := hP
  have hx := Bd.exec
  have hby := Bd.bytes
  have hml : c.maxLocals = 2 := hml0
  have hown : s.vm.findClass "java/lang/Math" = some m.cls := findClass_of_methodNamed Bd.named
  have hnm := (name_of_methodNamed Bd.named Bd.method).1
  have hlk := Bd.notSynchronized
  have X0 : Stand p l e ({ frames := 0, cells := 0, slots := 0, locals := 0 } : Room) s m #[(.int p1), (.int p2)] below meth c s₁ [] 0 0 := Stand.of_body Bd
  have e0 : s₁.heap = h0 := by rw [← hh, Bd.state]; rfl
  have N0 := Fr.nil n0
  show own_Goes p e below (fun o U' => ∃ v L, o = .returned v ∧ Q3 Z p1 p2 h0 n0 v U'.heap L ∧ FrameEnd s o U' L ({ frames := 0, cells := 0, slots := 0, locals := 0 } : Room).cells ({ frames := 0, cells := 0, slots := 0, locals := 0 } : Room).slots) s₁ (entryFrame m #[(.int p1), (.int p2)] 2)
  refine own_st (T' := s₁) (g' := mkF m 0 #[.val (.int p1), .val (.int p2)] []) (fun _ k => castTop (own_ef3 m p1 p2) k) ?_
  have b10 : ∀ (T : State) (Lc : List Loc) (X : Stand p l e ({ frames := 0, cells := 0, slots := 0, locals := 0 } : Room) s m #[(.int p1), (.int p2)] below meth c T Lc 0 0) (eT : T.heap = h0) (NL : Fr n0 Lc) (v0 : Int32) (v1 : Int32) (t0 : Int32), own_f3_0 p1 p2 = own_f3_10 v0 v1 t0 → own_Goes p e below (fun o U' => ∃ v L, o = .returned v ∧ Q3 Z p1 p2 h0 n0 v U'.heap L ∧ FrameEnd s o U' L ({ frames := 0, cells := 0, slots := 0, locals := 0 } : Room).cells ({ frames := 0, cells := 0, slots := 0, locals := 0 } : Room).slots) T (mkF m 10 #[.val (.int v0), .val (.int v1)] [(.int t0)]) := by
    intro T Lc X eT NL v0 v1 t0 hf
    exact own_end (Q := Q3 Z p1 p2 h0 n0) (v := some (.int t0)) X (fun h => by rw [Bd.returns] at h; cases h) (fun fs hr => retI X hx Bd.returns (hb hby d3_10) hr) (⟨congrArg (fun z => some (Value.int z)) hf.symm, NL, eT⟩) (by decide) (by decide)
  have hf : own_f3_0 p1 p2 = own_f3_0 p1 p2 := rfl
  refine own_st (T' := s₁) (g' := (mkF m 1 #[.val (.int p1), .val (.int p2)] [(.int p1)])) (fun _ k => Jvm.Free.XS.iloadN (g := (mkF m 0 #[.val (.int p1), .val (.int p2)] [])) X0.here hx rfl (hb hby d3_0) rfl k) ?_
  refine own_st (T' := s₁) (g' := (mkF m 2 #[.val (.int p1), .val (.int p2)] [(.int p2), (.int p1)])) (fun _ k => Jvm.Free.XS.iloadN (g := (mkF m 1 #[.val (.int p1), .val (.int p2)] [(.int p1)])) X0.here hx rfl (hb hby d3_1) rfl k) ?_
  by_cases hc2 : p1 < p2
  · have hf := hf.trans (if_pos hc2)
    refine own_st (T' := s₁) (g' := (mkF m 9 #[.val (.int p1), .val (.int p2)] [])) (fun _ k => XS.icmpYes (g := (mkF m 2 #[.val (.int p1), .val (.int p2)] [(.int p2), (.int p1)])) X0.here hx rfl (pc0 := 2) (pc' := 9) rfl (hb hby d3_2) rfl (tlt hc2).1 (by decide) (by decide) k) ?_
    refine own_st (T' := s₁) (g' := (mkF m 10 #[.val (.int p1), .val (.int p2)] [(.int p2)])) (fun _ k => Jvm.Free.XS.iloadN (g := (mkF m 9 #[.val (.int p1), .val (.int p2)] [])) X0.here hx rfl (hb hby d3_9) rfl k) ?_
    exact b10 s₁ _ X0 e0 N0  p1 p2 p2 hf
  · have hf := hf.trans (if_neg hc2)
    refine own_st (T' := s₁) (g' := (mkF m 5 #[.val (.int p1), .val (.int p2)] [])) (fun _ k => XS.icmpNo (g := (mkF m 2 #[.val (.int p1), .val (.int p2)] [(.int p2), (.int p1)])) X0.here hx rfl (hb hby d3_2) rfl (flt hc2).1 k) ?_
    refine own_st (T' := s₁) (g' := (mkF m 6 #[.val (.int p1), .val (.int p2)] [(.int p1)])) (fun _ k => Jvm.Free.XS.iloadN (g := (mkF m 5 #[.val (.int p1), .val (.int p2)] [])) X0.here hx rfl (hb hby d3_5) rfl k) ?_
    refine own_st (T' := s₁) (g' := (mkF m 10 #[.val (.int p1), .val (.int p2)] [(.int p1)])) (fun _ k => XS.goto (g := (mkF m 6 #[.val (.int p1), .val (.int p2)] [(.int p1)])) X0.here hx rfl (pc0 := 6) (pc' := 10) rfl (hb hby d3_6) (by decide) (by decide) k) ?_
    exact b10 s₁ _ X0 e0 N0  p1 p2 p1 hf
theorem d6_0 : decode method_2_code 0 = .ok (.iload_n 0, 1) := by decide +kernel
theorem d6_1 : decode method_2_code 1 = .ok (.bipush 67, 2) := by decide +kernel
theorem d6_3 : decode method_2_code 3 = .ok (.iload_n 1, 1) := by decide +kernel
theorem d6_4 : decode method_2_code 4 = .ok (.imul, 1) := by decide +kernel
theorem d6_5 : decode method_2_code 5 = .ok (.iadd, 1) := by decide +kernel
theorem d6_6 : decode method_2_code 6 = .ok (.i2b, 1) := by decide +kernel
theorem d6_7 : decode method_2_code 7 = .ok (.ireturn, 1) := by decide +kernel
theorem own_pn6 : plainName "com/example/millrace/millrace/wire/ProtocolWriterPutInt32AtPinLaw" = true := by first | (simp [plainName, overriddenIn]; done) | decide +kernel
theorem own_ef6 (m : MethodId) (x0 : Int32) (x1 : Int32) : entryFrame m #[(.int x0), (.int x1)] 2 = mkF m 0 #[.val (.int x0), .val (.int x1)] [] := by first | (simp [entryFrame, mkF, argsToLocals, Value.category]; done) | rfl
def own_f6_0 (p1 : Int32) (p2 : Int32) : Int32 := nar .byte (((p1 + ((67 : Int32) * p2))).toInt8.toInt32)
def Q6 (Z : State) (p1 : Int32) (p2 : Int32) (h0 : Heap) (n0 : Nat) (v : Option Value) (h : Heap) (L : List Loc) : Prop := v = some (.int (own_f6_0 p1 p2)) ∧ Fr n0 L ∧ h = h0
set_option maxRecDepth 65536 in
set_option maxHeartbeats 40000000 in
theorem rm6 (l : Launch) (Z : State) (a0 : Array Value) (hw : ∀ d ∈ tables_1, d.before a0 Z = true) (ws : List Jvm.Cond) (p1 : Int32) (p2 : Int32) (h0 : Heap) (n0 : Nat) (Z0 : n0 ≤ h0.size)  :
    MetFree l (⟨"com/example/millrace/millrace/wire/ProtocolWriterPutInt32AtPinLaw", "orig", "(II)B"⟩ : MethodName) (head1 (Jvm.Cond.code (⟨"com/example/millrace/millrace/wire/ProtocolWriterPutInt32AtPinLaw", "orig", "(II)B"⟩ : MethodName) method_2_code 2 (some .byte) :: ws) ({ frames := 0, cells := 0, slots := 0, locals := 0 } : Room)) (fun a U => a = #[(.int p1), (.int p2)] ∧ Z.Warmed39 U.vm ∧ U.heap = h0) (fun _ _ _ _ _ => True) (fun _ U o U' => ∃ v L, o = .returned v ∧ Q6 Z p1 p2 h0 n0 v U'.heap L ∧ FrameEnd U o U' L ({ frames := 0, cells := 0, slots := 0, locals := 0 } : Room).cells ({ frames := 0, cells := 0, slots := 0, locals := 0 } : Room).slots) := by
  refine MetFree.of_bodySF (plainFor_of_name own_pn6) hisR ?_
  intro p e s m args below meth c s₁ Bd hml0 hP hK
  obtain ⟨rfl, hZ, hh⟩ := hP
  have hx := Bd.exec
  have hby := Bd.bytes
  have hml : c.maxLocals = 2 := hml0
  have hown : s.vm.findClass "com/example/millrace/millrace/wire/ProtocolWriterPutInt32AtPinLaw" = some m.cls := findClass_of_methodNamed Bd.named
  have hnm := (name_of_methodNamed Bd.named Bd.method).1
  have hlk := Bd.notSynchronized
  have X0 : Stand p l e ({ frames := 0, cells := 0, slots := 0, locals := 0 } : Room) s m #[(.int p1), (.int p2)] below meth c s₁ [] 0 0 := Stand.of_body Bd
  have e0 : s₁.heap = h0 := by rw [← hh, Bd.state]; rfl
  have N0 := Fr.nil n0
  show own_Goes p e below (fun o U' => ∃ v L, o = .returned v ∧ Q6 Z p1 p2 h0 n0 v U'.heap L ∧ FrameEnd s o U' L ({ frames := 0, cells := 0, slots := 0, locals := 0 } : Room).cells ({ frames := 0, cells := 0, slots := 0, locals := 0 } : Room).slots) s₁ (entryFrame m #[(.int p1), (.int p2)] 2)
  refine own_st (T' := s₁) (g' := mkF m 0 #[.val (.int p1), .val (.int p2)] []) (fun _ k => castTop (own_ef6 m p1 p2) k) ?_
  have hf : own_f6_0 p1 p2 = own_f6_0 p1 p2 := rfl
  refine own_st (T' := s₁) (g' := (mkF m 1 #[.val (.int p1), .val (.int p2)] [(.int p1)])) (fun _ k => Jvm.Free.XS.iloadN (g := (mkF m 0 #[.val (.int p1), .val (.int p2)] [])) X0.here hx rfl (hb hby d6_0) rfl k) ?_
  refine own_st (T' := s₁) (g' := (mkF m 3 #[.val (.int p1), .val (.int p2)] [(.int (67 : Int32)), (.int p1)])) (fun _ k => XS.bipush (g := (mkF m 1 #[.val (.int p1), .val (.int p2)] [(.int p1)])) X0.here hx rfl (hb hby d6_1) k) ?_
  refine own_st (T' := s₁) (g' := (mkF m 4 #[.val (.int p1), .val (.int p2)] [(.int p2), (.int (67 : Int32)), (.int p1)])) (fun _ k => Jvm.Free.XS.iloadN (g := (mkF m 3 #[.val (.int p1), .val (.int p2)] [(.int (67 : Int32)), (.int p1)])) X0.here hx rfl (hb hby d6_3) rfl k) ?_
  refine own_st (T' := s₁) (g' := (mkF m 5 #[.val (.int p1), .val (.int p2)] [(.int ((67 : Int32) * p2)), (.int p1)])) (fun _ k => Jvm.Free.XS.imul (g := (mkF m 4 #[.val (.int p1), .val (.int p2)] [(.int p2), (.int (67 : Int32)), (.int p1)])) X0.here hx rfl (hb hby d6_4) rfl k) ?_
  refine own_st (T' := s₁) (g' := (mkF m 6 #[.val (.int p1), .val (.int p2)] [(.int (p1 + ((67 : Int32) * p2)))])) (fun _ k => Jvm.Free.XS.iadd (g := (mkF m 5 #[.val (.int p1), .val (.int p2)] [(.int ((67 : Int32) * p2)), (.int p1)])) X0.here hx rfl (hb hby d6_5) rfl k) ?_
  refine own_st (T' := s₁) (g' := (mkF m 7 #[.val (.int p1), .val (.int p2)] [(.int (((p1 + ((67 : Int32) * p2))).toInt8.toInt32))])) (fun _ k => Jvm.Free.XS.i2b (g := (mkF m 6 #[.val (.int p1), .val (.int p2)] [(.int (p1 + ((67 : Int32) * p2)))])) X0.here hx rfl (hb hby d6_6) rfl k) ?_
  exact own_end (Q := Q6 Z p1 p2 h0 n0) (v := some (.int (nar .byte (((p1 + ((67 : Int32) * p2))).toInt8.toInt32)))) X0 (fun h => by rw [Bd.returns] at h; cases h) (fun fs hr => retN X0 hx (t := .byte) Bd.returns (by simp) (hb hby d6_7) hr) (⟨congrArg (fun z => some (Value.int z)) hf.symm, N0, e0⟩) (by decide) (by decide)
theorem d10_0 : decode method_3_code 0 = .ok (.iload_n 0, 1) := by decide +kernel
theorem d10_1 : decode method_3_code 1 = .ok (.iload_n 1, 1) := by decide +kernel
theorem d10_2 : decode method_3_code 2 = .ok (.if_icmp .lt 23, 3) := by decide +kernel
theorem d10_5 : decode method_3_code 5 = .ok (.iload_n 0, 1) := by decide +kernel
theorem d10_6 : decode method_3_code 6 = .ok (.iload_n 1, 1) := by decide +kernel
theorem d10_7 : decode method_3_code 7 = .ok (.iconst 3, 1) := by decide +kernel
theorem d10_8 : decode method_3_code 8 = .ok (.iadd, 1) := by decide +kernel
theorem d10_9 : decode method_3_code 9 = .ok (.if_icmp .gt 16, 3) := by decide +kernel
theorem d10_12 : decode method_3_code 12 = .ok (.iload_n 3, 1) := by decide +kernel
theorem d10_13 : decode method_3_code 13 = .ok (.bipush 24, 2) := by decide +kernel
theorem d10_15 : decode method_3_code 15 = .ok (.bipush 8, 2) := by decide +kernel
theorem d10_17 : decode method_3_code 17 = .ok (.iload_n 0, 1) := by decide +kernel
theorem d10_18 : decode method_3_code 18 = .ok (.iload_n 1, 1) := by decide +kernel
theorem d10_19 : decode method_3_code 19 = .ok (.isub, 1) := by decide +kernel
theorem d10_20 : decode method_3_code 20 = .ok (.imul, 1) := by decide +kernel
theorem d10_21 : decode method_3_code 21 = .ok (.isub, 1) := by decide +kernel
theorem d10_22 : decode method_3_code 22 = .ok (.iushr, 1) := by decide +kernel
theorem d10_23 : decode method_3_code 23 = .ok (.i2b, 1) := by decide +kernel
theorem d10_24 : decode method_3_code 24 = .ok (.ireturn, 1) := by decide +kernel
theorem d10_25 : decode method_3_code 25 = .ok (.iload_n 0, 1) := by decide +kernel
theorem d10_26 : decode method_3_code 26 = .ok (.bipush 10, 2) := by decide +kernel
theorem d10_28 : decode method_3_code 28 = .ok (.if_icmp .ge 9, 3) := by decide +kernel
theorem d10_31 : decode method_3_code 31 = .ok (.iload_n 2, 1) := by decide +kernel
theorem d10_32 : decode method_3_code 32 = .ok (.iload_n 0, 1) := by decide +kernel
theorem d10_33 : decode method_3_code 33 = .ok (.invokestatic 7, 3) := by decide +kernel
theorem d10_36 : decode method_3_code 36 = .ok (.ireturn, 1) := by decide +kernel
theorem d10_37 : decode method_3_code 37 = .ok (.iconst 0, 1) := by decide +kernel
theorem d10_38 : decode method_3_code 38 = .ok (.ireturn, 1) := by decide +kernel
theorem own_pn10 : plainName "com/example/millrace/millrace/wire/ProtocolWriterPutInt32AtPinLaw" = true := by first | (simp [plainName, overriddenIn]; done) | decide +kernel
theorem own_pd10_0 : parseMethodDescriptor "(II)B" = some ⟨[.int, .int], some .byte⟩ := by decide +kernel
theorem own_ef10 (m : MethodId) (x0 : Int32) (x1 : Int32) (x2 : Int32) (x3 : Int32) : entryFrame m #[(.int x0), (.int x1), (.int x2), (.int x3)] 4 = mkF m 0 #[.val (.int x0), .val (.int x1), .val (.int x2), .val (.int x3)] [] := by first | (simp [entryFrame, mkF, argsToLocals, Value.category]; done) | rfl
def own_f10_25 (v0 : Int32) (v1 : Int32) (v2 : Int32) (v3 : Int32) : Int32 := (if v0 < (10 : Int32) then nar .byte (own_f6_0 v2 v0) else (0 : Int32))
def own_f10_0 (p1 : Int32) (p2 : Int32) (p3 : Int32) (p4 : Int32) : Int32 := (if p1 < p2 then own_f10_25 p1 p2 p3 p4 else (if (p2 + (3 : Int32)) < p1 then own_f10_25 p1 p2 p3 p4 else nar .byte (((((p4).toUInt32 >>> (((24 : Int32) - ((8 : Int32) * (p1 - p2))) &&& 31).toUInt32).toInt32)).toInt8.toInt32)))
def Q10 (Z : State) (p1 : Int32) (p2 : Int32) (p3 : Int32) (p4 : Int32) (h0 : Heap) (n0 : Nat) (v : Option Value) (h : Heap) (L : List Loc) : Prop := v = some (.int (own_f10_0 p1 p2 p3 p4)) ∧ Fr n0 L ∧ h = h0
set_option maxRecDepth 65536 in
set_option maxHeartbeats 40000000 in
theorem rm10 (l : Launch) (Z : State) (a0 : Array Value) (hw : ∀ d ∈ tables_1, d.before a0 Z = true) (ws : List Jvm.Cond) (p1 : Int32) (p2 : Int32) (p3 : Int32) (p4 : Int32) (h0 : Heap) (n0 : Nat) (Z0 : n0 ≤ h0.size)  :
    MetFree l (⟨"com/example/millrace/millrace/wire/ProtocolWriterPutInt32AtPinLaw", "expected", "(IIII)B"⟩ : MethodName) (head1 (Jvm.Cond.code (⟨"com/example/millrace/millrace/wire/ProtocolWriterPutInt32AtPinLaw", "expected", "(IIII)B"⟩ : MethodName) method_3_code 4 (some .byte) :: ws) ({ frames := 1, cells := 0, slots := 0, locals := 13 } : Room)) (fun a U => a = #[(.int p1), (.int p2), (.int p3), (.int p4)] ∧ Z.Warmed39 U.vm ∧ U.heap = h0) (fun _ _ _ _ _ => True) (fun _ U o U' => ∃ v L, o = .returned v ∧ Q10 Z p1 p2 p3 p4 h0 n0 v U'.heap L ∧ FrameEnd U o U' L ({ frames := 1, cells := 0, slots := 0, locals := 13 } : Room).cells ({ frames := 1, cells := 0, slots := 0, locals := 13 } : Room).slots) := by
  refine MetFree.of_bodySF (plainFor_of_name own_pn10) hisR ?_
  intro p e s m args below meth c s₁ Bd hml0 hP hK
  obtain ⟨rfl, hZ, hh⟩ := hP
  have hx := Bd.exec
  have hby := Bd.bytes
  have hml : c.maxLocals = 4 := hml0
  have hown : s.vm.findClass "com/example/millrace/millrace/wire/ProtocolWriterPutInt32AtPinLaw" = some m.cls := findClass_of_methodNamed Bd.named
  have hnm := (name_of_methodNamed Bd.named Bd.method).1
  have hlk := Bd.notSynchronized
  have X0 : Stand p l e ({ frames := 1, cells := 0, slots := 0, locals := 13 } : Room) s m #[(.int p1), (.int p2), (.int p3), (.int p4)] below meth c s₁ [] 0 0 := Stand.of_body Bd
  have e0 : s₁.heap = h0 := by rw [← hh, Bd.state]; rfl
  have N0 := Fr.nil n0
  show own_Goes p e below (fun o U' => ∃ v L, o = .returned v ∧ Q10 Z p1 p2 p3 p4 h0 n0 v U'.heap L ∧ FrameEnd s o U' L ({ frames := 1, cells := 0, slots := 0, locals := 13 } : Room).cells ({ frames := 1, cells := 0, slots := 0, locals := 13 } : Room).slots) s₁ (entryFrame m #[(.int p1), (.int p2), (.int p3), (.int p4)] 4)
  refine own_st (T' := s₁) (g' := mkF m 0 #[.val (.int p1), .val (.int p2), .val (.int p3), .val (.int p4)] []) (fun _ k => castTop (own_ef10 m p1 p2 p3 p4) k) ?_
  have b25 : ∀ (T : State) (Lc : List Loc) (X : Stand p l e ({ frames := 1, cells := 0, slots := 0, locals := 13 } : Room) s m #[(.int p1), (.int p2), (.int p3), (.int p4)] below meth c T Lc 0 0) (eT : T.heap = h0) (NL : Fr n0 Lc) (v0 : Int32) (v1 : Int32) (v2 : Int32) (v3 : Int32), own_f10_0 p1 p2 p3 p4 = own_f10_25 v0 v1 v2 v3 → own_Goes p e below (fun o U' => ∃ v L, o = .returned v ∧ Q10 Z p1 p2 p3 p4 h0 n0 v U'.heap L ∧ FrameEnd s o U' L ({ frames := 1, cells := 0, slots := 0, locals := 13 } : Room).cells ({ frames := 1, cells := 0, slots := 0, locals := 13 } : Room).slots) T (mkF m 25 #[.val (.int v0), .val (.int v1), .val (.int v2), .val (.int v3)] []) := by
    intro T Lc X eT NL v0 v1 v2 v3 hf
    refine own_st (T' := T) (g' := (mkF m 26 #[.val (.int v0), .val (.int v1), .val (.int v2), .val (.int v3)] [(.int v0)])) (fun _ k => Jvm.Free.XS.iloadN (g := (mkF m 25 #[.val (.int v0), .val (.int v1), .val (.int v2), .val (.int v3)] [])) X.here hx rfl (hb hby d10_25) rfl k) ?_
    refine own_st (T' := T) (g' := (mkF m 28 #[.val (.int v0), .val (.int v1), .val (.int v2), .val (.int v3)] [(.int (10 : Int32)), (.int v0)])) (fun _ k => XS.bipush (g := (mkF m 26 #[.val (.int v0), .val (.int v1), .val (.int v2), .val (.int v3)] [(.int v0)])) X.here hx rfl (hb hby d10_26) k) ?_
    by_cases hc28 : v0 < (10 : Int32)
    · have hf := hf.trans (if_pos hc28)
      refine own_st (T' := T) (g' := (mkF m 31 #[.val (.int v0), .val (.int v1), .val (.int v2), .val (.int v3)] [])) (fun _ k => XS.icmpNo (g := (mkF m 28 #[.val (.int v0), .val (.int v1), .val (.int v2), .val (.int v3)] [(.int (10 : Int32)), (.int v0)])) X.here hx rfl (hb hby d10_28) rfl (tlt hc28).2.1 k) ?_
      refine own_st (T' := T) (g' := (mkF m 32 #[.val (.int v0), .val (.int v1), .val (.int v2), .val (.int v3)] [(.int v2)])) (fun _ k => Jvm.Free.XS.iloadN (g := (mkF m 31 #[.val (.int v0), .val (.int v1), .val (.int v2), .val (.int v3)] [])) X.here hx rfl (hb hby d10_31) rfl k) ?_
      refine own_st (T' := T) (g' := (mkF m 33 #[.val (.int v0), .val (.int v1), .val (.int v2), .val (.int v3)] [(.int v0), (.int v2)])) (fun _ k => Jvm.Free.XS.iloadN (g := (mkF m 32 #[.val (.int v0), .val (.int v1), .val (.int v2), .val (.int v3)] [(.int v2)])) X.here hx rfl (hb hby d10_32) rfl k) ?_
      obtain ⟨v1, T1, L1, X1, hQ1, st1⟩ := own_packS (Jvm.LawKit.callS X hx (y := (⟨"com/example/millrace/millrace/wire/ProtocolWriterPutInt32AtPinLaw", "orig", "(II)B"⟩ : MethodName)) hown (mvT hZ (hw _ (List.mem_of_getElem? (i := 28) rfl))) (mvT hZ (hw _ (List.mem_of_getElem? (i := 29) rfl))) (mvT hZ (hw _ (List.mem_of_getElem? (i := 30) rfl))) (mvT hZ (hw _ (List.mem_of_getElem? (i := 31) rfl))) (by decide) (backOf (W := 0) (rm6 l Z a0 hw [] v2 v0 h0 n0 Z0 ) hZ (hw _ (List.mem_of_getElem? (i := 31) rfl)) (hw _ (List.mem_of_getElem? (i := 30) rfl)) (by decide) (by decide)) (g := (mkF m 33 #[.val (.int v0), .val (.int v1), .val (.int v2), .val (.int v3)] [(.int v0), (.int v2)])) rfl (by rw [hml]; rfl) (argsL := [(.int v2), (.int v0)]) (rest := []) (lenOf own_pd10_0 rfl) rfl (by show 2 * 0 + _ ≤ _; exact Nat.le_of_eq rfl) (hb hby d10_33) (fun _ _ => ⟨rfl, eT, (by decide : 0 + 0 ≤ _), (by decide : 0 + 0 ≤ _)⟩))
      obtain ⟨rfl, N1q, e1⟩ := hQ1
      obtain ⟨lc1, X1, N1⟩ := own_loc X1 (Fr.app NL N1q)
      refine own_st (T' := T1) (g' := (mkF m 36 #[.val (.int v0), .val (.int v1), .val (.int v2), .val (.int v3)] [(.int (own_f6_0 v2 v0))])) (fun _ k => (st1) _ k) ?_
      exact own_end (Q := Q10 Z p1 p2 p3 p4 h0 n0) (v := some (.int (nar .byte (own_f6_0 v2 v0)))) X1 (fun h => by rw [Bd.returns] at h; cases h) (fun fs hr => retN X1 hx (t := .byte) Bd.returns (by simp) (hb hby d10_36) hr) (⟨congrArg (fun z => some (Value.int z)) hf.symm, N1, e1⟩) (by decide) (by decide)
    · have hf := hf.trans (if_neg hc28)
      refine own_st (T' := T) (g' := (mkF m 37 #[.val (.int v0), .val (.int v1), .val (.int v2), .val (.int v3)] [])) (fun _ k => XS.icmpYes (g := (mkF m 28 #[.val (.int v0), .val (.int v1), .val (.int v2), .val (.int v3)] [(.int (10 : Int32)), (.int v0)])) X.here hx rfl (pc0 := 28) (pc' := 37) rfl (hb hby d10_28) rfl (flt hc28).2.1 (by decide) (by decide) k) ?_
      refine own_st (T' := T) (g' := (mkF m 38 #[.val (.int v0), .val (.int v1), .val (.int v2), .val (.int v3)] [(.int (0 : Int32))])) (fun _ k => XS.iconst (g := (mkF m 37 #[.val (.int v0), .val (.int v1), .val (.int v2), .val (.int v3)] [])) X.here hx rfl (hb hby d10_37) k) ?_
      exact own_end (Q := Q10 Z p1 p2 p3 p4 h0 n0) (v := some (.int (nar .byte (0 : Int32)))) X (fun h => by rw [Bd.returns] at h; cases h) (fun fs hr => retN X hx (t := .byte) Bd.returns (by simp) (hb hby d10_38) hr) (⟨congrArg (fun z => some (Value.int z)) hf.symm, NL, eT⟩) (by decide) (by decide)
  have hf : own_f10_0 p1 p2 p3 p4 = own_f10_0 p1 p2 p3 p4 := rfl
  refine own_st (T' := s₁) (g' := (mkF m 1 #[.val (.int p1), .val (.int p2), .val (.int p3), .val (.int p4)] [(.int p1)])) (fun _ k => Jvm.Free.XS.iloadN (g := (mkF m 0 #[.val (.int p1), .val (.int p2), .val (.int p3), .val (.int p4)] [])) X0.here hx rfl (hb hby d10_0) rfl k) ?_
  refine own_st (T' := s₁) (g' := (mkF m 2 #[.val (.int p1), .val (.int p2), .val (.int p3), .val (.int p4)] [(.int p2), (.int p1)])) (fun _ k => Jvm.Free.XS.iloadN (g := (mkF m 1 #[.val (.int p1), .val (.int p2), .val (.int p3), .val (.int p4)] [(.int p1)])) X0.here hx rfl (hb hby d10_1) rfl k) ?_
  by_cases hc2 : p1 < p2
  · have hf := hf.trans (if_pos hc2)
    refine own_st (T' := s₁) (g' := (mkF m 25 #[.val (.int p1), .val (.int p2), .val (.int p3), .val (.int p4)] [])) (fun _ k => XS.icmpYes (g := (mkF m 2 #[.val (.int p1), .val (.int p2), .val (.int p3), .val (.int p4)] [(.int p2), (.int p1)])) X0.here hx rfl (pc0 := 2) (pc' := 25) rfl (hb hby d10_2) rfl (tlt hc2).1 (by decide) (by decide) k) ?_
    exact b25 s₁ _ X0 e0 N0  p1 p2 p3 p4 hf
  · have hf := hf.trans (if_neg hc2)
    refine own_st (T' := s₁) (g' := (mkF m 5 #[.val (.int p1), .val (.int p2), .val (.int p3), .val (.int p4)] [])) (fun _ k => XS.icmpNo (g := (mkF m 2 #[.val (.int p1), .val (.int p2), .val (.int p3), .val (.int p4)] [(.int p2), (.int p1)])) X0.here hx rfl (hb hby d10_2) rfl (flt hc2).1 k) ?_
    refine own_st (T' := s₁) (g' := (mkF m 6 #[.val (.int p1), .val (.int p2), .val (.int p3), .val (.int p4)] [(.int p1)])) (fun _ k => Jvm.Free.XS.iloadN (g := (mkF m 5 #[.val (.int p1), .val (.int p2), .val (.int p3), .val (.int p4)] [])) X0.here hx rfl (hb hby d10_5) rfl k) ?_
    refine own_st (T' := s₁) (g' := (mkF m 7 #[.val (.int p1), .val (.int p2), .val (.int p3), .val (.int p4)] [(.int p2), (.int p1)])) (fun _ k => Jvm.Free.XS.iloadN (g := (mkF m 6 #[.val (.int p1), .val (.int p2), .val (.int p3), .val (.int p4)] [(.int p1)])) X0.here hx rfl (hb hby d10_6) rfl k) ?_
    refine own_st (T' := s₁) (g' := (mkF m 8 #[.val (.int p1), .val (.int p2), .val (.int p3), .val (.int p4)] [(.int (3 : Int32)), (.int p2), (.int p1)])) (fun _ k => XS.iconst (g := (mkF m 7 #[.val (.int p1), .val (.int p2), .val (.int p3), .val (.int p4)] [(.int p2), (.int p1)])) X0.here hx rfl (hb hby d10_7) k) ?_
    refine own_st (T' := s₁) (g' := (mkF m 9 #[.val (.int p1), .val (.int p2), .val (.int p3), .val (.int p4)] [(.int (p2 + (3 : Int32))), (.int p1)])) (fun _ k => Jvm.Free.XS.iadd (g := (mkF m 8 #[.val (.int p1), .val (.int p2), .val (.int p3), .val (.int p4)] [(.int (3 : Int32)), (.int p2), (.int p1)])) X0.here hx rfl (hb hby d10_8) rfl k) ?_
    by_cases hc9 : (p2 + (3 : Int32)) < p1
    · have hf := hf.trans (if_pos hc9)
      refine own_st (T' := s₁) (g' := (mkF m 25 #[.val (.int p1), .val (.int p2), .val (.int p3), .val (.int p4)] [])) (fun _ k => XS.icmpYes (g := (mkF m 9 #[.val (.int p1), .val (.int p2), .val (.int p3), .val (.int p4)] [(.int (p2 + (3 : Int32))), (.int p1)])) X0.here hx rfl (pc0 := 9) (pc' := 25) rfl (hb hby d10_9) rfl (tlt hc9).2.2.1 (by decide) (by decide) k) ?_
      exact b25 s₁ _ X0 e0 N0  p1 p2 p3 p4 hf
    · have hf := hf.trans (if_neg hc9)
      refine own_st (T' := s₁) (g' := (mkF m 12 #[.val (.int p1), .val (.int p2), .val (.int p3), .val (.int p4)] [])) (fun _ k => XS.icmpNo (g := (mkF m 9 #[.val (.int p1), .val (.int p2), .val (.int p3), .val (.int p4)] [(.int (p2 + (3 : Int32))), (.int p1)])) X0.here hx rfl (hb hby d10_9) rfl (flt hc9).2.2.1 k) ?_
      refine own_st (T' := s₁) (g' := (mkF m 13 #[.val (.int p1), .val (.int p2), .val (.int p3), .val (.int p4)] [(.int p4)])) (fun _ k => Jvm.Free.XS.iloadN (g := (mkF m 12 #[.val (.int p1), .val (.int p2), .val (.int p3), .val (.int p4)] [])) X0.here hx rfl (hb hby d10_12) rfl k) ?_
      refine own_st (T' := s₁) (g' := (mkF m 15 #[.val (.int p1), .val (.int p2), .val (.int p3), .val (.int p4)] [(.int (24 : Int32)), (.int p4)])) (fun _ k => XS.bipush (g := (mkF m 13 #[.val (.int p1), .val (.int p2), .val (.int p3), .val (.int p4)] [(.int p4)])) X0.here hx rfl (hb hby d10_13) k) ?_
      refine own_st (T' := s₁) (g' := (mkF m 17 #[.val (.int p1), .val (.int p2), .val (.int p3), .val (.int p4)] [(.int (8 : Int32)), (.int (24 : Int32)), (.int p4)])) (fun _ k => XS.bipush (g := (mkF m 15 #[.val (.int p1), .val (.int p2), .val (.int p3), .val (.int p4)] [(.int (24 : Int32)), (.int p4)])) X0.here hx rfl (hb hby d10_15) k) ?_
      refine own_st (T' := s₁) (g' := (mkF m 18 #[.val (.int p1), .val (.int p2), .val (.int p3), .val (.int p4)] [(.int p1), (.int (8 : Int32)), (.int (24 : Int32)), (.int p4)])) (fun _ k => Jvm.Free.XS.iloadN (g := (mkF m 17 #[.val (.int p1), .val (.int p2), .val (.int p3), .val (.int p4)] [(.int (8 : Int32)), (.int (24 : Int32)), (.int p4)])) X0.here hx rfl (hb hby d10_17) rfl k) ?_
      refine own_st (T' := s₁) (g' := (mkF m 19 #[.val (.int p1), .val (.int p2), .val (.int p3), .val (.int p4)] [(.int p2), (.int p1), (.int (8 : Int32)), (.int (24 : Int32)), (.int p4)])) (fun _ k => Jvm.Free.XS.iloadN (g := (mkF m 18 #[.val (.int p1), .val (.int p2), .val (.int p3), .val (.int p4)] [(.int p1), (.int (8 : Int32)), (.int (24 : Int32)), (.int p4)])) X0.here hx rfl (hb hby d10_18) rfl k) ?_
      refine own_st (T' := s₁) (g' := (mkF m 20 #[.val (.int p1), .val (.int p2), .val (.int p3), .val (.int p4)] [(.int (p1 - p2)), (.int (8 : Int32)), (.int (24 : Int32)), (.int p4)])) (fun _ k => Jvm.Free.XS.isub (g := (mkF m 19 #[.val (.int p1), .val (.int p2), .val (.int p3), .val (.int p4)] [(.int p2), (.int p1), (.int (8 : Int32)), (.int (24 : Int32)), (.int p4)])) X0.here hx rfl (hb hby d10_19) rfl k) ?_
      refine own_st (T' := s₁) (g' := (mkF m 21 #[.val (.int p1), .val (.int p2), .val (.int p3), .val (.int p4)] [(.int ((8 : Int32) * (p1 - p2))), (.int (24 : Int32)), (.int p4)])) (fun _ k => Jvm.Free.XS.imul (g := (mkF m 20 #[.val (.int p1), .val (.int p2), .val (.int p3), .val (.int p4)] [(.int (p1 - p2)), (.int (8 : Int32)), (.int (24 : Int32)), (.int p4)])) X0.here hx rfl (hb hby d10_20) rfl k) ?_
      refine own_st (T' := s₁) (g' := (mkF m 22 #[.val (.int p1), .val (.int p2), .val (.int p3), .val (.int p4)] [(.int ((24 : Int32) - ((8 : Int32) * (p1 - p2)))), (.int p4)])) (fun _ k => Jvm.Free.XS.isub (g := (mkF m 21 #[.val (.int p1), .val (.int p2), .val (.int p3), .val (.int p4)] [(.int ((8 : Int32) * (p1 - p2))), (.int (24 : Int32)), (.int p4)])) X0.here hx rfl (hb hby d10_21) rfl k) ?_
      refine own_st (T' := s₁) (g' := (mkF m 23 #[.val (.int p1), .val (.int p2), .val (.int p3), .val (.int p4)] [(.int (((p4).toUInt32 >>> (((24 : Int32) - ((8 : Int32) * (p1 - p2))) &&& 31).toUInt32).toInt32))])) (fun _ k => Jvm.Free.XS.iushr (g := (mkF m 22 #[.val (.int p1), .val (.int p2), .val (.int p3), .val (.int p4)] [(.int ((24 : Int32) - ((8 : Int32) * (p1 - p2)))), (.int p4)])) X0.here hx rfl (hb hby d10_22) rfl k) ?_
      refine own_st (T' := s₁) (g' := (mkF m 24 #[.val (.int p1), .val (.int p2), .val (.int p3), .val (.int p4)] [(.int (((((p4).toUInt32 >>> (((24 : Int32) - ((8 : Int32) * (p1 - p2))) &&& 31).toUInt32).toInt32)).toInt8.toInt32))])) (fun _ k => Jvm.Free.XS.i2b (g := (mkF m 23 #[.val (.int p1), .val (.int p2), .val (.int p3), .val (.int p4)] [(.int (((p4).toUInt32 >>> (((24 : Int32) - ((8 : Int32) * (p1 - p2))) &&& 31).toUInt32).toInt32))])) X0.here hx rfl (hb hby d10_23) rfl k) ?_
      exact own_end (Q := Q10 Z p1 p2 p3 p4 h0 n0) (v := some (.int (nar .byte (((((p4).toUInt32 >>> (((24 : Int32) - ((8 : Int32) * (p1 - p2))) &&& 31).toUInt32).toInt32)).toInt8.toInt32)))) X0 (fun h => by rw [Bd.returns] at h; cases h) (fun fs hr => retN X0 hx (t := .byte) Bd.returns (by simp) (hb hby d10_24) hr) (⟨congrArg (fun z => some (Value.int z)) hf.symm, N0, e0⟩) (by decide) (by decide)
def own_y (Ls : List Int32) (j : Int32) : Int32 := Ls.getD j.toNatClampNeg 0
theorem own_mapset (L : List Int32) (i : Nat) (b : Int32) : (L.map Value.int).set i (.int b) = (L.set i b).map Value.int := (List.map_set ..).symm
theorem own_nc (j : Int32) (h : ¬ j < 0 ∧ j < 16) : j.toNatClampNeg < 16 := by
  obtain ⟨a, b⟩ := h
  have q := nat_of a
  rw [Int32.lt_iff_toInt_lt] at b
  have e : (16 : Int32).toInt = 16 := rfl
  omega
theorem own_at (p k : Int32) (K : Int) (hk : k.toInt = K) (h0 : 0 ≤ K ∧ K ≤ 3) (h : 0 ≤ p.toInt ∧ p.toInt ≤ 12) : ¬ (p + k) < 0 ∧ (p + k) < 16 := by
  have c := c_iadd p k; have r := rng32 (p + k)
  rw [hk] at c
  have e : (16 : Int32).toInt = 16 := rfl
  exact own_in _ _ (by omega) (by omega)
theorem own_at0 (p : Int32) (h : 0 ≤ p.toInt ∧ p.toInt ≤ 12) : ¬ p < 0 ∧ p < 16 := by
  have e : (16 : Int32).toInt = 16 := rfl
  exact own_in _ _ (by omega) (by omega)
theorem d1_0 : decode prog_128_method_1_code 0 = .ok (.aload_n 0, 1) := by decide +kernel
theorem d1_1 : decode prog_128_method_1_code 1 = .ok (.invokespecial 1, 3) := by decide +kernel
theorem d1_4 : decode prog_128_method_1_code 4 = .ok (.aload_n 0, 1) := by decide +kernel
theorem d1_5 : decode prog_128_method_1_code 5 = .ok (.bipush 16, 2) := by decide +kernel
theorem d1_7 : decode prog_128_method_1_code 7 = .ok (.iload_n 1, 1) := by decide +kernel
theorem d1_8 : decode prog_128_method_1_code 8 = .ok (.invokestatic 7, 3) := by decide +kernel
theorem d1_11 : decode prog_128_method_1_code 11 = .ok (.newarray .byte, 2) := by decide +kernel
theorem d1_13 : decode prog_128_method_1_code 13 = .ok (.putfield 13, 3) := by decide +kernel
theorem d1_16 : decode prog_128_method_1_code 16 = .ok (.return_, 1) := by decide +kernel
theorem own_pn1 : plainName "com/example/millrace/millrace/wire/ProtocolWriter" = true := by first | (simp [plainName, overriddenIn]; done) | decide +kernel
theorem own_pd1_0 : parseMethodDescriptor "(II)I" = some ⟨[.int, .int], some .int⟩ := by decide +kernel
theorem own_ef1 (m : MethodId) (x0 : Addr) (x1 : Int32) : entryFrame m #[(.ref x0), (.int x1)] 2 = mkF m 0 #[.val (.ref x0), .val (.int x1)] [] := by first | (simp [entryFrame, mkF, argsToLocals, Value.category]; done) | rfl
def Q1 (Z : State) (a1 : Addr)  (h0 : Heap) (n0 : Nat) (v : Option Value) (h : Heap) (L : List Loc) : Prop := v = none ∧ Fr n0 L ∧ Keep h0 h [a1] ∧ Exa Z h a1 "com/example/millrace/millrace/wire/ProtocolWriter" ∧ ∃ (t : Addr) (ka : ClassId), h0.size ≤ t ∧ Fld Z h a1 "com/example/millrace/millrace/wire/ProtocolWriter" "bytes" "[B" (.ref t) ∧ Fld Z h a1 "com/example/millrace/millrace/wire/ProtocolWriter" "position" "I" (.int (0 : Int32)) ∧ Arv Z h t ka .byte (16 : Int32) [(.int (0 : Int32)), (.int (0 : Int32)), (.int (0 : Int32)), (.int (0 : Int32)), (.int (0 : Int32)), (.int (0 : Int32)), (.int (0 : Int32)), (.int (0 : Int32)), (.int (0 : Int32)), (.int (0 : Int32)), (.int (0 : Int32)), (.int (0 : Int32)), (.int (0 : Int32)), (.int (0 : Int32)), (.int (0 : Int32)), (.int (0 : Int32))] (.int (0 : Int32))
set_option maxRecDepth 65536 in
set_option maxHeartbeats 40000000 in
theorem rm1 (l : Launch) (Z : State) (a0 : Array Value) (hw : ∀ d ∈ tables_1, d.before a0 Z = true) (ws : List Jvm.Cond) (a1 : Addr)  (h0 : Heap) (n0 : Nat) (Z0 : n0 ≤ h0.size) (E_a1 : Exa Z h0 a1 "com/example/millrace/millrace/wire/ProtocolWriter") (F_b : Fld Z h0 a1 "com/example/millrace/millrace/wire/ProtocolWriter" "bytes" "[B" .null) (F_p : Fld Z h0 a1 "com/example/millrace/millrace/wire/ProtocolWriter" "position" "I" (.int (0 : Int32))) (gn_a1 : n0 ≤ a1)  :
    MetFree l (⟨"com/example/millrace/millrace/wire/ProtocolWriter", "<init>", "(I)V"⟩ : MethodName) (head1 (Jvm.Cond.code (⟨"com/example/millrace/millrace/wire/ProtocolWriter", "<init>", "(I)V"⟩ : MethodName) prog_128_method_1_code 2 none :: ws) ({ frames := 1, cells := 1, slots := 16, locals := 14 } : Room)) (fun a U => a = #[(.ref a1), (.int (16 : Int32))] ∧ Z.Warmed39 U.vm ∧ U.heap = h0) (fun _ _ _ _ _ => True) (fun _ U o U' => ∃ v L, o = .returned v ∧ Q1 Z a1  h0 n0 v U'.heap L ∧ FrameEnd U o U' L ({ frames := 1, cells := 1, slots := 16, locals := 14 } : Room).cells ({ frames := 1, cells := 1, slots := 16, locals := 14 } : Room).slots) := by
  refine MetFree.of_bodySF (plainFor_of_name own_pn1) hisR ?_
  intro p e s m args below meth c s₁ Bd hml0 hP hK
  obtain ⟨rfl, hZ, hh⟩ := hP
  have hx := Bd.exec
  have hby := Bd.bytes
  have hml : c.maxLocals = 2 := hml0
  have hown : s.vm.findClass "com/example/millrace/millrace/wire/ProtocolWriter" = some m.cls := findClass_of_methodNamed Bd.named
  have hnm := (name_of_methodNamed Bd.named Bd.method).1
  have hlk := Bd.notSynchronized
  have X0 : Stand p l e ({ frames := 1, cells := 1, slots := 16, locals := 14 } : Room) s m #[(.ref a1), (.int (16 : Int32))] below meth c s₁ [] 0 0 := Stand.of_body Bd
  have e0 : s₁.heap = h0 := by rw [← hh, Bd.state]; rfl
  have N0 := Fr.nil n0
  show own_Goes p e below (fun o U' => ∃ v L, o = .returned v ∧ Q1 Z a1  h0 n0 v U'.heap L ∧ FrameEnd s o U' L ({ frames := 1, cells := 1, slots := 16, locals := 14 } : Room).cells ({ frames := 1, cells := 1, slots := 16, locals := 14 } : Room).slots) s₁ (entryFrame m #[(.ref a1), (.int (16 : Int32))] 2)
  refine own_st (T' := s₁) (g' := mkF m 0 #[.val (.ref a1), .val (.int (16 : Int32))] []) (fun _ k => castTop (own_ef1 m a1 (16 : Int32)) k) ?_
  refine own_st (T' := s₁) (g' := (mkF m 1 #[.val (.ref a1), .val (.int (16 : Int32))] [(.ref a1)])) (fun _ k => Jvm.Free.XS.aloadN (g := (mkF m 0 #[.val (.ref a1), .val (.int (16 : Int32))] [])) X0.here hx rfl (hb hby d1_0) rfl rfl k) ?_
  obtain ⟨T1, X1, e1, st1⟩ := initO X0 hx hZ hown (hw _ (List.mem_of_getElem? (i := 7) rfl)) (hw _ (List.mem_of_getElem? (i := 8) rfl)) (hw _ (List.mem_of_getElem? (i := 9) rfl)) e0 (g := (mkF m 1 #[.val (.ref a1), .val (.int (16 : Int32))] [(.ref a1)])) rfl (by rw [hml]; rfl) rfl (hb hby d1_1) (by decide) (W := 0) (by show 2 * 0 + _ ≤ _; exact Nat.le_of_eq rfl) (by decide)
  refine own_st (T' := T1) (g' := (mkF m 4 #[.val (.ref a1), .val (.int (16 : Int32))] [])) (fun _ k => (st1) _ k) ?_
  refine own_st (T' := T1) (g' := (mkF m 5 #[.val (.ref a1), .val (.int (16 : Int32))] [(.ref a1)])) (fun _ k => Jvm.Free.XS.aloadN (g := (mkF m 4 #[.val (.ref a1), .val (.int (16 : Int32))] [])) X1.here hx rfl (hb hby d1_4) rfl rfl k) ?_
  refine own_st (T' := T1) (g' := (mkF m 7 #[.val (.ref a1), .val (.int (16 : Int32))] [(.int (16 : Int32)), (.ref a1)])) (fun _ k => XS.bipush (g := (mkF m 5 #[.val (.ref a1), .val (.int (16 : Int32))] [(.ref a1)])) X1.here hx rfl (hb hby d1_5) k) ?_
  refine own_st (T' := T1) (g' := (mkF m 8 #[.val (.ref a1), .val (.int (16 : Int32))] [(.int (16 : Int32)), (.int (16 : Int32)), (.ref a1)])) (fun _ k => Jvm.Free.XS.iloadN (g := (mkF m 7 #[.val (.ref a1), .val (.int (16 : Int32))] [(.int (16 : Int32)), (.ref a1)])) X1.here hx rfl (hb hby d1_7) rfl k) ?_
  obtain ⟨v2, T2, L2, X2, hQ2, st2⟩ := own_packS (Jvm.LawKit.callS X1 hx (y := (⟨"java/lang/Math", "max", "(II)I"⟩ : MethodName)) hown (mvT hZ (hw _ (List.mem_of_getElem? (i := 10) rfl))) (mvT hZ (hw _ (List.mem_of_getElem? (i := 11) rfl))) (mvT hZ (hw _ (List.mem_of_getElem? (i := 12) rfl))) (mvT hZ (hw _ (List.mem_of_getElem? (i := 13) rfl))) (by decide) (backOf (W := 1) (rm3 l Z a0 hw [] (16 : Int32) (16 : Int32) h0 n0 Z0 ) hZ (hw _ (List.mem_of_getElem? (i := 13) rfl)) (hw _ (List.mem_of_getElem? (i := 12) rfl)) (by decide) (by decide)) (g := (mkF m 8 #[.val (.ref a1), .val (.int (16 : Int32))] [(.int (16 : Int32)), (.int (16 : Int32)), (.ref a1)])) rfl (by rw [hml]; rfl) (argsL := [(.int (16 : Int32)), (.int (16 : Int32))]) (rest := [(.ref a1)]) (lenOf own_pd1_0 rfl) rfl (by show 2 * 0 + _ ≤ _; exact Nat.le_of_eq rfl) (hb hby d1_8) (fun _ _ => ⟨rfl, e1, (by decide : 0 + 0 ≤ _), (by decide : 0 + 0 ≤ _)⟩))
  obtain ⟨hv2, N2q, e2⟩ := hQ2
  rw [show own_f3_0 (16 : Int32) (16 : Int32) = (16 : Int32) from by decide] at hv2
  subst hv2
  obtain ⟨lc2, X2, N2⟩ := own_loc X2 (Fr.app N0 N2q)
  refine own_st (T' := T2) (g' := (mkF m 11 #[.val (.ref a1), .val (.int (16 : Int32))] [(.int (16 : Int32)), (.ref a1)])) (fun _ k => (st2) _ k) ?_
  obtain ⟨T3, h3, k3, X3, e3, E3, A3, st3⟩ := newP X2 hx hZ (hw _ (List.mem_of_getElem? (i := 14) rfl)) e2 (g := (mkF m 11 #[.val (.ref a1), .val (.int (16 : Int32))] [(.int (16 : Int32)), (.ref a1)])) rfl (hb hby d1_11) rfl (by decide) (cap := 16) (by decide) (by decide) (by decide) (by decide)
  obtain ⟨b3, g3⟩ : ∃ z, z = h0.size := ⟨_, rfl⟩
  rw [← g3] at A3 st3
  have ne_a1_b3 : a1 ≠ b3 := Nat.ne_of_lt (Nat.lt_of_lt_of_le E_a1.lt (Nat.le_of_eq g3.symm))
  have gn_b3 : n0 ≤ b3 := Nat.le_trans Z0 (Nat.le_of_eq g3.symm)
  have sz_b3 : h0.size ≤ b3 := Nat.le_trans (Keep.refl h0 [a1]).1 (Nat.le_of_eq g3.symm)
  have Zs3 : n0 ≤ h3.size := Nat.le_trans Z0 E3.1
  have Fa4 : Exa Z h3 a1 "com/example/millrace/millrace/wire/ProtocolWriter" := E_a1.ext E3
  have Fa5 : Fld Z h3 a1 "com/example/millrace/millrace/wire/ProtocolWriter" "bytes" "[B" .null := F_b.ext E3
  have Fa6 : Fld Z h3 a1 "com/example/millrace/millrace/wire/ProtocolWriter" "position" "I" (.int (0 : Int32)) := F_p.ext E3
  have Ke3 : Keep h0 h3 [a1] := (Keep.refl h0 [a1]).ext E3
  have V3 : Arv Z h3 b3 k3 .byte (16 : Int32) [(.int (0 : Int32)), (.int (0 : Int32)), (.int (0 : Int32)), (.int (0 : Int32)), (.int (0 : Int32)), (.int (0 : Int32)), (.int (0 : Int32)), (.int (0 : Int32)), (.int (0 : Int32)), (.int (0 : Int32)), (.int (0 : Int32)), (.int (0 : Int32)), (.int (0 : Int32)), (.int (0 : Int32)), (.int (0 : Int32)), (.int (0 : Int32))] (.int (0 : Int32)) := (Arv.new A3 (by decide)).pad (pad_rep [] (.int (0 : Int32)) 16)
  refine own_st (T' := T3) (g' := (mkF m 13 #[.val (.ref a1), .val (.int (16 : Int32))] [(.ref b3), (.ref a1)])) (fun _ k => (st3) _ k) ?_
  obtain ⟨T7, h7, X7, e7, W7, st7⟩ := putF X3 hx hZ hown (host := "") (Or.inl (hw _ (List.mem_of_getElem? (i := 15) rfl))) Via.refl e3 Fa5 Fa4 (Or.inl (hw _ (List.mem_of_getElem? (i := 16) rfl))) (hw _ (List.mem_of_getElem? (i := 2) rfl)) (ty := (.array .byte)) (by decide) rfl rfl (g := (mkF m 13 #[.val (.ref a1), .val (.int (16 : Int32))] [(.ref b3), (.ref a1)])) rfl rfl (hb hby d1_13)
  have Fw7 := Fa5.same W7
  have Zs7 : n0 ≤ h7.size := Nat.le_trans Zs3 (Keep.of_wr W7).1
  obtain ⟨lc7, X7, N7⟩ := own_loc X7 (Fr.snoc X7 N2 gn_a1)
  have Fa8 : Exa Z h7 a1 "com/example/millrace/millrace/wire/ProtocolWriter" := Fa4.wr W7
  have Fa9 : Fld Z h7 a1 "com/example/millrace/millrace/wire/ProtocolWriter" "position" "I" (.int (0 : Int32)) := Fa6.other W7 (Or.inr (slot_ne (Or.inl (hw _ (List.mem_of_getElem? (i := 27) rfl))) (Or.inl (hw _ (List.mem_of_getElem? (i := 16) rfl))) (by decide) (t := .int) (t' := (.array .byte)) (by decide) (by decide)))
  have Fa10 : Arv Z h7 b3 k3 .byte (16 : Int32) [(.int (0 : Int32)), (.int (0 : Int32)), (.int (0 : Int32)), (.int (0 : Int32)), (.int (0 : Int32)), (.int (0 : Int32)), (.int (0 : Int32)), (.int (0 : Int32)), (.int (0 : Int32)), (.int (0 : Int32)), (.int (0 : Int32)), (.int (0 : Int32)), (.int (0 : Int32)), (.int (0 : Int32)), (.int (0 : Int32)), (.int (0 : Int32))] (.int (0 : Int32)) := V3.other W7 (Ne.symm ne_a1_b3)
  have Ke7 : Keep h0 h7 [a1] := Ke3.wr W7 (Or.inl (List.mem_of_getElem? (i := 0) rfl))
  refine own_st (T' := T7) (g' := (mkF m 16 #[.val (.ref a1), .val (.int (16 : Int32))] [])) (fun _ k => (st7) _ k) ?_
  exact own_end (Q := Q1 Z a1  h0 n0) (v := none) X7 (fun _ => rfl) (fun fs hr => X7.returnOut hx Bd.returns (hb hby d1_16) hr) (by rw [e7]; exact ⟨rfl, N7, Ke7, Fa8, ⟨b3, k3, sz_b3, Fw7, Fa9, Fa10⟩⟩) (by decide) (by decide)
theorem d5_0 : decode prog_128_method_34_code 0 = .ok (.iload_n 1, 1) := by decide +kernel
theorem d5_1 : decode prog_128_method_34_code 1 = .ok (.aload_n 0, 1) := by decide +kernel
theorem d5_2 : decode prog_128_method_34_code 2 = .ok (.getfield 13, 3) := by decide +kernel
theorem d5_5 : decode prog_128_method_34_code 5 = .ok (.arraylength, 1) := by decide +kernel
theorem d5_6 : decode prog_128_method_34_code 6 = .ok (.aload_n 0, 1) := by decide +kernel
theorem d5_7 : decode prog_128_method_34_code 7 = .ok (.getfield 19, 3) := by decide +kernel
theorem d5_10 : decode prog_128_method_34_code 10 = .ok (.isub, 1) := by decide +kernel
theorem d5_11 : decode prog_128_method_34_code 11 = .ok (.if_icmp .le 8, 3) := by decide +kernel
theorem d5_19 : decode prog_128_method_34_code 19 = .ok (.return_, 1) := by decide +kernel
theorem own_pn5 : plainName "com/example/millrace/millrace/wire/ProtocolWriter" = true := by first | (simp [plainName, overriddenIn]; done) | decide +kernel
theorem own_ef5 (m : MethodId) (x0 : Addr) (x1 : Int32) : entryFrame m #[(.ref x0), (.int x1)] 2 = mkF m 0 #[.val (.ref x0), .val (.int x1)] [] := by first | (simp [entryFrame, mkF, argsToLocals, Value.category]; done) | rfl
def Q5 (Z : State) (a1 : Addr) (p2 : Int32) (t : Addr) (pos : Int32) (ka : ClassId) (Ls : List Int32) (h0 : Heap) (n0 : Nat) (v : Option Value) (h : Heap) (L : List Loc) : Prop := v = none ∧ Fr n0 L ∧ h = h0
set_option maxRecDepth 65536 in
set_option maxHeartbeats 40000000 in
theorem rm5 (l : Launch) (Z : State) (a0 : Array Value) (hw : ∀ d ∈ tables_1, d.before a0 Z = true) (ws : List Jvm.Cond) (a1 : Addr) (p2 : Int32) (t : Addr) (pos : Int32) (ka : ClassId) (Ls : List Int32) (h0 : Heap) (n0 : Nat) (Z0 : n0 ≤ h0.size) (F_b : Fld Z h0 a1 "com/example/millrace/millrace/wire/ProtocolWriter" "bytes" "[B" (.ref t)) (F_p : Fld Z h0 a1 "com/example/millrace/millrace/wire/ProtocolWriter" "position" "I" (.int pos)) (V_t : Arv Z h0 t ka .byte (16 : Int32) (Ls.map Value.int) (.int (0 : Int32)))  (hno : ¬ ((16 : Int32) - pos) < p2) :
    MetFree l (⟨"com/example/millrace/millrace/wire/ProtocolWriter", "ensure", "(I)V"⟩ : MethodName) (head1 (Jvm.Cond.code (⟨"com/example/millrace/millrace/wire/ProtocolWriter", "ensure", "(I)V"⟩ : MethodName) prog_128_method_34_code 2 none :: ws) ({ frames := 0, cells := 0, slots := 0, locals := 0 } : Room)) (fun a U => a = #[(.ref a1), (.int p2)] ∧ Z.Warmed39 U.vm ∧ U.heap = h0) (fun _ _ _ _ _ => True) (fun _ U o U' => ∃ v L, o = .returned v ∧ Q5 Z a1 p2 t pos ka Ls h0 n0 v U'.heap L ∧ FrameEnd U o U' L ({ frames := 0, cells := 0, slots := 0, locals := 0 } : Room).cells ({ frames := 0, cells := 0, slots := 0, locals := 0 } : Room).slots) := by
  refine MetFree.of_bodySF (plainFor_of_name own_pn5) hisR ?_
  intro p e s m args below meth c s₁ Bd hml0 hP hK
  obtain ⟨rfl, hZ, hh⟩ := hP
  have hx := Bd.exec
  have hby := Bd.bytes
  have hml : c.maxLocals = 2 := hml0
  have hown : s.vm.findClass "com/example/millrace/millrace/wire/ProtocolWriter" = some m.cls := findClass_of_methodNamed Bd.named
  have hnm := (name_of_methodNamed Bd.named Bd.method).1
  have hlk := Bd.notSynchronized
  have X0 : Stand p l e ({ frames := 0, cells := 0, slots := 0, locals := 0 } : Room) s m #[(.ref a1), (.int p2)] below meth c s₁ [] 0 0 := Stand.of_body Bd
  have e0 : s₁.heap = h0 := by rw [← hh, Bd.state]; rfl
  have N0 := Fr.nil n0
  show own_Goes p e below (fun o U' => ∃ v L, o = .returned v ∧ Q5 Z a1 p2 t pos ka Ls h0 n0 v U'.heap L ∧ FrameEnd s o U' L ({ frames := 0, cells := 0, slots := 0, locals := 0 } : Room).cells ({ frames := 0, cells := 0, slots := 0, locals := 0 } : Room).slots) s₁ (entryFrame m #[(.ref a1), (.int p2)] 2)
  refine own_st (T' := s₁) (g' := mkF m 0 #[.val (.ref a1), .val (.int p2)] []) (fun _ k => castTop (own_ef5 m a1 p2) k) ?_
  refine own_st (T' := s₁) (g' := (mkF m 1 #[.val (.ref a1), .val (.int p2)] [(.int p2)])) (fun _ k => Jvm.Free.XS.iloadN (g := (mkF m 0 #[.val (.ref a1), .val (.int p2)] [])) X0.here hx rfl (hb hby d5_0) rfl k) ?_
  refine own_st (T' := s₁) (g' := (mkF m 2 #[.val (.ref a1), .val (.int p2)] [(.ref a1), (.int p2)])) (fun _ k => Jvm.Free.XS.aloadN (g := (mkF m 1 #[.val (.ref a1), .val (.int p2)] [(.int p2)])) X0.here hx rfl (hb hby d5_1) rfl rfl k) ?_
  obtain ⟨T1, X1, e1, st1⟩ := getF X0 hx hZ hown (host := "") (Or.inl (hw _ (List.mem_of_getElem? (i := 15) rfl))) Via.refl e0 F_b (g := (mkF m 2 #[.val (.ref a1), .val (.int p2)] [(.ref a1), (.int p2)])) rfl rfl (hb hby d5_2)
  refine own_st (T' := T1) (g' := (mkF m 5 #[.val (.ref a1), .val (.int p2)] [(.ref t), (.int p2)])) (fun _ k => (st1) _ k) ?_
  obtain ⟨cl2, Ar2, -, Sz2, Nn2, -, -⟩ := id V_t
  have al2 := X1.arraylength hx (by rw [e1]; exact Ar2.1) (State.isArrayOf_alike hZ.alike Ar2.2.1) (g := (mkF m 5 #[.val (.ref a1), .val (.int p2)] [(.ref t), (.int p2)])) rfl rfl (hb hby d5_5)
  rw [len_of Sz2 Nn2] at al2
  refine own_st (T' := T1) (g' := (mkF m 6 #[.val (.ref a1), .val (.int p2)] [(.int (16 : Int32)), (.int p2)])) (fun _ k => (al2) _ k) ?_
  refine own_st (T' := T1) (g' := (mkF m 7 #[.val (.ref a1), .val (.int p2)] [(.ref a1), (.int (16 : Int32)), (.int p2)])) (fun _ k => Jvm.Free.XS.aloadN (g := (mkF m 6 #[.val (.ref a1), .val (.int p2)] [(.int (16 : Int32)), (.int p2)])) X1.here hx rfl (hb hby d5_6) rfl rfl k) ?_
  obtain ⟨T3, X3, e3, st3⟩ := getF X1 hx hZ hown (host := "") (Or.inl (hw _ (List.mem_of_getElem? (i := 26) rfl))) Via.refl e1 F_p (g := (mkF m 7 #[.val (.ref a1), .val (.int p2)] [(.ref a1), (.int (16 : Int32)), (.int p2)])) rfl rfl (hb hby d5_7)
  refine own_st (T' := T3) (g' := (mkF m 10 #[.val (.ref a1), .val (.int p2)] [(.int pos), (.int (16 : Int32)), (.int p2)])) (fun _ k => (st3) _ k) ?_
  refine own_st (T' := T3) (g' := (mkF m 11 #[.val (.ref a1), .val (.int p2)] [(.int ((16 : Int32) - pos)), (.int p2)])) (fun _ k => Jvm.Free.XS.isub (g := (mkF m 10 #[.val (.ref a1), .val (.int p2)] [(.int pos), (.int (16 : Int32)), (.int p2)])) X3.here hx rfl (hb hby d5_10) rfl k) ?_
  refine own_st (T' := T3) (g' := (mkF m 19 #[.val (.ref a1), .val (.int p2)] [])) (fun _ k => XS.icmpYes (g := (mkF m 11 #[.val (.ref a1), .val (.int p2)] [(.int ((16 : Int32) - pos)), (.int p2)])) X3.here hx rfl (pc0 := 11) (pc' := 19) rfl (hb hby d5_11) rfl (flt hno).2.2.2 (by decide) (by decide) k) ?_
  exact own_end (Q := Q5 Z a1 p2 t pos ka Ls h0 n0) (v := none) X3 (fun _ => rfl) (fun fs hr => X3.returnOut hx Bd.returns (hb hby d5_19) hr) (⟨rfl, N0, e3⟩) (by decide) (by decide)
theorem d4_0 : decode prog_128_method_16_code 0 = .ok (.aload_n 0, 1) := by decide +kernel
theorem d4_1 : decode prog_128_method_16_code 1 = .ok (.iload_n 1, 1) := by decide +kernel
theorem d4_2 : decode prog_128_method_16_code 2 = .ok (.invokevirtual 54, 3) := by decide +kernel
theorem d4_5 : decode prog_128_method_16_code 5 = .ok (.aload_n 0, 1) := by decide +kernel
theorem d4_6 : decode prog_128_method_16_code 6 = .ok (.getfield 13, 3) := by decide +kernel
theorem d4_9 : decode prog_128_method_16_code 9 = .ok (.areturn, 1) := by decide +kernel
theorem own_pn4 : plainName "com/example/millrace/millrace/wire/ProtocolWriter" = true := by first | (simp [plainName, overriddenIn]; done) | decide +kernel
theorem own_pd4_0 : parseMethodDescriptor "(I)V" = some ⟨[.int], none⟩ := by decide +kernel
theorem own_ef4 (m : MethodId) (x0 : Addr) (x1 : Int32) : entryFrame m #[(.ref x0), (.int x1)] 2 = mkF m 0 #[.val (.ref x0), .val (.int x1)] [] := by first | (simp [entryFrame, mkF, argsToLocals, Value.category]; done) | rfl
def Q4 (Z : State) (a1 : Addr) (p2 : Int32) (t : Addr) (pos : Int32) (ka : ClassId) (Ls : List Int32) (h0 : Heap) (n0 : Nat) (v : Option Value) (h : Heap) (L : List Loc) : Prop := v = some (.ref t) ∧ Fr n0 L ∧ h = h0
set_option maxRecDepth 65536 in
set_option maxHeartbeats 40000000 in
theorem rm4 (l : Launch) (Z : State) (a0 : Array Value) (hw : ∀ d ∈ tables_1, d.before a0 Z = true) (ws : List Jvm.Cond) (a1 : Addr) (p2 : Int32) (t : Addr) (pos : Int32) (ka : ClassId) (Ls : List Int32) (h0 : Heap) (n0 : Nat) (Z0 : n0 ≤ h0.size) (E_a1 : Exa Z h0 a1 "com/example/millrace/millrace/wire/ProtocolWriter") (F_b : Fld Z h0 a1 "com/example/millrace/millrace/wire/ProtocolWriter" "bytes" "[B" (.ref t)) (F_p : Fld Z h0 a1 "com/example/millrace/millrace/wire/ProtocolWriter" "position" "I" (.int pos)) (V_t : Arv Z h0 t ka .byte (16 : Int32) (Ls.map Value.int) (.int (0 : Int32)))  (hno : ¬ ((16 : Int32) - pos) < p2) :
    MetFree l (⟨"com/example/millrace/millrace/wire/ProtocolWriter", "reserve", "(I)[B"⟩ : MethodName) (head1 (Jvm.Cond.code (⟨"com/example/millrace/millrace/wire/ProtocolWriter", "reserve", "(I)[B"⟩ : MethodName) prog_128_method_16_code 2 (some (.array .byte)) :: ws) ({ frames := 1, cells := 0, slots := 0, locals := 13 } : Room)) (fun a U => a = #[(.ref a1), (.int p2)] ∧ Z.Warmed39 U.vm ∧ U.heap = h0) (fun _ _ _ _ _ => True) (fun _ U o U' => ∃ v L, o = .returned v ∧ Q4 Z a1 p2 t pos ka Ls h0 n0 v U'.heap L ∧ FrameEnd U o U' L ({ frames := 1, cells := 0, slots := 0, locals := 13 } : Room).cells ({ frames := 1, cells := 0, slots := 0, locals := 13 } : Room).slots) := by
  refine MetFree.of_bodySF (plainFor_of_name own_pn4) hisR ?_
  intro p e s m args below meth c s₁ Bd hml0 hP hK
  obtain ⟨rfl, hZ, hh⟩ := hP
  have hx := Bd.exec
  have hby := Bd.bytes
  have hml : c.maxLocals = 2 := hml0
  have hown : s.vm.findClass "com/example/millrace/millrace/wire/ProtocolWriter" = some m.cls := findClass_of_methodNamed Bd.named
  have hnm := (name_of_methodNamed Bd.named Bd.method).1
  have hlk := Bd.notSynchronized
  have X0 : Stand p l e ({ frames := 1, cells := 0, slots := 0, locals := 13 } : Room) s m #[(.ref a1), (.int p2)] below meth c s₁ [] 0 0 := Stand.of_body Bd
  have e0 : s₁.heap = h0 := by rw [← hh, Bd.state]; rfl
  have N0 := Fr.nil n0
  show own_Goes p e below (fun o U' => ∃ v L, o = .returned v ∧ Q4 Z a1 p2 t pos ka Ls h0 n0 v U'.heap L ∧ FrameEnd s o U' L ({ frames := 1, cells := 0, slots := 0, locals := 13 } : Room).cells ({ frames := 1, cells := 0, slots := 0, locals := 13 } : Room).slots) s₁ (entryFrame m #[(.ref a1), (.int p2)] 2)
  refine own_st (T' := s₁) (g' := mkF m 0 #[.val (.ref a1), .val (.int p2)] []) (fun _ k => castTop (own_ef4 m a1 p2) k) ?_
  refine own_st (T' := s₁) (g' := (mkF m 1 #[.val (.ref a1), .val (.int p2)] [(.ref a1)])) (fun _ k => Jvm.Free.XS.aloadN (g := (mkF m 0 #[.val (.ref a1), .val (.int p2)] [])) X0.here hx rfl (hb hby d4_0) rfl rfl k) ?_
  refine own_st (T' := s₁) (g' := (mkF m 2 #[.val (.ref a1), .val (.int p2)] [(.int p2), (.ref a1)])) (fun _ k => Jvm.Free.XS.iloadN (g := (mkF m 1 #[.val (.ref a1), .val (.int p2)] [(.ref a1)])) X0.here hx rfl (hb hby d4_1) rfl k) ?_
  obtain ⟨cq1, q1, q1'⟩ := E_a1.cell
  obtain ⟨v1, T1, L1, X1, hQ1, st1⟩ := own_packV (X0.privateBack hx (y := (⟨"com/example/millrace/millrace/wire/ProtocolWriter", "ensure", "(I)V"⟩ : MethodName)) hown (mvT hZ (hw _ (List.mem_of_getElem? (i := 22) rfl))) (mvT hZ (hw _ (List.mem_of_getElem? (i := 23) rfl))) (own_selP (mvT hZ (hw _ (List.mem_of_getElem? (i := 2) rfl))) (Cond.privateMethod_at (mvP hZ (hw _ (List.mem_of_getElem? (i := 24) rfl)) (args := #[]))) (mvT hZ (hw _ (List.mem_of_getElem? (i := 23) rfl))) (by decide)) (Cond.privateMethod_at (mvP hZ (hw _ (List.mem_of_getElem? (i := 24) rfl)) (args := #[]))) (mvT hZ (hw _ (List.mem_of_getElem? (i := 25) rfl))) (by decide) (backOf (W := 0) (rm5 l Z a0 hw [] a1 p2 t pos ka Ls h0 n0 Z0 F_b F_p V_t hno) hZ (hw _ (List.mem_of_getElem? (i := 25) rfl)) (hw _ (List.mem_of_getElem? (i := 3) rfl)) (by decide) (by decide)) (g := (mkF m 2 #[.val (.ref a1), .val (.int p2)] [(.int p2), (.ref a1)])) rfl (by rw [hml]; rfl) (Steps.refl _) (a := a1) (by rw [e0]; exact q1) q1' (argsL := [(.int p2)]) (rest := []) (lenOf own_pd4_0 rfl) rfl (by show 2 * 0 + _ ≤ _; exact Nat.le_of_eq rfl) (hb hby d4_2) (fun _ _ => ⟨rfl, e0, (by decide : 0 + 0 ≤ _), (by decide : 0 + 0 ≤ _)⟩))
  obtain ⟨rfl, N1q, e1⟩ := hQ1
  obtain ⟨lc1, X1, N1⟩ := own_loc X1 (Fr.app N0 N1q)
  refine own_st (T' := T1) (g' := (mkF m 5 #[.val (.ref a1), .val (.int p2)] [])) (fun _ k => (st1) _ k) ?_
  refine own_st (T' := T1) (g' := (mkF m 6 #[.val (.ref a1), .val (.int p2)] [(.ref a1)])) (fun _ k => Jvm.Free.XS.aloadN (g := (mkF m 5 #[.val (.ref a1), .val (.int p2)] [])) X1.here hx rfl (hb hby d4_5) rfl rfl k) ?_
  obtain ⟨T2, X2, e2, st2⟩ := getF X1 hx hZ hown (host := "") (Or.inl (hw _ (List.mem_of_getElem? (i := 15) rfl))) Via.refl e1 F_b (g := (mkF m 6 #[.val (.ref a1), .val (.int p2)] [(.ref a1)])) rfl rfl (hb hby d4_6)
  refine own_st (T' := T2) (g' := (mkF m 9 #[.val (.ref a1), .val (.int p2)] [(.ref t)])) (fun _ k => (st2) _ k) ?_
  exact own_end (Q := Q4 Z a1 p2 t pos ka Ls h0 n0) (v := some (.ref t)) X2 (fun h => by rw [Bd.returns] at h; cases h) (fun fs hr => X2.areturnOut hx rfl Bd.returns rfl (hb hby d4_9) hr) (⟨rfl, N1, e2⟩) (by decide) (by decide)
theorem d7_0 : decode prog_128_method_17_code 0 = .ok (.aload_n 0, 1) := by decide +kernel
theorem d7_1 : decode prog_128_method_17_code 1 = .ok (.iload_n 1, 1) := by decide +kernel
theorem d7_2 : decode prog_128_method_17_code 2 = .ok (.putfield 19, 3) := by decide +kernel
theorem d7_5 : decode prog_128_method_17_code 5 = .ok (.return_, 1) := by decide +kernel
theorem own_pn7 : plainName "com/example/millrace/millrace/wire/ProtocolWriter" = true := by first | (simp [plainName, overriddenIn]; done) | decide +kernel
theorem own_ef7 (m : MethodId) (x0 : Addr) (x1 : Int32) : entryFrame m #[(.ref x0), (.int x1)] 2 = mkF m 0 #[.val (.ref x0), .val (.int x1)] [] := by first | (simp [entryFrame, mkF, argsToLocals, Value.category]; done) | rfl
def Q7 (Z : State) (a1 : Addr) (p2 : Int32) (t : Addr) (pos : Int32) (h0 : Heap) (n0 : Nat) (v : Option Value) (h : Heap) (L : List Loc) : Prop := v = none ∧ Fr n0 L ∧ Keep h0 h [a1] ∧ Fld Z h a1 "com/example/millrace/millrace/wire/ProtocolWriter" "bytes" "[B" (.ref t) ∧ Fld Z h a1 "com/example/millrace/millrace/wire/ProtocolWriter" "position" "I" (.int p2)
set_option maxRecDepth 65536 in
set_option maxHeartbeats 40000000 in
theorem rm7 (l : Launch) (Z : State) (a0 : Array Value) (hw : ∀ d ∈ tables_1, d.before a0 Z = true) (ws : List Jvm.Cond) (a1 : Addr) (p2 : Int32) (t : Addr) (pos : Int32) (h0 : Heap) (n0 : Nat) (Z0 : n0 ≤ h0.size) (E_a1 : Exa Z h0 a1 "com/example/millrace/millrace/wire/ProtocolWriter") (F_b : Fld Z h0 a1 "com/example/millrace/millrace/wire/ProtocolWriter" "bytes" "[B" (.ref t)) (F_p : Fld Z h0 a1 "com/example/millrace/millrace/wire/ProtocolWriter" "position" "I" (.int pos)) (gn_a1 : n0 ≤ a1)  :
    MetFree l (⟨"com/example/millrace/millrace/wire/ProtocolWriter", "advanceTo", "(I)V"⟩ : MethodName) (head1 (Jvm.Cond.code (⟨"com/example/millrace/millrace/wire/ProtocolWriter", "advanceTo", "(I)V"⟩ : MethodName) prog_128_method_17_code 2 none :: ws) ({ frames := 0, cells := 0, slots := 0, locals := 0 } : Room)) (fun a U => a = #[(.ref a1), (.int p2)] ∧ Z.Warmed39 U.vm ∧ U.heap = h0) (fun _ _ _ _ _ => True) (fun _ U o U' => ∃ v L, o = .returned v ∧ Q7 Z a1 p2 t pos h0 n0 v U'.heap L ∧ FrameEnd U o U' L ({ frames := 0, cells := 0, slots := 0, locals := 0 } : Room).cells ({ frames := 0, cells := 0, slots := 0, locals := 0 } : Room).slots) := by
  refine MetFree.of_bodySF (plainFor_of_name own_pn7) hisR ?_
  intro p e s m args below meth c s₁ Bd hml0 hP hK
  obtain ⟨rfl, hZ, hh⟩ := hP
  have hx := Bd.exec
  have hby := Bd.bytes
  have hml : c.maxLocals = 2 := hml0
  have hown : s.vm.findClass "com/example/millrace/millrace/wire/ProtocolWriter" = some m.cls := findClass_of_methodNamed Bd.named
  have hnm := (name_of_methodNamed Bd.named Bd.method).1
  have hlk := Bd.notSynchronized
  have X0 : Stand p l e ({ frames := 0, cells := 0, slots := 0, locals := 0 } : Room) s m #[(.ref a1), (.int p2)] below meth c s₁ [] 0 0 := Stand.of_body Bd
  have e0 : s₁.heap = h0 := by rw [← hh, Bd.state]; rfl
  have N0 := Fr.nil n0
  show own_Goes p e below (fun o U' => ∃ v L, o = .returned v ∧ Q7 Z a1 p2 t pos h0 n0 v U'.heap L ∧ FrameEnd s o U' L ({ frames := 0, cells := 0, slots := 0, locals := 0 } : Room).cells ({ frames := 0, cells := 0, slots := 0, locals := 0 } : Room).slots) s₁ (entryFrame m #[(.ref a1), (.int p2)] 2)
  refine own_st (T' := s₁) (g' := mkF m 0 #[.val (.ref a1), .val (.int p2)] []) (fun _ k => castTop (own_ef7 m a1 p2) k) ?_
  refine own_st (T' := s₁) (g' := (mkF m 1 #[.val (.ref a1), .val (.int p2)] [(.ref a1)])) (fun _ k => Jvm.Free.XS.aloadN (g := (mkF m 0 #[.val (.ref a1), .val (.int p2)] [])) X0.here hx rfl (hb hby d7_0) rfl rfl k) ?_
  refine own_st (T' := s₁) (g' := (mkF m 2 #[.val (.ref a1), .val (.int p2)] [(.int p2), (.ref a1)])) (fun _ k => Jvm.Free.XS.iloadN (g := (mkF m 1 #[.val (.ref a1), .val (.int p2)] [(.ref a1)])) X0.here hx rfl (hb hby d7_1) rfl k) ?_
  obtain ⟨T1, h1, X1, e1, W1, st1⟩ := putF X0 hx hZ hown (host := "") (Or.inl (hw _ (List.mem_of_getElem? (i := 26) rfl))) Via.refl e0 F_p E_a1 (Or.inl (hw _ (List.mem_of_getElem? (i := 27) rfl))) (hw _ (List.mem_of_getElem? (i := 2) rfl)) (ty := .int) (by decide) rfl rfl (g := (mkF m 2 #[.val (.ref a1), .val (.int p2)] [(.int p2), (.ref a1)])) rfl rfl (hb hby d7_2)
  have Fw1 := F_p.same W1
  have Zs1 : n0 ≤ h1.size := Nat.le_trans Z0 (Keep.of_wr W1).1
  obtain ⟨lc1, X1, N1⟩ := own_loc X1 (Fr.snoc X1 N0 gn_a1)
  have Fa2 : Exa Z h1 a1 "com/example/millrace/millrace/wire/ProtocolWriter" := E_a1.wr W1
  have Fa3 : Fld Z h1 a1 "com/example/millrace/millrace/wire/ProtocolWriter" "bytes" "[B" (.ref t) := F_b.other W1 (Or.inr (slot_ne (Or.inl (hw _ (List.mem_of_getElem? (i := 16) rfl))) (Or.inl (hw _ (List.mem_of_getElem? (i := 27) rfl))) (by decide) (t := (.array .byte)) (t' := .int) (by decide) (by decide)))
  have Ke1 : Keep h0 h1 [a1] := (Keep.refl h0 [a1]).wr W1 (Or.inl (List.mem_of_getElem? (i := 0) rfl))
  refine own_st (T' := T1) (g' := (mkF m 5 #[.val (.ref a1), .val (.int p2)] [])) (fun _ k => (st1) _ k) ?_
  exact own_end (Q := Q7 Z a1 p2 t pos h0 n0) (v := none) X1 (fun _ => rfl) (fun fs hr => X1.returnOut hx Bd.returns (hb hby d7_5) hr) (by rw [e1]; exact ⟨rfl, N1, Ke1, Fa3, Fw1⟩) (by decide) (by decide)
theorem d9_0 : decode prog_128_method_2_code 0 = .ok (.aload_n 0, 1) := by decide +kernel
theorem d9_1 : decode prog_128_method_2_code 1 = .ok (.getfield 19, 3) := by decide +kernel
theorem d9_4 : decode prog_128_method_2_code 4 = .ok (.ireturn, 1) := by decide +kernel
theorem own_pn9 : plainName "com/example/millrace/millrace/wire/ProtocolWriter" = true := by first | (simp [plainName, overriddenIn]; done) | decide +kernel
theorem own_ef9 (m : MethodId) (x0 : Addr) : entryFrame m #[(.ref x0)] 1 = mkF m 0 #[.val (.ref x0)] [] := by first | (simp [entryFrame, mkF, argsToLocals, Value.category]; done) | rfl
def Q9 (Z : State) (a1 : Addr) (pos : Int32) (h0 : Heap) (n0 : Nat) (v : Option Value) (h : Heap) (L : List Loc) : Prop := v = some (.int pos) ∧ Fr n0 L ∧ h = h0
set_option maxRecDepth 65536 in
set_option maxHeartbeats 40000000 in
theorem rm9 (l : Launch) (Z : State) (a0 : Array Value) (hw : ∀ d ∈ tables_1, d.before a0 Z = true) (ws : List Jvm.Cond) (a1 : Addr) (pos : Int32) (h0 : Heap) (n0 : Nat) (Z0 : n0 ≤ h0.size) (F_p : Fld Z h0 a1 "com/example/millrace/millrace/wire/ProtocolWriter" "position" "I" (.int pos))   :
    MetFree l (⟨"com/example/millrace/millrace/wire/ProtocolWriter", "position", "()I"⟩ : MethodName) (head1 (Jvm.Cond.code (⟨"com/example/millrace/millrace/wire/ProtocolWriter", "position", "()I"⟩ : MethodName) prog_128_method_2_code 1 (some .int) :: ws) ({ frames := 0, cells := 0, slots := 0, locals := 0 } : Room)) (fun a U => a = #[(.ref a1)] ∧ Z.Warmed39 U.vm ∧ U.heap = h0) (fun _ _ _ _ _ => True) (fun _ U o U' => ∃ v L, o = .returned v ∧ Q9 Z a1 pos h0 n0 v U'.heap L ∧ FrameEnd U o U' L ({ frames := 0, cells := 0, slots := 0, locals := 0 } : Room).cells ({ frames := 0, cells := 0, slots := 0, locals := 0 } : Room).slots) := by
  refine MetFree.of_bodySF (plainFor_of_name own_pn9) hisR ?_
  intro p e s m args below meth c s₁ Bd hml0 hP hK
  obtain ⟨rfl, hZ, hh⟩ := hP
  have hx := Bd.exec
  have hby := Bd.bytes
  have hml : c.maxLocals = 1 := hml0
  have hown : s.vm.findClass "com/example/millrace/millrace/wire/ProtocolWriter" = some m.cls := findClass_of_methodNamed Bd.named
  have hnm := (name_of_methodNamed Bd.named Bd.method).1
  have hlk := Bd.notSynchronized
  have X0 : Stand p l e ({ frames := 0, cells := 0, slots := 0, locals := 0 } : Room) s m #[(.ref a1)] below meth c s₁ [] 0 0 := Stand.of_body Bd
  have e0 : s₁.heap = h0 := by rw [← hh, Bd.state]; rfl
  have N0 := Fr.nil n0
  show own_Goes p e below (fun o U' => ∃ v L, o = .returned v ∧ Q9 Z a1 pos h0 n0 v U'.heap L ∧ FrameEnd s o U' L ({ frames := 0, cells := 0, slots := 0, locals := 0 } : Room).cells ({ frames := 0, cells := 0, slots := 0, locals := 0 } : Room).slots) s₁ (entryFrame m #[(.ref a1)] 1)
  refine own_st (T' := s₁) (g' := mkF m 0 #[.val (.ref a1)] []) (fun _ k => castTop (own_ef9 m a1) k) ?_
  refine own_st (T' := s₁) (g' := (mkF m 1 #[.val (.ref a1)] [(.ref a1)])) (fun _ k => Jvm.Free.XS.aloadN (g := (mkF m 0 #[.val (.ref a1)] [])) X0.here hx rfl (hb hby d9_0) rfl rfl k) ?_
  obtain ⟨T1, X1, e1, st1⟩ := getF X0 hx hZ hown (host := "") (Or.inl (hw _ (List.mem_of_getElem? (i := 26) rfl))) Via.refl e0 F_p (g := (mkF m 1 #[.val (.ref a1)] [(.ref a1)])) rfl rfl (hb hby d9_1)
  refine own_st (T' := T1) (g' := (mkF m 4 #[.val (.ref a1)] [(.int pos)])) (fun _ k => (st1) _ k) ?_
  exact own_end (Q := Q9 Z a1 pos h0 n0) (v := some (.int pos)) X1 (fun h => by rw [Bd.returns] at h; cases h) (fun fs hr => retI X1 hx Bd.returns (hb hby d9_4) hr) (⟨rfl, N0, e1⟩) (by decide) (by decide)
def own_put (Ls : List Int32) (p2 p3 : Int32) : List Int32 := ((((Ls.set (p2).toNatClampNeg (nar .byte (((((p3).toUInt32 >>> ((24 : Int32) &&& 31).toUInt32).toInt32)).toInt8.toInt32))).set ((p2 + (1 : Int32))).toNatClampNeg (nar .byte (((((p3).toUInt32 >>> ((16 : Int32) &&& 31).toUInt32).toInt32)).toInt8.toInt32))).set ((p2 + (2 : Int32))).toNatClampNeg (nar .byte (((((p3).toUInt32 >>> ((8 : Int32) &&& 31).toUInt32).toInt32)).toInt8.toInt32))).set ((p2 + (3 : Int32))).toNatClampNeg (nar .byte ((p3).toInt8.toInt32)))
theorem d8_0 : decode prog_128_method_11_code 0 = .ok (.aload_n 0, 1) := by decide +kernel
theorem d8_1 : decode prog_128_method_11_code 1 = .ok (.getfield 13, 3) := by decide +kernel
theorem d8_4 : decode prog_128_method_11_code 4 = .ok (.iload_n 1, 1) := by decide +kernel
theorem d8_5 : decode prog_128_method_11_code 5 = .ok (.iload_n 2, 1) := by decide +kernel
theorem d8_6 : decode prog_128_method_11_code 6 = .ok (.bipush 24, 2) := by decide +kernel
theorem d8_8 : decode prog_128_method_11_code 8 = .ok (.iushr, 1) := by decide +kernel
theorem d8_9 : decode prog_128_method_11_code 9 = .ok (.i2b, 1) := by decide +kernel
theorem d8_10 : decode prog_128_method_11_code 10 = .ok (.bastore, 1) := by decide +kernel
theorem d8_11 : decode prog_128_method_11_code 11 = .ok (.aload_n 0, 1) := by decide +kernel
theorem d8_12 : decode prog_128_method_11_code 12 = .ok (.getfield 13, 3) := by decide +kernel
theorem d8_15 : decode prog_128_method_11_code 15 = .ok (.iload_n 1, 1) := by decide +kernel
theorem d8_16 : decode prog_128_method_11_code 16 = .ok (.iconst 1, 1) := by decide +kernel
theorem d8_17 : decode prog_128_method_11_code 17 = .ok (.iadd, 1) := by decide +kernel
theorem d8_18 : decode prog_128_method_11_code 18 = .ok (.iload_n 2, 1) := by decide +kernel
theorem d8_19 : decode prog_128_method_11_code 19 = .ok (.bipush 16, 2) := by decide +kernel
theorem d8_21 : decode prog_128_method_11_code 21 = .ok (.iushr, 1) := by decide +kernel
theorem d8_22 : decode prog_128_method_11_code 22 = .ok (.i2b, 1) := by decide +kernel
theorem d8_23 : decode prog_128_method_11_code 23 = .ok (.bastore, 1) := by decide +kernel
theorem d8_24 : decode prog_128_method_11_code 24 = .ok (.aload_n 0, 1) := by decide +kernel
theorem d8_25 : decode prog_128_method_11_code 25 = .ok (.getfield 13, 3) := by decide +kernel
theorem d8_28 : decode prog_128_method_11_code 28 = .ok (.iload_n 1, 1) := by decide +kernel
theorem d8_29 : decode prog_128_method_11_code 29 = .ok (.iconst 2, 1) := by decide +kernel
theorem d8_30 : decode prog_128_method_11_code 30 = .ok (.iadd, 1) := by decide +kernel
theorem d8_31 : decode prog_128_method_11_code 31 = .ok (.iload_n 2, 1) := by decide +kernel
theorem d8_32 : decode prog_128_method_11_code 32 = .ok (.bipush 8, 2) := by decide +kernel
theorem d8_34 : decode prog_128_method_11_code 34 = .ok (.iushr, 1) := by decide +kernel
theorem d8_35 : decode prog_128_method_11_code 35 = .ok (.i2b, 1) := by decide +kernel
theorem d8_36 : decode prog_128_method_11_code 36 = .ok (.bastore, 1) := by decide +kernel
theorem d8_37 : decode prog_128_method_11_code 37 = .ok (.aload_n 0, 1) := by decide +kernel
theorem d8_38 : decode prog_128_method_11_code 38 = .ok (.getfield 13, 3) := by decide +kernel
theorem d8_41 : decode prog_128_method_11_code 41 = .ok (.iload_n 1, 1) := by decide +kernel
theorem d8_42 : decode prog_128_method_11_code 42 = .ok (.iconst 3, 1) := by decide +kernel
theorem d8_43 : decode prog_128_method_11_code 43 = .ok (.iadd, 1) := by decide +kernel
theorem d8_44 : decode prog_128_method_11_code 44 = .ok (.iload_n 2, 1) := by decide +kernel
theorem d8_45 : decode prog_128_method_11_code 45 = .ok (.i2b, 1) := by decide +kernel
theorem d8_46 : decode prog_128_method_11_code 46 = .ok (.bastore, 1) := by decide +kernel
theorem d8_47 : decode prog_128_method_11_code 47 = .ok (.return_, 1) := by decide +kernel
theorem own_pn8 : plainName "com/example/millrace/millrace/wire/ProtocolWriter" = true := by first | (simp [plainName, overriddenIn]; done) | decide +kernel
theorem own_ef8 (m : MethodId) (x0 : Addr) (x1 : Int32) (x2 : Int32) : entryFrame m #[(.ref x0), (.int x1), (.int x2)] 3 = mkF m 0 #[.val (.ref x0), .val (.int x1), .val (.int x2)] [] := by first | (simp [entryFrame, mkF, argsToLocals, Value.category]; done) | rfl
def Q8 (Z : State) (a1 : Addr) (p2 : Int32) (p3 : Int32) (t : Addr) (ka : ClassId) (Ls : List Int32) (h0 : Heap) (n0 : Nat) (v : Option Value) (h : Heap) (L : List Loc) : Prop := v = none ∧ Fr n0 L ∧ Keep h0 h [t] ∧ Arv Z h t ka .byte (16 : Int32) ((own_put Ls p2 p3).map Value.int) (.int (0 : Int32))
set_option maxRecDepth 65536 in
set_option maxHeartbeats 40000000 in
theorem rm8 (l : Launch) (Z : State) (a0 : Array Value) (hw : ∀ d ∈ tables_1, d.before a0 Z = true) (ws : List Jvm.Cond) (a1 : Addr) (p2 : Int32) (p3 : Int32) (t : Addr) (ka : ClassId) (Ls : List Int32) (h0 : Heap) (n0 : Nat) (Z0 : n0 ≤ h0.size) (F_b : Fld Z h0 a1 "com/example/millrace/millrace/wire/ProtocolWriter" "bytes" "[B" (.ref t)) (V_t : Arv Z h0 t ka .byte (16 : Int32) (Ls.map Value.int) (.int (0 : Int32))) (gn_t : n0 ≤ t) (hne : a1 ≠ t) (hlen : Ls.length = 16) (hat : 0 ≤ p2.toInt ∧ p2.toInt ≤ 12) :
    MetFree l (⟨"com/example/millrace/millrace/wire/ProtocolWriter", "putInt32At", "(II)V"⟩ : MethodName) (head1 (Jvm.Cond.code (⟨"com/example/millrace/millrace/wire/ProtocolWriter", "putInt32At", "(II)V"⟩ : MethodName) prog_128_method_11_code 3 none :: ws) ({ frames := 0, cells := 0, slots := 0, locals := 0 } : Room)) (fun a U => a = #[(.ref a1), (.int p2), (.int p3)] ∧ Z.Warmed39 U.vm ∧ U.heap = h0) (fun _ _ _ _ _ => True) (fun _ U o U' => ∃ v L, o = .returned v ∧ Q8 Z a1 p2 p3 t ka Ls h0 n0 v U'.heap L ∧ FrameEnd U o U' L ({ frames := 0, cells := 0, slots := 0, locals := 0 } : Room).cells ({ frames := 0, cells := 0, slots := 0, locals := 0 } : Room).slots) := by
  refine MetFree.of_bodySF (plainFor_of_name own_pn8) hisR ?_
  intro p e s m args below meth c s₁ Bd hml0 hP hK
  obtain ⟨rfl, hZ, hh⟩ := hP
  have hx := Bd.exec
  have hby := Bd.bytes
  have hml : c.maxLocals = 3 := hml0
  have hown : s.vm.findClass "com/example/millrace/millrace/wire/ProtocolWriter" = some m.cls := findClass_of_methodNamed Bd.named
  have hnm := (name_of_methodNamed Bd.named Bd.method).1
  have hlk := Bd.notSynchronized
  have X0 : Stand p l e ({ frames := 0, cells := 0, slots := 0, locals := 0 } : Room) s m #[(.ref a1), (.int p2), (.int p3)] below meth c s₁ [] 0 0 := Stand.of_body Bd
  have e0 : s₁.heap = h0 := by rw [← hh, Bd.state]; rfl
  have N0 := Fr.nil n0
  show own_Goes p e below (fun o U' => ∃ v L, o = .returned v ∧ Q8 Z a1 p2 p3 t ka Ls h0 n0 v U'.heap L ∧ FrameEnd s o U' L ({ frames := 0, cells := 0, slots := 0, locals := 0 } : Room).cells ({ frames := 0, cells := 0, slots := 0, locals := 0 } : Room).slots) s₁ (entryFrame m #[(.ref a1), (.int p2), (.int p3)] 3)
  refine own_st (T' := s₁) (g' := mkF m 0 #[.val (.ref a1), .val (.int p2), .val (.int p3)] []) (fun _ k => castTop (own_ef8 m a1 p2 p3) k) ?_
  have ne_a1_t := hne
  refine own_st (T' := s₁) (g' := (mkF m 1 #[.val (.ref a1), .val (.int p2), .val (.int p3)] [(.ref a1)])) (fun _ k => Jvm.Free.XS.aloadN (g := (mkF m 0 #[.val (.ref a1), .val (.int p2), .val (.int p3)] [])) X0.here hx rfl (hb hby d8_0) rfl rfl k) ?_
  obtain ⟨T1, X1, e1, st1⟩ := getF X0 hx hZ hown (host := "") (Or.inl (hw _ (List.mem_of_getElem? (i := 15) rfl))) Via.refl e0 F_b (g := (mkF m 1 #[.val (.ref a1), .val (.int p2), .val (.int p3)] [(.ref a1)])) rfl rfl (hb hby d8_1)
  refine own_st (T' := T1) (g' := (mkF m 4 #[.val (.ref a1), .val (.int p2), .val (.int p3)] [(.ref t)])) (fun _ k => (st1) _ k) ?_
  refine own_st (T' := T1) (g' := (mkF m 5 #[.val (.ref a1), .val (.int p2), .val (.int p3)] [(.int p2), (.ref t)])) (fun _ k => Jvm.Free.XS.iloadN (g := (mkF m 4 #[.val (.ref a1), .val (.int p2), .val (.int p3)] [(.ref t)])) X1.here hx rfl (hb hby d8_4) rfl k) ?_
  refine own_st (T' := T1) (g' := (mkF m 6 #[.val (.ref a1), .val (.int p2), .val (.int p3)] [(.int p3), (.int p2), (.ref t)])) (fun _ k => Jvm.Free.XS.iloadN (g := (mkF m 5 #[.val (.ref a1), .val (.int p2), .val (.int p3)] [(.int p2), (.ref t)])) X1.here hx rfl (hb hby d8_5) rfl k) ?_
  refine own_st (T' := T1) (g' := (mkF m 8 #[.val (.ref a1), .val (.int p2), .val (.int p3)] [(.int (24 : Int32)), (.int p3), (.int p2), (.ref t)])) (fun _ k => XS.bipush (g := (mkF m 6 #[.val (.ref a1), .val (.int p2), .val (.int p3)] [(.int p3), (.int p2), (.ref t)])) X1.here hx rfl (hb hby d8_6) k) ?_
  refine own_st (T' := T1) (g' := (mkF m 9 #[.val (.ref a1), .val (.int p2), .val (.int p3)] [(.int (((p3).toUInt32 >>> ((24 : Int32) &&& 31).toUInt32).toInt32)), (.int p2), (.ref t)])) (fun _ k => Jvm.Free.XS.iushr (g := (mkF m 8 #[.val (.ref a1), .val (.int p2), .val (.int p3)] [(.int (24 : Int32)), (.int p3), (.int p2), (.ref t)])) X1.here hx rfl (hb hby d8_8) rfl k) ?_
  refine own_st (T' := T1) (g' := (mkF m 10 #[.val (.ref a1), .val (.int p2), .val (.int p3)] [(.int (((((p3).toUInt32 >>> ((24 : Int32) &&& 31).toUInt32).toInt32)).toInt8.toInt32)), (.int p2), (.ref t)])) (fun _ k => Jvm.Free.XS.i2b (g := (mkF m 9 #[.val (.ref a1), .val (.int p2), .val (.int p3)] [(.int (((p3).toUInt32 >>> ((24 : Int32) &&& 31).toUInt32).toInt32)), (.int p2), (.ref t)])) X1.here hx rfl (hb hby d8_9) rfl k) ?_
  obtain ⟨cl2, Ar2, qk2, Sz2, Nn2, Hs2, Gs2⟩ := V_t
  have hin2 : ¬ (p2 < 0 ∨ cl2.slots.size ≤ (p2).toNatClampNeg) := inb_of Sz2 (own_at0 _ hat)
  obtain ⟨T2, h2, X2, e2, W2, st2⟩ := stB X1 hx hZ e1 Ar2 (j := p2) hin2 (g := (mkF m 10 #[.val (.ref a1), .val (.int p2), .val (.int p3)] [(.int (((((p3).toUInt32 >>> ((24 : Int32) &&& 31).toUInt32).toInt32)).toInt8.toInt32)), (.int p2), (.ref t)])) rfl rfl (hb hby d8_10)
  have V2 : Arv Z h2 t ka .byte (16 : Int32) ((Ls.set (p2).toNatClampNeg (nar .byte (((((p3).toUInt32 >>> ((24 : Int32) &&& 31).toUInt32).toInt32)).toInt8.toInt32))).map Value.int) (.int (0 : Int32)) := by
    have qv := Arv.set Ar2 qk2 Sz2 Nn2 Hs2 Gs2 (fits_nar_byte _) W2 _ rfl (by simp only [List.length_map, List.length_set, hlen]; exact own_nc _ (own_at0 _ hat))
    rw [own_mapset] at qv; exact qv
  have Zs2 : n0 ≤ h2.size := Nat.le_trans Z0 (Keep.of_wr W2).1
  obtain ⟨lc2, X2, N2⟩ := own_loc X2 (Fr.snoc X2 N0 gn_t)
  have Fa3 : Fld Z h2 a1 "com/example/millrace/millrace/wire/ProtocolWriter" "bytes" "[B" (.ref t) := F_b.other W2 (Or.inl ne_a1_t)
  have Ke2 : Keep h0 h2 [t] := (Keep.refl h0 [t]).wr W2 (Or.inl (List.mem_of_getElem? (i := 0) rfl))
  refine own_st (T' := T2) (g' := (mkF m 11 #[.val (.ref a1), .val (.int p2), .val (.int p3)] [])) (fun _ k => (st2) _ k) ?_
  refine own_st (T' := T2) (g' := (mkF m 12 #[.val (.ref a1), .val (.int p2), .val (.int p3)] [(.ref a1)])) (fun _ k => Jvm.Free.XS.aloadN (g := (mkF m 11 #[.val (.ref a1), .val (.int p2), .val (.int p3)] [])) X2.here hx rfl (hb hby d8_11) rfl rfl k) ?_
  obtain ⟨T4, X4, e4, st4⟩ := getF X2 hx hZ hown (host := "") (Or.inl (hw _ (List.mem_of_getElem? (i := 15) rfl))) Via.refl e2 Fa3 (g := (mkF m 12 #[.val (.ref a1), .val (.int p2), .val (.int p3)] [(.ref a1)])) rfl rfl (hb hby d8_12)
  refine own_st (T' := T4) (g' := (mkF m 15 #[.val (.ref a1), .val (.int p2), .val (.int p3)] [(.ref t)])) (fun _ k => (st4) _ k) ?_
  refine own_st (T' := T4) (g' := (mkF m 16 #[.val (.ref a1), .val (.int p2), .val (.int p3)] [(.int p2), (.ref t)])) (fun _ k => Jvm.Free.XS.iloadN (g := (mkF m 15 #[.val (.ref a1), .val (.int p2), .val (.int p3)] [(.ref t)])) X4.here hx rfl (hb hby d8_15) rfl k) ?_
  refine own_st (T' := T4) (g' := (mkF m 17 #[.val (.ref a1), .val (.int p2), .val (.int p3)] [(.int (1 : Int32)), (.int p2), (.ref t)])) (fun _ k => XS.iconst (g := (mkF m 16 #[.val (.ref a1), .val (.int p2), .val (.int p3)] [(.int p2), (.ref t)])) X4.here hx rfl (hb hby d8_16) k) ?_
  refine own_st (T' := T4) (g' := (mkF m 18 #[.val (.ref a1), .val (.int p2), .val (.int p3)] [(.int (p2 + (1 : Int32))), (.ref t)])) (fun _ k => Jvm.Free.XS.iadd (g := (mkF m 17 #[.val (.ref a1), .val (.int p2), .val (.int p3)] [(.int (1 : Int32)), (.int p2), (.ref t)])) X4.here hx rfl (hb hby d8_17) rfl k) ?_
  refine own_st (T' := T4) (g' := (mkF m 19 #[.val (.ref a1), .val (.int p2), .val (.int p3)] [(.int p3), (.int (p2 + (1 : Int32))), (.ref t)])) (fun _ k => Jvm.Free.XS.iloadN (g := (mkF m 18 #[.val (.ref a1), .val (.int p2), .val (.int p3)] [(.int (p2 + (1 : Int32))), (.ref t)])) X4.here hx rfl (hb hby d8_18) rfl k) ?_
  refine own_st (T' := T4) (g' := (mkF m 21 #[.val (.ref a1), .val (.int p2), .val (.int p3)] [(.int (16 : Int32)), (.int p3), (.int (p2 + (1 : Int32))), (.ref t)])) (fun _ k => XS.bipush (g := (mkF m 19 #[.val (.ref a1), .val (.int p2), .val (.int p3)] [(.int p3), (.int (p2 + (1 : Int32))), (.ref t)])) X4.here hx rfl (hb hby d8_19) k) ?_
  refine own_st (T' := T4) (g' := (mkF m 22 #[.val (.ref a1), .val (.int p2), .val (.int p3)] [(.int (((p3).toUInt32 >>> ((16 : Int32) &&& 31).toUInt32).toInt32)), (.int (p2 + (1 : Int32))), (.ref t)])) (fun _ k => Jvm.Free.XS.iushr (g := (mkF m 21 #[.val (.ref a1), .val (.int p2), .val (.int p3)] [(.int (16 : Int32)), (.int p3), (.int (p2 + (1 : Int32))), (.ref t)])) X4.here hx rfl (hb hby d8_21) rfl k) ?_
  refine own_st (T' := T4) (g' := (mkF m 23 #[.val (.ref a1), .val (.int p2), .val (.int p3)] [(.int (((((p3).toUInt32 >>> ((16 : Int32) &&& 31).toUInt32).toInt32)).toInt8.toInt32)), (.int (p2 + (1 : Int32))), (.ref t)])) (fun _ k => Jvm.Free.XS.i2b (g := (mkF m 22 #[.val (.ref a1), .val (.int p2), .val (.int p3)] [(.int (((p3).toUInt32 >>> ((16 : Int32) &&& 31).toUInt32).toInt32)), (.int (p2 + (1 : Int32))), (.ref t)])) X4.here hx rfl (hb hby d8_22) rfl k) ?_
  obtain ⟨cl5, Ar5, qk5, Sz5, Nn5, Hs5, Gs5⟩ := V2
  have hin5 : ¬ ((p2 + (1 : Int32)) < 0 ∨ cl5.slots.size ≤ ((p2 + (1 : Int32))).toNatClampNeg) := inb_of Sz5 (own_at _ 1 1 rfl (by decide) hat)
  obtain ⟨T5, h5, X5, e5, W5, st5⟩ := stB X4 hx hZ e4 Ar5 (j := (p2 + (1 : Int32))) hin5 (g := (mkF m 23 #[.val (.ref a1), .val (.int p2), .val (.int p3)] [(.int (((((p3).toUInt32 >>> ((16 : Int32) &&& 31).toUInt32).toInt32)).toInt8.toInt32)), (.int (p2 + (1 : Int32))), (.ref t)])) rfl rfl (hb hby d8_23)
  have V5 : Arv Z h5 t ka .byte (16 : Int32) (((Ls.set (p2).toNatClampNeg (nar .byte (((((p3).toUInt32 >>> ((24 : Int32) &&& 31).toUInt32).toInt32)).toInt8.toInt32))).set ((p2 + (1 : Int32))).toNatClampNeg (nar .byte (((((p3).toUInt32 >>> ((16 : Int32) &&& 31).toUInt32).toInt32)).toInt8.toInt32))).map Value.int) (.int (0 : Int32)) := by
    have qv := Arv.set Ar5 qk5 Sz5 Nn5 Hs5 Gs5 (fits_nar_byte _) W5 _ rfl (by simp only [List.length_map, List.length_set, hlen]; exact own_nc _ (own_at _ 1 1 rfl (by decide) hat))
    rw [own_mapset] at qv; exact qv
  have Zs5 : n0 ≤ h5.size := Nat.le_trans Zs2 (Keep.of_wr W5).1
  obtain ⟨lc5, X5, N5⟩ := own_loc X5 (Fr.snoc X5 N2 gn_t)
  have Fa6 : Fld Z h5 a1 "com/example/millrace/millrace/wire/ProtocolWriter" "bytes" "[B" (.ref t) := Fa3.other W5 (Or.inl ne_a1_t)
  have Ke5 : Keep h0 h5 [t] := Ke2.wr W5 (Or.inl (List.mem_of_getElem? (i := 0) rfl))
  refine own_st (T' := T5) (g' := (mkF m 24 #[.val (.ref a1), .val (.int p2), .val (.int p3)] [])) (fun _ k => (st5) _ k) ?_
  refine own_st (T' := T5) (g' := (mkF m 25 #[.val (.ref a1), .val (.int p2), .val (.int p3)] [(.ref a1)])) (fun _ k => Jvm.Free.XS.aloadN (g := (mkF m 24 #[.val (.ref a1), .val (.int p2), .val (.int p3)] [])) X5.here hx rfl (hb hby d8_24) rfl rfl k) ?_
  obtain ⟨T7, X7, e7, st7⟩ := getF X5 hx hZ hown (host := "") (Or.inl (hw _ (List.mem_of_getElem? (i := 15) rfl))) Via.refl e5 Fa6 (g := (mkF m 25 #[.val (.ref a1), .val (.int p2), .val (.int p3)] [(.ref a1)])) rfl rfl (hb hby d8_25)
  refine own_st (T' := T7) (g' := (mkF m 28 #[.val (.ref a1), .val (.int p2), .val (.int p3)] [(.ref t)])) (fun _ k => (st7) _ k) ?_
  refine own_st (T' := T7) (g' := (mkF m 29 #[.val (.ref a1), .val (.int p2), .val (.int p3)] [(.int p2), (.ref t)])) (fun _ k => Jvm.Free.XS.iloadN (g := (mkF m 28 #[.val (.ref a1), .val (.int p2), .val (.int p3)] [(.ref t)])) X7.here hx rfl (hb hby d8_28) rfl k) ?_
  refine own_st (T' := T7) (g' := (mkF m 30 #[.val (.ref a1), .val (.int p2), .val (.int p3)] [(.int (2 : Int32)), (.int p2), (.ref t)])) (fun _ k => XS.iconst (g := (mkF m 29 #[.val (.ref a1), .val (.int p2), .val (.int p3)] [(.int p2), (.ref t)])) X7.here hx rfl (hb hby d8_29) k) ?_
  refine own_st (T' := T7) (g' := (mkF m 31 #[.val (.ref a1), .val (.int p2), .val (.int p3)] [(.int (p2 + (2 : Int32))), (.ref t)])) (fun _ k => Jvm.Free.XS.iadd (g := (mkF m 30 #[.val (.ref a1), .val (.int p2), .val (.int p3)] [(.int (2 : Int32)), (.int p2), (.ref t)])) X7.here hx rfl (hb hby d8_30) rfl k) ?_
  refine own_st (T' := T7) (g' := (mkF m 32 #[.val (.ref a1), .val (.int p2), .val (.int p3)] [(.int p3), (.int (p2 + (2 : Int32))), (.ref t)])) (fun _ k => Jvm.Free.XS.iloadN (g := (mkF m 31 #[.val (.ref a1), .val (.int p2), .val (.int p3)] [(.int (p2 + (2 : Int32))), (.ref t)])) X7.here hx rfl (hb hby d8_31) rfl k) ?_
  refine own_st (T' := T7) (g' := (mkF m 34 #[.val (.ref a1), .val (.int p2), .val (.int p3)] [(.int (8 : Int32)), (.int p3), (.int (p2 + (2 : Int32))), (.ref t)])) (fun _ k => XS.bipush (g := (mkF m 32 #[.val (.ref a1), .val (.int p2), .val (.int p3)] [(.int p3), (.int (p2 + (2 : Int32))), (.ref t)])) X7.here hx rfl (hb hby d8_32) k) ?_
  refine own_st (T' := T7) (g' := (mkF m 35 #[.val (.ref a1), .val (.int p2), .val (.int p3)] [(.int (((p3).toUInt32 >>> ((8 : Int32) &&& 31).toUInt32).toInt32)), (.int (p2 + (2 : Int32))), (.ref t)])) (fun _ k => Jvm.Free.XS.iushr (g := (mkF m 34 #[.val (.ref a1), .val (.int p2), .val (.int p3)] [(.int (8 : Int32)), (.int p3), (.int (p2 + (2 : Int32))), (.ref t)])) X7.here hx rfl (hb hby d8_34) rfl k) ?_
  refine own_st (T' := T7) (g' := (mkF m 36 #[.val (.ref a1), .val (.int p2), .val (.int p3)] [(.int (((((p3).toUInt32 >>> ((8 : Int32) &&& 31).toUInt32).toInt32)).toInt8.toInt32)), (.int (p2 + (2 : Int32))), (.ref t)])) (fun _ k => Jvm.Free.XS.i2b (g := (mkF m 35 #[.val (.ref a1), .val (.int p2), .val (.int p3)] [(.int (((p3).toUInt32 >>> ((8 : Int32) &&& 31).toUInt32).toInt32)), (.int (p2 + (2 : Int32))), (.ref t)])) X7.here hx rfl (hb hby d8_35) rfl k) ?_
  obtain ⟨cl8, Ar8, qk8, Sz8, Nn8, Hs8, Gs8⟩ := V5
  have hin8 : ¬ ((p2 + (2 : Int32)) < 0 ∨ cl8.slots.size ≤ ((p2 + (2 : Int32))).toNatClampNeg) := inb_of Sz8 (own_at _ 2 2 rfl (by decide) hat)
  obtain ⟨T8, h8, X8, e8, W8, st8⟩ := stB X7 hx hZ e7 Ar8 (j := (p2 + (2 : Int32))) hin8 (g := (mkF m 36 #[.val (.ref a1), .val (.int p2), .val (.int p3)] [(.int (((((p3).toUInt32 >>> ((8 : Int32) &&& 31).toUInt32).toInt32)).toInt8.toInt32)), (.int (p2 + (2 : Int32))), (.ref t)])) rfl rfl (hb hby d8_36)
  have V8 : Arv Z h8 t ka .byte (16 : Int32) ((((Ls.set (p2).toNatClampNeg (nar .byte (((((p3).toUInt32 >>> ((24 : Int32) &&& 31).toUInt32).toInt32)).toInt8.toInt32))).set ((p2 + (1 : Int32))).toNatClampNeg (nar .byte (((((p3).toUInt32 >>> ((16 : Int32) &&& 31).toUInt32).toInt32)).toInt8.toInt32))).set ((p2 + (2 : Int32))).toNatClampNeg (nar .byte (((((p3).toUInt32 >>> ((8 : Int32) &&& 31).toUInt32).toInt32)).toInt8.toInt32))).map Value.int) (.int (0 : Int32)) := by
    have qv := Arv.set Ar8 qk8 Sz8 Nn8 Hs8 Gs8 (fits_nar_byte _) W8 _ rfl (by simp only [List.length_map, List.length_set, hlen]; exact own_nc _ (own_at _ 2 2 rfl (by decide) hat))
    rw [own_mapset] at qv; exact qv
  have Zs8 : n0 ≤ h8.size := Nat.le_trans Zs5 (Keep.of_wr W8).1
  obtain ⟨lc8, X8, N8⟩ := own_loc X8 (Fr.snoc X8 N5 gn_t)
  have Fa9 : Fld Z h8 a1 "com/example/millrace/millrace/wire/ProtocolWriter" "bytes" "[B" (.ref t) := Fa6.other W8 (Or.inl ne_a1_t)
  have Ke8 : Keep h0 h8 [t] := Ke5.wr W8 (Or.inl (List.mem_of_getElem? (i := 0) rfl))
  refine own_st (T' := T8) (g' := (mkF m 37 #[.val (.ref a1), .val (.int p2), .val (.int p3)] [])) (fun _ k => (st8) _ k) ?_
  refine own_st (T' := T8) (g' := (mkF m 38 #[.val (.ref a1), .val (.int p2), .val (.int p3)] [(.ref a1)])) (fun _ k => Jvm.Free.XS.aloadN (g := (mkF m 37 #[.val (.ref a1), .val (.int p2), .val (.int p3)] [])) X8.here hx rfl (hb hby d8_37) rfl rfl k) ?_
  obtain ⟨T10, X10, e10, st10⟩ := getF X8 hx hZ hown (host := "") (Or.inl (hw _ (List.mem_of_getElem? (i := 15) rfl))) Via.refl e8 Fa9 (g := (mkF m 38 #[.val (.ref a1), .val (.int p2), .val (.int p3)] [(.ref a1)])) rfl rfl (hb hby d8_38)
  refine own_st (T' := T10) (g' := (mkF m 41 #[.val (.ref a1), .val (.int p2), .val (.int p3)] [(.ref t)])) (fun _ k => (st10) _ k) ?_
  refine own_st (T' := T10) (g' := (mkF m 42 #[.val (.ref a1), .val (.int p2), .val (.int p3)] [(.int p2), (.ref t)])) (fun _ k => Jvm.Free.XS.iloadN (g := (mkF m 41 #[.val (.ref a1), .val (.int p2), .val (.int p3)] [(.ref t)])) X10.here hx rfl (hb hby d8_41) rfl k) ?_
  refine own_st (T' := T10) (g' := (mkF m 43 #[.val (.ref a1), .val (.int p2), .val (.int p3)] [(.int (3 : Int32)), (.int p2), (.ref t)])) (fun _ k => XS.iconst (g := (mkF m 42 #[.val (.ref a1), .val (.int p2), .val (.int p3)] [(.int p2), (.ref t)])) X10.here hx rfl (hb hby d8_42) k) ?_
  refine own_st (T' := T10) (g' := (mkF m 44 #[.val (.ref a1), .val (.int p2), .val (.int p3)] [(.int (p2 + (3 : Int32))), (.ref t)])) (fun _ k => Jvm.Free.XS.iadd (g := (mkF m 43 #[.val (.ref a1), .val (.int p2), .val (.int p3)] [(.int (3 : Int32)), (.int p2), (.ref t)])) X10.here hx rfl (hb hby d8_43) rfl k) ?_
  refine own_st (T' := T10) (g' := (mkF m 45 #[.val (.ref a1), .val (.int p2), .val (.int p3)] [(.int p3), (.int (p2 + (3 : Int32))), (.ref t)])) (fun _ k => Jvm.Free.XS.iloadN (g := (mkF m 44 #[.val (.ref a1), .val (.int p2), .val (.int p3)] [(.int (p2 + (3 : Int32))), (.ref t)])) X10.here hx rfl (hb hby d8_44) rfl k) ?_
  refine own_st (T' := T10) (g' := (mkF m 46 #[.val (.ref a1), .val (.int p2), .val (.int p3)] [(.int ((p3).toInt8.toInt32)), (.int (p2 + (3 : Int32))), (.ref t)])) (fun _ k => Jvm.Free.XS.i2b (g := (mkF m 45 #[.val (.ref a1), .val (.int p2), .val (.int p3)] [(.int p3), (.int (p2 + (3 : Int32))), (.ref t)])) X10.here hx rfl (hb hby d8_45) rfl k) ?_
  obtain ⟨cl11, Ar11, qk11, Sz11, Nn11, Hs11, Gs11⟩ := V8
  have hin11 : ¬ ((p2 + (3 : Int32)) < 0 ∨ cl11.slots.size ≤ ((p2 + (3 : Int32))).toNatClampNeg) := inb_of Sz11 (own_at _ 3 3 rfl (by decide) hat)
  obtain ⟨T11, h11, X11, e11, W11, st11⟩ := stB X10 hx hZ e10 Ar11 (j := (p2 + (3 : Int32))) hin11 (g := (mkF m 46 #[.val (.ref a1), .val (.int p2), .val (.int p3)] [(.int ((p3).toInt8.toInt32)), (.int (p2 + (3 : Int32))), (.ref t)])) rfl rfl (hb hby d8_46)
  have V11 : Arv Z h11 t ka .byte (16 : Int32) (((((Ls.set (p2).toNatClampNeg (nar .byte (((((p3).toUInt32 >>> ((24 : Int32) &&& 31).toUInt32).toInt32)).toInt8.toInt32))).set ((p2 + (1 : Int32))).toNatClampNeg (nar .byte (((((p3).toUInt32 >>> ((16 : Int32) &&& 31).toUInt32).toInt32)).toInt8.toInt32))).set ((p2 + (2 : Int32))).toNatClampNeg (nar .byte (((((p3).toUInt32 >>> ((8 : Int32) &&& 31).toUInt32).toInt32)).toInt8.toInt32))).set ((p2 + (3 : Int32))).toNatClampNeg (nar .byte ((p3).toInt8.toInt32))).map Value.int) (.int (0 : Int32)) := by
    have qv := Arv.set Ar11 qk11 Sz11 Nn11 Hs11 Gs11 (fits_nar_byte _) W11 _ rfl (by simp only [List.length_map, List.length_set, hlen]; exact own_nc _ (own_at _ 3 3 rfl (by decide) hat))
    rw [own_mapset] at qv; exact qv
  have Zs11 : n0 ≤ h11.size := Nat.le_trans Zs8 (Keep.of_wr W11).1
  obtain ⟨lc11, X11, N11⟩ := own_loc X11 (Fr.snoc X11 N8 gn_t)
  have Fa12 : Fld Z h11 a1 "com/example/millrace/millrace/wire/ProtocolWriter" "bytes" "[B" (.ref t) := Fa9.other W11 (Or.inl ne_a1_t)
  have Ke11 : Keep h0 h11 [t] := Ke8.wr W11 (Or.inl (List.mem_of_getElem? (i := 0) rfl))
  refine own_st (T' := T11) (g' := (mkF m 47 #[.val (.ref a1), .val (.int p2), .val (.int p3)] [])) (fun _ k => (st11) _ k) ?_
  exact own_end (Q := Q8 Z a1 p2 p3 t ka Ls h0 n0) (v := none) X11 (fun _ => rfl) (fun fs hr => X11.returnOut hx Bd.returns (hb hby d8_47) hr) (by rw [e11]; exact ⟨rfl, N11, Ke11, V11⟩) (by decide) (by decide)
def own_L (p3 : Int32) : List Int32 := [(nar .byte (own_f6_0 p3 (0 : Int32))), (nar .byte (own_f6_0 p3 (1 : Int32))), (nar .byte (own_f6_0 p3 (2 : Int32))), (nar .byte (own_f6_0 p3 (3 : Int32))), (nar .byte (own_f6_0 p3 (4 : Int32))), (nar .byte (own_f6_0 p3 (5 : Int32))), (nar .byte (own_f6_0 p3 (6 : Int32))), (nar .byte (own_f6_0 p3 (7 : Int32))), (nar .byte (own_f6_0 p3 (8 : Int32))), (nar .byte (own_f6_0 p3 (9 : Int32))), (0 : Int32), (0 : Int32), (0 : Int32), (0 : Int32), (0 : Int32), (0 : Int32)]
theorem own_sh0 (val : Int32) : nar .byte ((((val).toUInt32 >>> ((0 : Int32) &&& 31).toUInt32).toInt32).toInt8.toInt32) = nar .byte (val.toInt8.toInt32) := by
  have e : (val.toUInt32 >>> ((0 : Int32) &&& 31).toUInt32).toInt32 = val := by
    have : ((0 : Int32) &&& 31).toUInt32 = 0 := by decide
    rw [this]; simp
  rw [e]
theorem own_seven (z : Int32) (h0 : 0 ≤ z.toInt) (h1 : z.toInt < 7) : z = 0 ∨ z = 1 ∨ z = 2 ∨ z = 3 ∨ z = 4 ∨ z = 5 ∨ z = 6 := by
  have e0 : (0 : Int32).toInt = 0 := rfl
  have e1 : (1 : Int32).toInt = 1 := rfl
  have e2 : (2 : Int32).toInt = 2 := rfl
  have e3 : (3 : Int32).toInt = 3 := rfl
  have e4 : (4 : Int32).toInt = 4 := rfl
  have e5 : (5 : Int32).toInt = 5 := rfl
  have e6 : (6 : Int32).toInt = 6 := rfl
  simp only [← Int32.toInt_inj, e0, e1, e2, e3, e4, e5, e6]
  omega
set_option maxHeartbeats 4000000 in
theorem own_pt0 (z fill val : Int32) (hz : z = 0 ∨ z = 1 ∨ z = 2 ∨ z = 3 ∨ z = 4 ∨ z = 5 ∨ z = 6) : own_y (own_put (own_L fill) z val) (0 : Int32) = own_f10_0 (0 : Int32) z fill val := by
  rcases hz with rfl | rfl | rfl | rfl | rfl | rfl | rfl
  · exact (show own_f10_0 (0 : Int32) (0 : Int32) fill val = own_y (own_put (own_L fill) (0 : Int32) val) (0 : Int32) from (if_neg (by decide)).trans ((if_neg (by decide)).trans (rfl))).symm
  · exact (show own_f10_0 (0 : Int32) (1 : Int32) fill val = own_y (own_put (own_L fill) (1 : Int32) val) (0 : Int32) from (if_pos (by decide)).trans ((if_pos (by decide)).trans (rfl))).symm
  · exact (show own_f10_0 (0 : Int32) (2 : Int32) fill val = own_y (own_put (own_L fill) (2 : Int32) val) (0 : Int32) from (if_pos (by decide)).trans ((if_pos (by decide)).trans (rfl))).symm
  · exact (show own_f10_0 (0 : Int32) (3 : Int32) fill val = own_y (own_put (own_L fill) (3 : Int32) val) (0 : Int32) from (if_pos (by decide)).trans ((if_pos (by decide)).trans (rfl))).symm
  · exact (show own_f10_0 (0 : Int32) (4 : Int32) fill val = own_y (own_put (own_L fill) (4 : Int32) val) (0 : Int32) from (if_pos (by decide)).trans ((if_pos (by decide)).trans (rfl))).symm
  · exact (show own_f10_0 (0 : Int32) (5 : Int32) fill val = own_y (own_put (own_L fill) (5 : Int32) val) (0 : Int32) from (if_pos (by decide)).trans ((if_pos (by decide)).trans (rfl))).symm
  · exact (show own_f10_0 (0 : Int32) (6 : Int32) fill val = own_y (own_put (own_L fill) (6 : Int32) val) (0 : Int32) from (if_pos (by decide)).trans ((if_pos (by decide)).trans (rfl))).symm
set_option maxHeartbeats 4000000 in
theorem own_pt1 (z fill val : Int32) (hz : z = 0 ∨ z = 1 ∨ z = 2 ∨ z = 3 ∨ z = 4 ∨ z = 5 ∨ z = 6) : own_y (own_put (own_L fill) z val) (1 : Int32) = own_f10_0 (1 : Int32) z fill val := by
  rcases hz with rfl | rfl | rfl | rfl | rfl | rfl | rfl
  · exact (show own_f10_0 (1 : Int32) (0 : Int32) fill val = own_y (own_put (own_L fill) (0 : Int32) val) (1 : Int32) from (if_neg (by decide)).trans ((if_neg (by decide)).trans (rfl))).symm
  · exact (show own_f10_0 (1 : Int32) (1 : Int32) fill val = own_y (own_put (own_L fill) (1 : Int32) val) (1 : Int32) from (if_neg (by decide)).trans ((if_neg (by decide)).trans (rfl))).symm
  · exact (show own_f10_0 (1 : Int32) (2 : Int32) fill val = own_y (own_put (own_L fill) (2 : Int32) val) (1 : Int32) from (if_pos (by decide)).trans ((if_pos (by decide)).trans (rfl))).symm
  · exact (show own_f10_0 (1 : Int32) (3 : Int32) fill val = own_y (own_put (own_L fill) (3 : Int32) val) (1 : Int32) from (if_pos (by decide)).trans ((if_pos (by decide)).trans (rfl))).symm
  · exact (show own_f10_0 (1 : Int32) (4 : Int32) fill val = own_y (own_put (own_L fill) (4 : Int32) val) (1 : Int32) from (if_pos (by decide)).trans ((if_pos (by decide)).trans (rfl))).symm
  · exact (show own_f10_0 (1 : Int32) (5 : Int32) fill val = own_y (own_put (own_L fill) (5 : Int32) val) (1 : Int32) from (if_pos (by decide)).trans ((if_pos (by decide)).trans (rfl))).symm
  · exact (show own_f10_0 (1 : Int32) (6 : Int32) fill val = own_y (own_put (own_L fill) (6 : Int32) val) (1 : Int32) from (if_pos (by decide)).trans ((if_pos (by decide)).trans (rfl))).symm
set_option maxHeartbeats 4000000 in
theorem own_pt2 (z fill val : Int32) (hz : z = 0 ∨ z = 1 ∨ z = 2 ∨ z = 3 ∨ z = 4 ∨ z = 5 ∨ z = 6) : own_y (own_put (own_L fill) z val) (2 : Int32) = own_f10_0 (2 : Int32) z fill val := by
  rcases hz with rfl | rfl | rfl | rfl | rfl | rfl | rfl
  · exact (show own_f10_0 (2 : Int32) (0 : Int32) fill val = own_y (own_put (own_L fill) (0 : Int32) val) (2 : Int32) from (if_neg (by decide)).trans ((if_neg (by decide)).trans (rfl))).symm
  · exact (show own_f10_0 (2 : Int32) (1 : Int32) fill val = own_y (own_put (own_L fill) (1 : Int32) val) (2 : Int32) from (if_neg (by decide)).trans ((if_neg (by decide)).trans (rfl))).symm
  · exact (show own_f10_0 (2 : Int32) (2 : Int32) fill val = own_y (own_put (own_L fill) (2 : Int32) val) (2 : Int32) from (if_neg (by decide)).trans ((if_neg (by decide)).trans (rfl))).symm
  · exact (show own_f10_0 (2 : Int32) (3 : Int32) fill val = own_y (own_put (own_L fill) (3 : Int32) val) (2 : Int32) from (if_pos (by decide)).trans ((if_pos (by decide)).trans (rfl))).symm
  · exact (show own_f10_0 (2 : Int32) (4 : Int32) fill val = own_y (own_put (own_L fill) (4 : Int32) val) (2 : Int32) from (if_pos (by decide)).trans ((if_pos (by decide)).trans (rfl))).symm
  · exact (show own_f10_0 (2 : Int32) (5 : Int32) fill val = own_y (own_put (own_L fill) (5 : Int32) val) (2 : Int32) from (if_pos (by decide)).trans ((if_pos (by decide)).trans (rfl))).symm
  · exact (show own_f10_0 (2 : Int32) (6 : Int32) fill val = own_y (own_put (own_L fill) (6 : Int32) val) (2 : Int32) from (if_pos (by decide)).trans ((if_pos (by decide)).trans (rfl))).symm
set_option maxHeartbeats 4000000 in
theorem own_pt3 (z fill val : Int32) (hz : z = 0 ∨ z = 1 ∨ z = 2 ∨ z = 3 ∨ z = 4 ∨ z = 5 ∨ z = 6) : own_y (own_put (own_L fill) z val) (3 : Int32) = own_f10_0 (3 : Int32) z fill val := by
  rcases hz with rfl | rfl | rfl | rfl | rfl | rfl | rfl
  · exact (show own_f10_0 (3 : Int32) (0 : Int32) fill val = own_y (own_put (own_L fill) (0 : Int32) val) (3 : Int32) from (if_neg (by decide)).trans ((if_neg (by decide)).trans (own_sh0 val))).symm
  · exact (show own_f10_0 (3 : Int32) (1 : Int32) fill val = own_y (own_put (own_L fill) (1 : Int32) val) (3 : Int32) from (if_neg (by decide)).trans ((if_neg (by decide)).trans (rfl))).symm
  · exact (show own_f10_0 (3 : Int32) (2 : Int32) fill val = own_y (own_put (own_L fill) (2 : Int32) val) (3 : Int32) from (if_neg (by decide)).trans ((if_neg (by decide)).trans (rfl))).symm
  · exact (show own_f10_0 (3 : Int32) (3 : Int32) fill val = own_y (own_put (own_L fill) (3 : Int32) val) (3 : Int32) from (if_neg (by decide)).trans ((if_neg (by decide)).trans (rfl))).symm
  · exact (show own_f10_0 (3 : Int32) (4 : Int32) fill val = own_y (own_put (own_L fill) (4 : Int32) val) (3 : Int32) from (if_pos (by decide)).trans ((if_pos (by decide)).trans (rfl))).symm
  · exact (show own_f10_0 (3 : Int32) (5 : Int32) fill val = own_y (own_put (own_L fill) (5 : Int32) val) (3 : Int32) from (if_pos (by decide)).trans ((if_pos (by decide)).trans (rfl))).symm
  · exact (show own_f10_0 (3 : Int32) (6 : Int32) fill val = own_y (own_put (own_L fill) (6 : Int32) val) (3 : Int32) from (if_pos (by decide)).trans ((if_pos (by decide)).trans (rfl))).symm
set_option maxHeartbeats 4000000 in
theorem own_pt4 (z fill val : Int32) (hz : z = 0 ∨ z = 1 ∨ z = 2 ∨ z = 3 ∨ z = 4 ∨ z = 5 ∨ z = 6) : own_y (own_put (own_L fill) z val) (4 : Int32) = own_f10_0 (4 : Int32) z fill val := by
  rcases hz with rfl | rfl | rfl | rfl | rfl | rfl | rfl
  · exact (show own_f10_0 (4 : Int32) (0 : Int32) fill val = own_y (own_put (own_L fill) (0 : Int32) val) (4 : Int32) from (if_neg (by decide)).trans ((if_pos (by decide)).trans ((if_pos (by decide)).trans (rfl)))).symm
  · exact (show own_f10_0 (4 : Int32) (1 : Int32) fill val = own_y (own_put (own_L fill) (1 : Int32) val) (4 : Int32) from (if_neg (by decide)).trans ((if_neg (by decide)).trans (own_sh0 val))).symm
  · exact (show own_f10_0 (4 : Int32) (2 : Int32) fill val = own_y (own_put (own_L fill) (2 : Int32) val) (4 : Int32) from (if_neg (by decide)).trans ((if_neg (by decide)).trans (rfl))).symm
  · exact (show own_f10_0 (4 : Int32) (3 : Int32) fill val = own_y (own_put (own_L fill) (3 : Int32) val) (4 : Int32) from (if_neg (by decide)).trans ((if_neg (by decide)).trans (rfl))).symm
  · exact (show own_f10_0 (4 : Int32) (4 : Int32) fill val = own_y (own_put (own_L fill) (4 : Int32) val) (4 : Int32) from (if_neg (by decide)).trans ((if_neg (by decide)).trans (rfl))).symm
  · exact (show own_f10_0 (4 : Int32) (5 : Int32) fill val = own_y (own_put (own_L fill) (5 : Int32) val) (4 : Int32) from (if_pos (by decide)).trans ((if_pos (by decide)).trans (rfl))).symm
  · exact (show own_f10_0 (4 : Int32) (6 : Int32) fill val = own_y (own_put (own_L fill) (6 : Int32) val) (4 : Int32) from (if_pos (by decide)).trans ((if_pos (by decide)).trans (rfl))).symm
set_option maxHeartbeats 4000000 in
theorem own_pt5 (z fill val : Int32) (hz : z = 0 ∨ z = 1 ∨ z = 2 ∨ z = 3 ∨ z = 4 ∨ z = 5 ∨ z = 6) : own_y (own_put (own_L fill) z val) (5 : Int32) = own_f10_0 (5 : Int32) z fill val := by
  rcases hz with rfl | rfl | rfl | rfl | rfl | rfl | rfl
  · exact (show own_f10_0 (5 : Int32) (0 : Int32) fill val = own_y (own_put (own_L fill) (0 : Int32) val) (5 : Int32) from (if_neg (by decide)).trans ((if_pos (by decide)).trans ((if_pos (by decide)).trans (rfl)))).symm
  · exact (show own_f10_0 (5 : Int32) (1 : Int32) fill val = own_y (own_put (own_L fill) (1 : Int32) val) (5 : Int32) from (if_neg (by decide)).trans ((if_pos (by decide)).trans ((if_pos (by decide)).trans (rfl)))).symm
  · exact (show own_f10_0 (5 : Int32) (2 : Int32) fill val = own_y (own_put (own_L fill) (2 : Int32) val) (5 : Int32) from (if_neg (by decide)).trans ((if_neg (by decide)).trans (own_sh0 val))).symm
  · exact (show own_f10_0 (5 : Int32) (3 : Int32) fill val = own_y (own_put (own_L fill) (3 : Int32) val) (5 : Int32) from (if_neg (by decide)).trans ((if_neg (by decide)).trans (rfl))).symm
  · exact (show own_f10_0 (5 : Int32) (4 : Int32) fill val = own_y (own_put (own_L fill) (4 : Int32) val) (5 : Int32) from (if_neg (by decide)).trans ((if_neg (by decide)).trans (rfl))).symm
  · exact (show own_f10_0 (5 : Int32) (5 : Int32) fill val = own_y (own_put (own_L fill) (5 : Int32) val) (5 : Int32) from (if_neg (by decide)).trans ((if_neg (by decide)).trans (rfl))).symm
  · exact (show own_f10_0 (5 : Int32) (6 : Int32) fill val = own_y (own_put (own_L fill) (6 : Int32) val) (5 : Int32) from (if_pos (by decide)).trans ((if_pos (by decide)).trans (rfl))).symm
set_option maxHeartbeats 4000000 in
theorem own_pt6 (z fill val : Int32) (hz : z = 0 ∨ z = 1 ∨ z = 2 ∨ z = 3 ∨ z = 4 ∨ z = 5 ∨ z = 6) : own_y (own_put (own_L fill) z val) (6 : Int32) = own_f10_0 (6 : Int32) z fill val := by
  rcases hz with rfl | rfl | rfl | rfl | rfl | rfl | rfl
  · exact (show own_f10_0 (6 : Int32) (0 : Int32) fill val = own_y (own_put (own_L fill) (0 : Int32) val) (6 : Int32) from (if_neg (by decide)).trans ((if_pos (by decide)).trans ((if_pos (by decide)).trans (rfl)))).symm
  · exact (show own_f10_0 (6 : Int32) (1 : Int32) fill val = own_y (own_put (own_L fill) (1 : Int32) val) (6 : Int32) from (if_neg (by decide)).trans ((if_pos (by decide)).trans ((if_pos (by decide)).trans (rfl)))).symm
  · exact (show own_f10_0 (6 : Int32) (2 : Int32) fill val = own_y (own_put (own_L fill) (2 : Int32) val) (6 : Int32) from (if_neg (by decide)).trans ((if_pos (by decide)).trans ((if_pos (by decide)).trans (rfl)))).symm
  · exact (show own_f10_0 (6 : Int32) (3 : Int32) fill val = own_y (own_put (own_L fill) (3 : Int32) val) (6 : Int32) from (if_neg (by decide)).trans ((if_neg (by decide)).trans (own_sh0 val))).symm
  · exact (show own_f10_0 (6 : Int32) (4 : Int32) fill val = own_y (own_put (own_L fill) (4 : Int32) val) (6 : Int32) from (if_neg (by decide)).trans ((if_neg (by decide)).trans (rfl))).symm
  · exact (show own_f10_0 (6 : Int32) (5 : Int32) fill val = own_y (own_put (own_L fill) (5 : Int32) val) (6 : Int32) from (if_neg (by decide)).trans ((if_neg (by decide)).trans (rfl))).symm
  · exact (show own_f10_0 (6 : Int32) (6 : Int32) fill val = own_y (own_put (own_L fill) (6 : Int32) val) (6 : Int32) from (if_neg (by decide)).trans ((if_neg (by decide)).trans (rfl))).symm
set_option maxHeartbeats 4000000 in
theorem own_pt7 (z fill val : Int32) (hz : z = 0 ∨ z = 1 ∨ z = 2 ∨ z = 3 ∨ z = 4 ∨ z = 5 ∨ z = 6) : own_y (own_put (own_L fill) z val) (7 : Int32) = own_f10_0 (7 : Int32) z fill val := by
  rcases hz with rfl | rfl | rfl | rfl | rfl | rfl | rfl
  · exact (show own_f10_0 (7 : Int32) (0 : Int32) fill val = own_y (own_put (own_L fill) (0 : Int32) val) (7 : Int32) from (if_neg (by decide)).trans ((if_pos (by decide)).trans ((if_pos (by decide)).trans (rfl)))).symm
  · exact (show own_f10_0 (7 : Int32) (1 : Int32) fill val = own_y (own_put (own_L fill) (1 : Int32) val) (7 : Int32) from (if_neg (by decide)).trans ((if_pos (by decide)).trans ((if_pos (by decide)).trans (rfl)))).symm
  · exact (show own_f10_0 (7 : Int32) (2 : Int32) fill val = own_y (own_put (own_L fill) (2 : Int32) val) (7 : Int32) from (if_neg (by decide)).trans ((if_pos (by decide)).trans ((if_pos (by decide)).trans (rfl)))).symm
  · exact (show own_f10_0 (7 : Int32) (3 : Int32) fill val = own_y (own_put (own_L fill) (3 : Int32) val) (7 : Int32) from (if_neg (by decide)).trans ((if_pos (by decide)).trans ((if_pos (by decide)).trans (rfl)))).symm
  · exact (show own_f10_0 (7 : Int32) (4 : Int32) fill val = own_y (own_put (own_L fill) (4 : Int32) val) (7 : Int32) from (if_neg (by decide)).trans ((if_neg (by decide)).trans (own_sh0 val))).symm
  · exact (show own_f10_0 (7 : Int32) (5 : Int32) fill val = own_y (own_put (own_L fill) (5 : Int32) val) (7 : Int32) from (if_neg (by decide)).trans ((if_neg (by decide)).trans (rfl))).symm
  · exact (show own_f10_0 (7 : Int32) (6 : Int32) fill val = own_y (own_put (own_L fill) (6 : Int32) val) (7 : Int32) from (if_neg (by decide)).trans ((if_neg (by decide)).trans (rfl))).symm
set_option maxHeartbeats 4000000 in
theorem own_pt8 (z fill val : Int32) (hz : z = 0 ∨ z = 1 ∨ z = 2 ∨ z = 3 ∨ z = 4 ∨ z = 5 ∨ z = 6) : own_y (own_put (own_L fill) z val) (8 : Int32) = own_f10_0 (8 : Int32) z fill val := by
  rcases hz with rfl | rfl | rfl | rfl | rfl | rfl | rfl
  · exact (show own_f10_0 (8 : Int32) (0 : Int32) fill val = own_y (own_put (own_L fill) (0 : Int32) val) (8 : Int32) from (if_neg (by decide)).trans ((if_pos (by decide)).trans ((if_pos (by decide)).trans (rfl)))).symm
  · exact (show own_f10_0 (8 : Int32) (1 : Int32) fill val = own_y (own_put (own_L fill) (1 : Int32) val) (8 : Int32) from (if_neg (by decide)).trans ((if_pos (by decide)).trans ((if_pos (by decide)).trans (rfl)))).symm
  · exact (show own_f10_0 (8 : Int32) (2 : Int32) fill val = own_y (own_put (own_L fill) (2 : Int32) val) (8 : Int32) from (if_neg (by decide)).trans ((if_pos (by decide)).trans ((if_pos (by decide)).trans (rfl)))).symm
  · exact (show own_f10_0 (8 : Int32) (3 : Int32) fill val = own_y (own_put (own_L fill) (3 : Int32) val) (8 : Int32) from (if_neg (by decide)).trans ((if_pos (by decide)).trans ((if_pos (by decide)).trans (rfl)))).symm
  · exact (show own_f10_0 (8 : Int32) (4 : Int32) fill val = own_y (own_put (own_L fill) (4 : Int32) val) (8 : Int32) from (if_neg (by decide)).trans ((if_pos (by decide)).trans ((if_pos (by decide)).trans (rfl)))).symm
  · exact (show own_f10_0 (8 : Int32) (5 : Int32) fill val = own_y (own_put (own_L fill) (5 : Int32) val) (8 : Int32) from (if_neg (by decide)).trans ((if_neg (by decide)).trans (own_sh0 val))).symm
  · exact (show own_f10_0 (8 : Int32) (6 : Int32) fill val = own_y (own_put (own_L fill) (6 : Int32) val) (8 : Int32) from (if_neg (by decide)).trans ((if_neg (by decide)).trans (rfl))).symm
set_option maxHeartbeats 4000000 in
theorem own_pt9 (z fill val : Int32) (hz : z = 0 ∨ z = 1 ∨ z = 2 ∨ z = 3 ∨ z = 4 ∨ z = 5 ∨ z = 6) : own_y (own_put (own_L fill) z val) (9 : Int32) = own_f10_0 (9 : Int32) z fill val := by
  rcases hz with rfl | rfl | rfl | rfl | rfl | rfl | rfl
  · exact (show own_f10_0 (9 : Int32) (0 : Int32) fill val = own_y (own_put (own_L fill) (0 : Int32) val) (9 : Int32) from (if_neg (by decide)).trans ((if_pos (by decide)).trans ((if_pos (by decide)).trans (rfl)))).symm
  · exact (show own_f10_0 (9 : Int32) (1 : Int32) fill val = own_y (own_put (own_L fill) (1 : Int32) val) (9 : Int32) from (if_neg (by decide)).trans ((if_pos (by decide)).trans ((if_pos (by decide)).trans (rfl)))).symm
  · exact (show own_f10_0 (9 : Int32) (2 : Int32) fill val = own_y (own_put (own_L fill) (2 : Int32) val) (9 : Int32) from (if_neg (by decide)).trans ((if_pos (by decide)).trans ((if_pos (by decide)).trans (rfl)))).symm
  · exact (show own_f10_0 (9 : Int32) (3 : Int32) fill val = own_y (own_put (own_L fill) (3 : Int32) val) (9 : Int32) from (if_neg (by decide)).trans ((if_pos (by decide)).trans ((if_pos (by decide)).trans (rfl)))).symm
  · exact (show own_f10_0 (9 : Int32) (4 : Int32) fill val = own_y (own_put (own_L fill) (4 : Int32) val) (9 : Int32) from (if_neg (by decide)).trans ((if_pos (by decide)).trans ((if_pos (by decide)).trans (rfl)))).symm
  · exact (show own_f10_0 (9 : Int32) (5 : Int32) fill val = own_y (own_put (own_L fill) (5 : Int32) val) (9 : Int32) from (if_neg (by decide)).trans ((if_pos (by decide)).trans ((if_pos (by decide)).trans (rfl)))).symm
  · exact (show own_f10_0 (9 : Int32) (6 : Int32) fill val = own_y (own_put (own_L fill) (6 : Int32) val) (9 : Int32) from (if_neg (by decide)).trans ((if_neg (by decide)).trans (own_sh0 val))).symm
set_option maxHeartbeats 4000000 in
theorem own_pt10 (z fill val : Int32) (hz : z = 0 ∨ z = 1 ∨ z = 2 ∨ z = 3 ∨ z = 4 ∨ z = 5 ∨ z = 6) : own_y (own_put (own_L fill) z val) (10 : Int32) = own_f10_0 (10 : Int32) z fill val := by
  rcases hz with rfl | rfl | rfl | rfl | rfl | rfl | rfl
  · exact (show own_f10_0 (10 : Int32) (0 : Int32) fill val = own_y (own_put (own_L fill) (0 : Int32) val) (10 : Int32) from (if_neg (by decide)).trans ((if_pos (by decide)).trans ((if_neg (by decide)).trans (rfl)))).symm
  · exact (show own_f10_0 (10 : Int32) (1 : Int32) fill val = own_y (own_put (own_L fill) (1 : Int32) val) (10 : Int32) from (if_neg (by decide)).trans ((if_pos (by decide)).trans ((if_neg (by decide)).trans (rfl)))).symm
  · exact (show own_f10_0 (10 : Int32) (2 : Int32) fill val = own_y (own_put (own_L fill) (2 : Int32) val) (10 : Int32) from (if_neg (by decide)).trans ((if_pos (by decide)).trans ((if_neg (by decide)).trans (rfl)))).symm
  · exact (show own_f10_0 (10 : Int32) (3 : Int32) fill val = own_y (own_put (own_L fill) (3 : Int32) val) (10 : Int32) from (if_neg (by decide)).trans ((if_pos (by decide)).trans ((if_neg (by decide)).trans (rfl)))).symm
  · exact (show own_f10_0 (10 : Int32) (4 : Int32) fill val = own_y (own_put (own_L fill) (4 : Int32) val) (10 : Int32) from (if_neg (by decide)).trans ((if_pos (by decide)).trans ((if_neg (by decide)).trans (rfl)))).symm
  · exact (show own_f10_0 (10 : Int32) (5 : Int32) fill val = own_y (own_put (own_L fill) (5 : Int32) val) (10 : Int32) from (if_neg (by decide)).trans ((if_pos (by decide)).trans ((if_neg (by decide)).trans (rfl)))).symm
  · exact (show own_f10_0 (10 : Int32) (6 : Int32) fill val = own_y (own_put (own_L fill) (6 : Int32) val) (10 : Int32) from (if_neg (by decide)).trans ((if_pos (by decide)).trans ((if_neg (by decide)).trans (rfl)))).symm
set_option maxHeartbeats 4000000 in
theorem own_pt11 (z fill val : Int32) (hz : z = 0 ∨ z = 1 ∨ z = 2 ∨ z = 3 ∨ z = 4 ∨ z = 5 ∨ z = 6) : own_y (own_put (own_L fill) z val) (11 : Int32) = own_f10_0 (11 : Int32) z fill val := by
  rcases hz with rfl | rfl | rfl | rfl | rfl | rfl | rfl
  · exact (show own_f10_0 (11 : Int32) (0 : Int32) fill val = own_y (own_put (own_L fill) (0 : Int32) val) (11 : Int32) from (if_neg (by decide)).trans ((if_pos (by decide)).trans ((if_neg (by decide)).trans (rfl)))).symm
  · exact (show own_f10_0 (11 : Int32) (1 : Int32) fill val = own_y (own_put (own_L fill) (1 : Int32) val) (11 : Int32) from (if_neg (by decide)).trans ((if_pos (by decide)).trans ((if_neg (by decide)).trans (rfl)))).symm
  · exact (show own_f10_0 (11 : Int32) (2 : Int32) fill val = own_y (own_put (own_L fill) (2 : Int32) val) (11 : Int32) from (if_neg (by decide)).trans ((if_pos (by decide)).trans ((if_neg (by decide)).trans (rfl)))).symm
  · exact (show own_f10_0 (11 : Int32) (3 : Int32) fill val = own_y (own_put (own_L fill) (3 : Int32) val) (11 : Int32) from (if_neg (by decide)).trans ((if_pos (by decide)).trans ((if_neg (by decide)).trans (rfl)))).symm
  · exact (show own_f10_0 (11 : Int32) (4 : Int32) fill val = own_y (own_put (own_L fill) (4 : Int32) val) (11 : Int32) from (if_neg (by decide)).trans ((if_pos (by decide)).trans ((if_neg (by decide)).trans (rfl)))).symm
  · exact (show own_f10_0 (11 : Int32) (5 : Int32) fill val = own_y (own_put (own_L fill) (5 : Int32) val) (11 : Int32) from (if_neg (by decide)).trans ((if_pos (by decide)).trans ((if_neg (by decide)).trans (rfl)))).symm
  · exact (show own_f10_0 (11 : Int32) (6 : Int32) fill val = own_y (own_put (own_L fill) (6 : Int32) val) (11 : Int32) from (if_neg (by decide)).trans ((if_pos (by decide)).trans ((if_neg (by decide)).trans (rfl)))).symm
theorem own_pn0 : plainName "com/example/millrace/millrace/wire/ProtocolWriterPutInt32AtPinLaw" = true := by first | (simp [plainName, overriddenIn]; done) | decide +kernel
theorem own_pd0_0 : parseMethodDescriptor "(I)V" = some ⟨[.int], none⟩ := by decide +kernel
theorem own_pd0_1 : parseMethodDescriptor "(I)[B" = some ⟨[.int], some (.array .byte)⟩ := by decide +kernel
theorem own_pd0_2 : parseMethodDescriptor "(II)B" = some ⟨[.int, .int], some .byte⟩ := by decide +kernel
theorem own_pd0_3 : parseMethodDescriptor "(II)V" = some ⟨[.int, .int], none⟩ := by decide +kernel
theorem own_pd0_4 : parseMethodDescriptor "()I" = some ⟨[], some .int⟩ := by decide +kernel
theorem own_pd0_5 : parseMethodDescriptor "(IIII)B" = some ⟨[.int, .int, .int, .int], some .byte⟩ := by decide +kernel
theorem own_ef0 (m : MethodId) (x0 : Int32) (x1 : Int32) (x2 : Int32) : entryFrame m #[(.int x0), (.int x1), (.int x2)] maxLocals = mkF m 0 #[.val (.int x0), .val (.int x1), .val (.int x2), .unset, .unset, .unset, .unset, .unset] [] := by first | (simp [entryFrame, mkF, argsToLocals, Value.category, maxLocals]; done) | rfl
def Q0 (Z : State) (p1 : Int32) (p2 : Int32) (p3 : Int32) (h0 : Heap) (n0 : Nat) (v : Option Value) (h : Heap) (L : List Loc) : Prop := v = some (.int 1) ∧ Fr n0 L
set_option maxRecDepth 65536 in
set_option maxHeartbeats 40000000 in
theorem rm0 (l : Launch) (Z : State) (a0 : Array Value) (hw : ∀ d ∈ tables_1, d.before a0 Z = true) (ws : List Jvm.Cond) (p1 : Int32) (p2 : Int32) (p3 : Int32) (h0 : Heap) (n0 : Nat) (Z0 : n0 ≤ h0.size)  :
    MetFree l x (head1 (Jvm.Cond.code x code maxLocals ret :: ws) room_1) (fun a U => a = #[(.int p1), (.int p2), (.int p3)] ∧ Z.Warmed39 U.vm ∧ U.heap = h0) (fun _ _ _ _ _ => True) (fun _ U o U' => ∃ v L, o = .returned v ∧ Q0 Z p1 p2 p3 h0 n0 v U'.heap L ∧ FrameEnd U o U' L room_1.cells room_1.slots) := by
  refine MetFree.of_bodySF (plainFor_of_name own_pn0) hisR ?_
  intro p e s m args below meth c s₁ Bd hml0 hP hK
  obtain ⟨rfl, hZ, hh⟩ := hP
  have hx := Bd.exec
  have hby := Bd.bytes
  have hml : c.maxLocals = 8 := hml0
  have hown : s.vm.findClass "com/example/millrace/millrace/wire/ProtocolWriterPutInt32AtPinLaw" = some m.cls := findClass_of_methodNamed Bd.named
  have hnm := (name_of_methodNamed Bd.named Bd.method).1
  have hlk := Bd.notSynchronized
  have X0 : Stand p l e room_1 s m #[(.int p1), (.int p2), (.int p3)] below meth c s₁ [] 0 0 := Stand.of_body Bd
  have e0 : s₁.heap = h0 := by rw [← hh, Bd.state]; rfl
  have N0 := Fr.nil n0
  show own_Goes p e below (fun o U' => ∃ v L, o = .returned v ∧ Q0 Z p1 p2 p3 h0 n0 v U'.heap L ∧ FrameEnd s o U' L room_1.cells room_1.slots) s₁ (entryFrame m #[(.int p1), (.int p2), (.int p3)] maxLocals)
  refine own_st (T' := s₁) (g' := mkF m 0 #[.val (.int p1), .val (.int p2), .val (.int p3), .unset, .unset, .unset, .unset, .unset] []) (fun _ k => castTop (own_ef0 m p1 p2 p3) k) ?_
  refine own_st (T' := s₁) (g' := (mkF m 1 #[.val (.int p1), .val (.int p2), .val (.int p3), .unset, .unset, .unset, .unset, .unset] [(.int p1)])) (fun _ k => Jvm.Free.XS.iloadN (g := (mkF m 0 #[.val (.int p1), .val (.int p2), .val (.int p3), .unset, .unset, .unset, .unset, .unset] [])) X0.here hx rfl (hb hby at_0) rfl k) ?_
  refine own_st (T' := s₁) (g' := (mkF m 3 #[.val (.int p1), .val (.int p2), .val (.int p3), .unset, .unset, .unset, .unset, .unset] [(.int (2147483647 : Int32)), (.int p1)])) (fun _ k => (X0.ldcInt hx hown (mvT hZ (hw _ (List.mem_of_getElem? (i := 0) rfl))) (g := (mkF m 1 #[.val (.int p1), .val (.int p2), .val (.int p3), .unset, .unset, .unset, .unset, .unset] [(.int p1)])) rfl (hb hby at_1)) _ k) ?_
  refine own_st (T' := s₁) (g' := (mkF m 4 #[.val (.int p1), .val (.int p2), .val (.int p3), .unset, .unset, .unset, .unset, .unset] [(.int (p1 &&& (2147483647 : Int32)))])) (fun _ k => Jvm.Free.XS.iand (g := (mkF m 3 #[.val (.int p1), .val (.int p2), .val (.int p3), .unset, .unset, .unset, .unset, .unset] [(.int (2147483647 : Int32)), (.int p1)])) X0.here hx rfl (hb hby at_3) rfl k) ?_
  refine own_st (T' := s₁) (g' := (mkF m 6 #[.val (.int p1), .val (.int p2), .val (.int p3), .unset, .unset, .unset, .unset, .unset] [(.int (7 : Int32)), (.int (p1 &&& (2147483647 : Int32)))])) (fun _ k => XS.bipush (g := (mkF m 4 #[.val (.int p1), .val (.int p2), .val (.int p3), .unset, .unset, .unset, .unset, .unset] [(.int (p1 &&& (2147483647 : Int32)))])) X0.here hx rfl (hb hby at_4) k) ?_
  refine own_st (T' := s₁) (g' := (mkF m 7 #[.val (.int p1), .val (.int p2), .val (.int p3), .unset, .unset, .unset, .unset, .unset] [(.int ((p1 &&& (2147483647 : Int32)) - ((p1 &&& (2147483647 : Int32)) / (7 : Int32)) * (7 : Int32)))])) (fun _ k => XS.irem (g := (mkF m 6 #[.val (.int p1), .val (.int p2), .val (.int p3), .unset, .unset, .unset, .unset, .unset] [(.int (7 : Int32)), (.int (p1 &&& (2147483647 : Int32)))])) X0.here hx rfl (hb hby at_6) rfl (by decide) k) ?_
  generalize hz7 : ((p1 &&& (2147483647 : Int32)) - ((p1 &&& (2147483647 : Int32)) / (7 : Int32)) * (7 : Int32)) = z7
  refine own_st (T' := s₁) (g' := (mkF m 8 #[.val (.int p1), .val (.int p2), .val (.int p3), .val (.int z7), .unset, .unset, .unset, .unset] [])) (fun _ k => Jvm.Free.XS.istoreN (g := (mkF m 7 #[.val (.int p1), .val (.int p2), .val (.int p3), .unset, .unset, .unset, .unset, .unset] [(.int z7)])) X0.here hx rfl (hb hby at_7) rfl (l' := #[.val (.int p1), .val (.int p2), .val (.int p3), .val (.int z7), .unset, .unset, .unset, .unset]) rfl k) ?_
  have hz0 : 0 ≤ z7.toInt ∧ z7.toInt < 7 := by rw [← hz7]; exact ⟨(own_rem _ _ (own_and _) (by decide)).2.1, (own_rem _ _ (own_and _) (by decide)).2.2⟩
  have hat12 : 0 ≤ z7.toInt ∧ z7.toInt ≤ 12 := by omega
  have hz : z7 = 0 ∨ z7 = 1 ∨ z7 = 2 ∨ z7 = 3 ∨ z7 = 4 ∨ z7 = 5 ∨ z7 = 6 := own_seven z7 hz0.1 hz0.2
  obtain ⟨T1, h1, X1, e1, E1, A1, D1, -, st1⟩ := newO X0 hx hZ hown (hw _ (List.mem_of_getElem? (i := 1) rfl)) (hw _ (List.mem_of_getElem? (i := 2) rfl)) (hw _ (List.mem_of_getElem? (i := 3) rfl)) e0 (g := (mkF m 8 #[.val (.int p1), .val (.int p2), .val (.int p3), .val (.int z7), .unset, .unset, .unset, .unset] [])) rfl (hb hby at_8) (by decide) (by decide)
  obtain ⟨b1, g1⟩ : ∃ z, z = h0.size := ⟨_, rfl⟩
  rw [← g1] at A1 D1 st1
  have gn_b1 : n0 ≤ b1 := Nat.le_trans Z0 (Nat.le_of_eq g1.symm)
  have Zs1 : n0 ≤ h1.size := Nat.le_trans Z0 E1.1
  have F1_bytes : Fld Z h1 b1 "com/example/millrace/millrace/wire/ProtocolWriter" "bytes" "[B" .null := D1 (Or.inl (hw _ (List.mem_of_getElem? (i := 16) rfl))) (ty := (.array .byte)) (by decide)
  have F1_position : Fld Z h1 b1 "com/example/millrace/millrace/wire/ProtocolWriter" "position" "I" (.int (0 : Int32)) := D1 (Or.inl (hw _ (List.mem_of_getElem? (i := 27) rfl))) (ty := .int) (by decide)
  refine own_st (T' := T1) (g' := (mkF m 11 #[.val (.int p1), .val (.int p2), .val (.int p3), .val (.int z7), .unset, .unset, .unset, .unset] [(.ref b1)])) (fun _ k => (st1) _ k) ?_
  refine own_st (T' := T1) (g' := (mkF m 12 #[.val (.int p1), .val (.int p2), .val (.int p3), .val (.int z7), .unset, .unset, .unset, .unset] [(.ref b1), (.ref b1)])) (fun _ k => XS.dup (g := (mkF m 11 #[.val (.int p1), .val (.int p2), .val (.int p3), .val (.int z7), .unset, .unset, .unset, .unset] [(.ref b1)])) X1.here hx rfl (hb hby at_11) rfl rfl k) ?_
  refine own_st (T' := T1) (g' := (mkF m 14 #[.val (.int p1), .val (.int p2), .val (.int p3), .val (.int z7), .unset, .unset, .unset, .unset] [(.int (16 : Int32)), (.ref b1), (.ref b1)])) (fun _ k => XS.bipush (g := (mkF m 12 #[.val (.int p1), .val (.int p2), .val (.int p3), .val (.int z7), .unset, .unset, .unset, .unset] [(.ref b1), (.ref b1)])) X1.here hx rfl (hb hby at_12) k) ?_
  obtain ⟨v2, T2, L2, X2, hQ2, st2⟩ := own_packV (X1.specialBack hx (y := (⟨"com/example/millrace/millrace/wire/ProtocolWriter", "<init>", "(I)V"⟩ : MethodName)) rfl hown (mvT hZ (hw _ (List.mem_of_getElem? (i := 4) rfl))) (mvT hZ (hw _ (List.mem_of_getElem? (i := 5) rfl))) (mvT hZ (hw _ (List.mem_of_getElem? (i := 6) rfl))) (by decide) (backOf (W := 1) (rm1 l Z a0 hw [] b1 h1 n0 Zs1 A1 F1_bytes F1_position gn_b1) hZ (hw _ (List.mem_of_getElem? (i := 6) rfl)) (hw _ (List.mem_of_getElem? (i := 3) rfl)) (by decide) (by decide)) (g := (mkF m 14 #[.val (.int p1), .val (.int p2), .val (.int p3), .val (.int z7), .unset, .unset, .unset, .unset] [(.int (16 : Int32)), (.ref b1), (.ref b1)])) rfl (by rw [hml]; rfl) (Steps.refl _) (a := b1) (argsL := [(.int (16 : Int32))]) (rest := [(.ref b1)]) (lenOf own_pd0_0 rfl) rfl (by show 2 * 0 + _ ≤ _; exact Nat.le_of_eq rfl) (hb hby at_14) (fun _ _ => ⟨rfl, e1, (by decide : 1 + 1 ≤ _), (by decide : 2 + 16 ≤ _)⟩))
  obtain ⟨rfl, N2q, Kq2, Eq2, t, ka, hsz, Fb2, Fp2, Vt2⟩ := hQ2
  obtain ⟨lc2, X2, N2⟩ := own_loc X2 (Fr.app N0 N2q)
  have gn_t : n0 ≤ t := Nat.le_trans Zs1 hsz
  have ne_b1_t : b1 ≠ t := Nat.ne_of_lt (Nat.lt_of_lt_of_le A1.lt hsz)
  have Zs2 : n0 ≤ T2.heap.size := Nat.le_trans Zs1 Kq2.1
  refine own_st (T' := T2) (g' := (mkF m 17 #[.val (.int p1), .val (.int p2), .val (.int p3), .val (.int z7), .unset, .unset, .unset, .unset] [(.ref b1)])) (fun _ k => (st2) _ k) ?_
  refine own_st (T' := T2) (g' := (mkF m 19 #[.val (.int p1), .val (.int p2), .val (.int p3), .val (.int z7), .val (.ref b1), .unset, .unset, .unset] [])) (fun _ k => Jvm.Free.XS.astore (g := (mkF m 17 #[.val (.int p1), .val (.int p2), .val (.int p3), .val (.int z7), .unset, .unset, .unset, .unset] [(.ref b1)])) X2.here hx rfl (hb hby at_17) rfl rfl (l' := #[.val (.int p1), .val (.int p2), .val (.int p3), .val (.int z7), .val (.ref b1), .unset, .unset, .unset]) rfl k) ?_
  refine own_st (T' := T2) (g' := (mkF m 21 #[.val (.int p1), .val (.int p2), .val (.int p3), .val (.int z7), .val (.ref b1), .unset, .unset, .unset] [(.ref b1)])) (fun _ k => Jvm.Free.XS.aload (g := (mkF m 19 #[.val (.int p1), .val (.int p2), .val (.int p3), .val (.int z7), .val (.ref b1), .unset, .unset, .unset] [])) X2.here hx rfl (hb hby at_19) rfl rfl k) ?_
  refine own_st (T' := T2) (g' := (mkF m 23 #[.val (.int p1), .val (.int p2), .val (.int p3), .val (.int z7), .val (.ref b1), .unset, .unset, .unset] [(.int (10 : Int32)), (.ref b1)])) (fun _ k => XS.bipush (g := (mkF m 21 #[.val (.int p1), .val (.int p2), .val (.int p3), .val (.int z7), .val (.ref b1), .unset, .unset, .unset] [(.ref b1)])) X2.here hx rfl (hb hby at_21) k) ?_
  obtain ⟨cq3, kq3, q3a, q3b, q3c⟩ := isOf hZ rfl Eq2
  obtain ⟨v3, T3, L3, X3, hQ3, st3⟩ := own_packV (X2.virtualBack hx (y := (⟨"com/example/millrace/millrace/wire/ProtocolWriter", "reserve", "(I)[B"⟩ : MethodName)) (z := (⟨"com/example/millrace/millrace/wire/ProtocolWriter", "reserve", "(I)[B"⟩ : MethodName)) hown (mvT hZ (hw _ (List.mem_of_getElem? (i := 17) rfl))) (mvT hZ (hw _ (List.mem_of_getElem? (i := 18) rfl))) (notFace_of_selects (args := #[]) (mvT hZ (hw _ (List.mem_of_getElem? (i := 20) rfl)))) (mvT hZ (hw _ (List.mem_of_getElem? (i := 20) rfl))) (mvT hZ (hw _ (List.mem_of_getElem? (i := 19) rfl))) (by decide) (backOf (W := 0) (rm4 l Z a0 hw [] b1 (10 : Int32) t (0 : Int32) ka [(0 : Int32), (0 : Int32), (0 : Int32), (0 : Int32), (0 : Int32), (0 : Int32), (0 : Int32), (0 : Int32), (0 : Int32), (0 : Int32), (0 : Int32), (0 : Int32), (0 : Int32), (0 : Int32), (0 : Int32), (0 : Int32)] T2.heap n0 Zs2 Eq2 Fb2 Fp2 Vt2 (by decide)) hZ (hw _ (List.mem_of_getElem? (i := 21) rfl)) (hw _ (List.mem_of_getElem? (i := 3) rfl)) (by decide) (by decide)) q3a q3c (g := (mkF m 23 #[.val (.int p1), .val (.int p2), .val (.int p3), .val (.int z7), .val (.ref b1), .unset, .unset, .unset] [(.int (10 : Int32)), (.ref b1)])) rfl (by rw [hml]; rfl) (Steps.refl _) (argsL := [(.int (10 : Int32))]) (rest := []) (lenOf own_pd0_1 rfl) rfl (by show 2 * 0 + _ ≤ _; exact Nat.le_of_eq rfl) (hb hby at_23) (fun _ _ => ⟨rfl, rfl, (by decide : 2 + 0 ≤ _), (by decide : 18 + 0 ≤ _)⟩))
  obtain ⟨rfl, N3q, e3⟩ := hQ3
  obtain ⟨lc3, X3, N3⟩ := own_loc X3 (Fr.app N2 N3q)
  refine own_st (T' := T3) (g' := (mkF m 26 #[.val (.int p1), .val (.int p2), .val (.int p3), .val (.int z7), .val (.ref b1), .unset, .unset, .unset] [(.ref t)])) (fun _ k => (st3) _ k) ?_
  refine own_st (T' := T3) (g' := (mkF m 28 #[.val (.int p1), .val (.int p2), .val (.int p3), .val (.int z7), .val (.ref b1), .val (.ref t), .unset, .unset] [])) (fun _ k => Jvm.Free.XS.astore (g := (mkF m 26 #[.val (.int p1), .val (.int p2), .val (.int p3), .val (.int z7), .val (.ref b1), .unset, .unset, .unset] [(.ref t)])) X3.here hx rfl (hb hby at_26) rfl rfl (l' := #[.val (.int p1), .val (.int p2), .val (.int p3), .val (.int z7), .val (.ref b1), .val (.ref t), .unset, .unset]) rfl k) ?_
  refine own_st (T' := T3) (g' := (mkF m 30 #[.val (.int p1), .val (.int p2), .val (.int p3), .val (.int z7), .val (.ref b1), .val (.ref t), .unset, .unset] [(.ref t)])) (fun _ k => Jvm.Free.XS.aload (g := (mkF m 28 #[.val (.int p1), .val (.int p2), .val (.int p3), .val (.int z7), .val (.ref b1), .val (.ref t), .unset, .unset] [])) X3.here hx rfl (hb hby at_28) rfl rfl k) ?_
  refine own_st (T' := T3) (g' := (mkF m 31 #[.val (.int p1), .val (.int p2), .val (.int p3), .val (.int z7), .val (.ref b1), .val (.ref t), .unset, .unset] [(.int (0 : Int32)), (.ref t)])) (fun _ k => XS.iconst (g := (mkF m 30 #[.val (.int p1), .val (.int p2), .val (.int p3), .val (.int z7), .val (.ref b1), .val (.ref t), .unset, .unset] [(.ref t)])) X3.here hx rfl (hb hby at_30) k) ?_
  refine own_st (T' := T3) (g' := (mkF m 32 #[.val (.int p1), .val (.int p2), .val (.int p3), .val (.int z7), .val (.ref b1), .val (.ref t), .unset, .unset] [(.int p3), (.int (0 : Int32)), (.ref t)])) (fun _ k => Jvm.Free.XS.iloadN (g := (mkF m 31 #[.val (.int p1), .val (.int p2), .val (.int p3), .val (.int z7), .val (.ref b1), .val (.ref t), .unset, .unset] [(.int (0 : Int32)), (.ref t)])) X3.here hx rfl (hb hby at_31) rfl k) ?_
  refine own_st (T' := T3) (g' := (mkF m 33 #[.val (.int p1), .val (.int p2), .val (.int p3), .val (.int z7), .val (.ref b1), .val (.ref t), .unset, .unset] [(.int (0 : Int32)), (.int p3), (.int (0 : Int32)), (.ref t)])) (fun _ k => XS.iconst (g := (mkF m 32 #[.val (.int p1), .val (.int p2), .val (.int p3), .val (.int z7), .val (.ref b1), .val (.ref t), .unset, .unset] [(.int p3), (.int (0 : Int32)), (.ref t)])) X3.here hx rfl (hb hby at_32) k) ?_
  obtain ⟨v4, T4, L4, X4, hQ4, st4⟩ := own_packS (Jvm.LawKit.callS X3 hx (y := (⟨"com/example/millrace/millrace/wire/ProtocolWriterPutInt32AtPinLaw", "orig", "(II)B"⟩ : MethodName)) hown (mvT hZ (hw _ (List.mem_of_getElem? (i := 28) rfl))) (mvT hZ (hw _ (List.mem_of_getElem? (i := 29) rfl))) (mvT hZ (hw _ (List.mem_of_getElem? (i := 30) rfl))) (mvT hZ (hw _ (List.mem_of_getElem? (i := 31) rfl))) (by decide) (backOf (W := 2) (rm6 l Z a0 hw [] p3 (0 : Int32) T2.heap n0 Zs2 ) hZ (hw _ (List.mem_of_getElem? (i := 31) rfl)) (hw _ (List.mem_of_getElem? (i := 30) rfl)) (by decide) (by decide)) (g := (mkF m 33 #[.val (.int p1), .val (.int p2), .val (.int p3), .val (.int z7), .val (.ref b1), .val (.ref t), .unset, .unset] [(.int (0 : Int32)), (.int p3), (.int (0 : Int32)), (.ref t)])) rfl (by rw [hml]; rfl) (argsL := [(.int p3), (.int (0 : Int32))]) (rest := [(.int (0 : Int32)), (.ref t)]) (lenOf own_pd0_2 rfl) rfl (by show 2 * 0 + _ ≤ _; exact Nat.le_of_eq rfl) (hb hby at_33) (fun _ _ => ⟨rfl, e3, (by decide : 2 + 0 ≤ _), (by decide : 18 + 0 ≤ _)⟩))
  obtain ⟨rfl, N4q, e4⟩ := hQ4
  obtain ⟨lc4, X4, N4⟩ := own_loc X4 (Fr.app N3 N4q)
  refine own_st (T' := T4) (g' := (mkF m 36 #[.val (.int p1), .val (.int p2), .val (.int p3), .val (.int z7), .val (.ref b1), .val (.ref t), .unset, .unset] [(.int (own_f6_0 p3 (0 : Int32))), (.int (0 : Int32)), (.ref t)])) (fun _ k => (st4) _ k) ?_
  obtain ⟨cl5, Ar5, qk5, Sz5, Nn5, Hs5, Gs5⟩ := Vt2
  have hin5 : ¬ ((0 : Int32) < 0 ∨ cl5.slots.size ≤ ((0 : Int32)).toNatClampNeg) := inb_of Sz5 ⟨by decide, by decide⟩
  obtain ⟨T5, h5, X5, e5, W5, st5⟩ := stB X4 hx hZ e4 Ar5 (j := (0 : Int32)) hin5 (g := (mkF m 36 #[.val (.int p1), .val (.int p2), .val (.int p3), .val (.int z7), .val (.ref b1), .val (.ref t), .unset, .unset] [(.int (own_f6_0 p3 (0 : Int32))), (.int (0 : Int32)), (.ref t)])) rfl rfl (hb hby at_36)
  have V5 : Arv Z h5 t ka .byte (16 : Int32) [(.int (nar .byte (own_f6_0 p3 (0 : Int32)))), (.int (0 : Int32)), (.int (0 : Int32)), (.int (0 : Int32)), (.int (0 : Int32)), (.int (0 : Int32)), (.int (0 : Int32)), (.int (0 : Int32)), (.int (0 : Int32)), (.int (0 : Int32)), (.int (0 : Int32)), (.int (0 : Int32)), (.int (0 : Int32)), (.int (0 : Int32)), (.int (0 : Int32)), (.int (0 : Int32))] (.int (0 : Int32)) := Arv.set Ar5 qk5 Sz5 Nn5 Hs5 Gs5 (fits_nar_byte _) W5 0 rfl (Nat.le_of_ble_eq_true rfl)
  have Zs5 : n0 ≤ h5.size := Nat.le_trans Zs2 (Keep.of_wr W5).1
  obtain ⟨lc5, X5, N5⟩ := own_loc X5 (Fr.snoc X5 N4 gn_t)
  have Fa6 : Exa Z h5 b1 "com/example/millrace/millrace/wire/ProtocolWriter" := Eq2.wr W5
  have Fa7 : Fld Z h5 b1 "com/example/millrace/millrace/wire/ProtocolWriter" "bytes" "[B" (.ref t) := Fb2.other W5 (Or.inl ne_b1_t)
  have Fa8 : Fld Z h5 b1 "com/example/millrace/millrace/wire/ProtocolWriter" "position" "I" (.int (0 : Int32)) := Fp2.other W5 (Or.inl ne_b1_t)
  refine own_st (T' := T5) (g' := (mkF m 37 #[.val (.int p1), .val (.int p2), .val (.int p3), .val (.int z7), .val (.ref b1), .val (.ref t), .unset, .unset] [])) (fun _ k => (st5) _ k) ?_
  refine own_st (T' := T5) (g' := (mkF m 39 #[.val (.int p1), .val (.int p2), .val (.int p3), .val (.int z7), .val (.ref b1), .val (.ref t), .unset, .unset] [(.ref t)])) (fun _ k => Jvm.Free.XS.aload (g := (mkF m 37 #[.val (.int p1), .val (.int p2), .val (.int p3), .val (.int z7), .val (.ref b1), .val (.ref t), .unset, .unset] [])) X5.here hx rfl (hb hby at_37) rfl rfl k) ?_
  refine own_st (T' := T5) (g' := (mkF m 40 #[.val (.int p1), .val (.int p2), .val (.int p3), .val (.int z7), .val (.ref b1), .val (.ref t), .unset, .unset] [(.int (1 : Int32)), (.ref t)])) (fun _ k => XS.iconst (g := (mkF m 39 #[.val (.int p1), .val (.int p2), .val (.int p3), .val (.int z7), .val (.ref b1), .val (.ref t), .unset, .unset] [(.ref t)])) X5.here hx rfl (hb hby at_39) k) ?_
  refine own_st (T' := T5) (g' := (mkF m 41 #[.val (.int p1), .val (.int p2), .val (.int p3), .val (.int z7), .val (.ref b1), .val (.ref t), .unset, .unset] [(.int p3), (.int (1 : Int32)), (.ref t)])) (fun _ k => Jvm.Free.XS.iloadN (g := (mkF m 40 #[.val (.int p1), .val (.int p2), .val (.int p3), .val (.int z7), .val (.ref b1), .val (.ref t), .unset, .unset] [(.int (1 : Int32)), (.ref t)])) X5.here hx rfl (hb hby at_40) rfl k) ?_
  refine own_st (T' := T5) (g' := (mkF m 42 #[.val (.int p1), .val (.int p2), .val (.int p3), .val (.int z7), .val (.ref b1), .val (.ref t), .unset, .unset] [(.int (1 : Int32)), (.int p3), (.int (1 : Int32)), (.ref t)])) (fun _ k => XS.iconst (g := (mkF m 41 #[.val (.int p1), .val (.int p2), .val (.int p3), .val (.int z7), .val (.ref b1), .val (.ref t), .unset, .unset] [(.int p3), (.int (1 : Int32)), (.ref t)])) X5.here hx rfl (hb hby at_41) k) ?_
  obtain ⟨v9, T9, L9, X9, hQ9, st9⟩ := own_packS (Jvm.LawKit.callS X5 hx (y := (⟨"com/example/millrace/millrace/wire/ProtocolWriterPutInt32AtPinLaw", "orig", "(II)B"⟩ : MethodName)) hown (mvT hZ (hw _ (List.mem_of_getElem? (i := 28) rfl))) (mvT hZ (hw _ (List.mem_of_getElem? (i := 29) rfl))) (mvT hZ (hw _ (List.mem_of_getElem? (i := 30) rfl))) (mvT hZ (hw _ (List.mem_of_getElem? (i := 31) rfl))) (by decide) (backOf (W := 2) (rm6 l Z a0 hw [] p3 (1 : Int32) h5 n0 Zs5 ) hZ (hw _ (List.mem_of_getElem? (i := 31) rfl)) (hw _ (List.mem_of_getElem? (i := 30) rfl)) (by decide) (by decide)) (g := (mkF m 42 #[.val (.int p1), .val (.int p2), .val (.int p3), .val (.int z7), .val (.ref b1), .val (.ref t), .unset, .unset] [(.int (1 : Int32)), (.int p3), (.int (1 : Int32)), (.ref t)])) rfl (by rw [hml]; rfl) (argsL := [(.int p3), (.int (1 : Int32))]) (rest := [(.int (1 : Int32)), (.ref t)]) (lenOf own_pd0_2 rfl) rfl (by show 2 * 0 + _ ≤ _; exact Nat.le_of_eq rfl) (hb hby at_42) (fun _ _ => ⟨rfl, e5, (by decide : 2 + 0 ≤ _), (by decide : 18 + 0 ≤ _)⟩))
  obtain ⟨rfl, N9q, e9⟩ := hQ9
  obtain ⟨lc9, X9, N9⟩ := own_loc X9 (Fr.app N5 N9q)
  refine own_st (T' := T9) (g' := (mkF m 45 #[.val (.int p1), .val (.int p2), .val (.int p3), .val (.int z7), .val (.ref b1), .val (.ref t), .unset, .unset] [(.int (own_f6_0 p3 (1 : Int32))), (.int (1 : Int32)), (.ref t)])) (fun _ k => (st9) _ k) ?_
  obtain ⟨cl10, Ar10, qk10, Sz10, Nn10, Hs10, Gs10⟩ := V5
  have hin10 : ¬ ((1 : Int32) < 0 ∨ cl10.slots.size ≤ ((1 : Int32)).toNatClampNeg) := inb_of Sz10 ⟨by decide, by decide⟩
  obtain ⟨T10, h10, X10, e10, W10, st10⟩ := stB X9 hx hZ e9 Ar10 (j := (1 : Int32)) hin10 (g := (mkF m 45 #[.val (.int p1), .val (.int p2), .val (.int p3), .val (.int z7), .val (.ref b1), .val (.ref t), .unset, .unset] [(.int (own_f6_0 p3 (1 : Int32))), (.int (1 : Int32)), (.ref t)])) rfl rfl (hb hby at_45)
  have V10 : Arv Z h10 t ka .byte (16 : Int32) [(.int (nar .byte (own_f6_0 p3 (0 : Int32)))), (.int (nar .byte (own_f6_0 p3 (1 : Int32)))), (.int (0 : Int32)), (.int (0 : Int32)), (.int (0 : Int32)), (.int (0 : Int32)), (.int (0 : Int32)), (.int (0 : Int32)), (.int (0 : Int32)), (.int (0 : Int32)), (.int (0 : Int32)), (.int (0 : Int32)), (.int (0 : Int32)), (.int (0 : Int32)), (.int (0 : Int32)), (.int (0 : Int32))] (.int (0 : Int32)) := Arv.set Ar10 qk10 Sz10 Nn10 Hs10 Gs10 (fits_nar_byte _) W10 1 rfl (Nat.le_of_ble_eq_true rfl)
  have Zs10 : n0 ≤ h10.size := Nat.le_trans Zs5 (Keep.of_wr W10).1
  obtain ⟨lc10, X10, N10⟩ := own_loc X10 (Fr.snoc X10 N9 gn_t)
  have Fa11 : Exa Z h10 b1 "com/example/millrace/millrace/wire/ProtocolWriter" := Fa6.wr W10
  have Fa12 : Fld Z h10 b1 "com/example/millrace/millrace/wire/ProtocolWriter" "bytes" "[B" (.ref t) := Fa7.other W10 (Or.inl ne_b1_t)
  have Fa13 : Fld Z h10 b1 "com/example/millrace/millrace/wire/ProtocolWriter" "position" "I" (.int (0 : Int32)) := Fa8.other W10 (Or.inl ne_b1_t)
  refine own_st (T' := T10) (g' := (mkF m 46 #[.val (.int p1), .val (.int p2), .val (.int p3), .val (.int z7), .val (.ref b1), .val (.ref t), .unset, .unset] [])) (fun _ k => (st10) _ k) ?_
  refine own_st (T' := T10) (g' := (mkF m 48 #[.val (.int p1), .val (.int p2), .val (.int p3), .val (.int z7), .val (.ref b1), .val (.ref t), .unset, .unset] [(.ref t)])) (fun _ k => Jvm.Free.XS.aload (g := (mkF m 46 #[.val (.int p1), .val (.int p2), .val (.int p3), .val (.int z7), .val (.ref b1), .val (.ref t), .unset, .unset] [])) X10.here hx rfl (hb hby at_46) rfl rfl k) ?_
  refine own_st (T' := T10) (g' := (mkF m 49 #[.val (.int p1), .val (.int p2), .val (.int p3), .val (.int z7), .val (.ref b1), .val (.ref t), .unset, .unset] [(.int (2 : Int32)), (.ref t)])) (fun _ k => XS.iconst (g := (mkF m 48 #[.val (.int p1), .val (.int p2), .val (.int p3), .val (.int z7), .val (.ref b1), .val (.ref t), .unset, .unset] [(.ref t)])) X10.here hx rfl (hb hby at_48) k) ?_
  refine own_st (T' := T10) (g' := (mkF m 50 #[.val (.int p1), .val (.int p2), .val (.int p3), .val (.int z7), .val (.ref b1), .val (.ref t), .unset, .unset] [(.int p3), (.int (2 : Int32)), (.ref t)])) (fun _ k => Jvm.Free.XS.iloadN (g := (mkF m 49 #[.val (.int p1), .val (.int p2), .val (.int p3), .val (.int z7), .val (.ref b1), .val (.ref t), .unset, .unset] [(.int (2 : Int32)), (.ref t)])) X10.here hx rfl (hb hby at_49) rfl k) ?_
  refine own_st (T' := T10) (g' := (mkF m 51 #[.val (.int p1), .val (.int p2), .val (.int p3), .val (.int z7), .val (.ref b1), .val (.ref t), .unset, .unset] [(.int (2 : Int32)), (.int p3), (.int (2 : Int32)), (.ref t)])) (fun _ k => XS.iconst (g := (mkF m 50 #[.val (.int p1), .val (.int p2), .val (.int p3), .val (.int z7), .val (.ref b1), .val (.ref t), .unset, .unset] [(.int p3), (.int (2 : Int32)), (.ref t)])) X10.here hx rfl (hb hby at_50) k) ?_
  obtain ⟨v14, T14, L14, X14, hQ14, st14⟩ := own_packS (Jvm.LawKit.callS X10 hx (y := (⟨"com/example/millrace/millrace/wire/ProtocolWriterPutInt32AtPinLaw", "orig", "(II)B"⟩ : MethodName)) hown (mvT hZ (hw _ (List.mem_of_getElem? (i := 28) rfl))) (mvT hZ (hw _ (List.mem_of_getElem? (i := 29) rfl))) (mvT hZ (hw _ (List.mem_of_getElem? (i := 30) rfl))) (mvT hZ (hw _ (List.mem_of_getElem? (i := 31) rfl))) (by decide) (backOf (W := 2) (rm6 l Z a0 hw [] p3 (2 : Int32) h10 n0 Zs10 ) hZ (hw _ (List.mem_of_getElem? (i := 31) rfl)) (hw _ (List.mem_of_getElem? (i := 30) rfl)) (by decide) (by decide)) (g := (mkF m 51 #[.val (.int p1), .val (.int p2), .val (.int p3), .val (.int z7), .val (.ref b1), .val (.ref t), .unset, .unset] [(.int (2 : Int32)), (.int p3), (.int (2 : Int32)), (.ref t)])) rfl (by rw [hml]; rfl) (argsL := [(.int p3), (.int (2 : Int32))]) (rest := [(.int (2 : Int32)), (.ref t)]) (lenOf own_pd0_2 rfl) rfl (by show 2 * 0 + _ ≤ _; exact Nat.le_of_eq rfl) (hb hby at_51) (fun _ _ => ⟨rfl, e10, (by decide : 2 + 0 ≤ _), (by decide : 18 + 0 ≤ _)⟩))
  obtain ⟨rfl, N14q, e14⟩ := hQ14
  obtain ⟨lc14, X14, N14⟩ := own_loc X14 (Fr.app N10 N14q)
  refine own_st (T' := T14) (g' := (mkF m 54 #[.val (.int p1), .val (.int p2), .val (.int p3), .val (.int z7), .val (.ref b1), .val (.ref t), .unset, .unset] [(.int (own_f6_0 p3 (2 : Int32))), (.int (2 : Int32)), (.ref t)])) (fun _ k => (st14) _ k) ?_
  obtain ⟨cl15, Ar15, qk15, Sz15, Nn15, Hs15, Gs15⟩ := V10
  have hin15 : ¬ ((2 : Int32) < 0 ∨ cl15.slots.size ≤ ((2 : Int32)).toNatClampNeg) := inb_of Sz15 ⟨by decide, by decide⟩
  obtain ⟨T15, h15, X15, e15, W15, st15⟩ := stB X14 hx hZ e14 Ar15 (j := (2 : Int32)) hin15 (g := (mkF m 54 #[.val (.int p1), .val (.int p2), .val (.int p3), .val (.int z7), .val (.ref b1), .val (.ref t), .unset, .unset] [(.int (own_f6_0 p3 (2 : Int32))), (.int (2 : Int32)), (.ref t)])) rfl rfl (hb hby at_54)
  have V15 : Arv Z h15 t ka .byte (16 : Int32) [(.int (nar .byte (own_f6_0 p3 (0 : Int32)))), (.int (nar .byte (own_f6_0 p3 (1 : Int32)))), (.int (nar .byte (own_f6_0 p3 (2 : Int32)))), (.int (0 : Int32)), (.int (0 : Int32)), (.int (0 : Int32)), (.int (0 : Int32)), (.int (0 : Int32)), (.int (0 : Int32)), (.int (0 : Int32)), (.int (0 : Int32)), (.int (0 : Int32)), (.int (0 : Int32)), (.int (0 : Int32)), (.int (0 : Int32)), (.int (0 : Int32))] (.int (0 : Int32)) := Arv.set Ar15 qk15 Sz15 Nn15 Hs15 Gs15 (fits_nar_byte _) W15 2 rfl (Nat.le_of_ble_eq_true rfl)
  have Zs15 : n0 ≤ h15.size := Nat.le_trans Zs10 (Keep.of_wr W15).1
  obtain ⟨lc15, X15, N15⟩ := own_loc X15 (Fr.snoc X15 N14 gn_t)
  have Fa16 : Exa Z h15 b1 "com/example/millrace/millrace/wire/ProtocolWriter" := Fa11.wr W15
  have Fa17 : Fld Z h15 b1 "com/example/millrace/millrace/wire/ProtocolWriter" "bytes" "[B" (.ref t) := Fa12.other W15 (Or.inl ne_b1_t)
  have Fa18 : Fld Z h15 b1 "com/example/millrace/millrace/wire/ProtocolWriter" "position" "I" (.int (0 : Int32)) := Fa13.other W15 (Or.inl ne_b1_t)
  refine own_st (T' := T15) (g' := (mkF m 55 #[.val (.int p1), .val (.int p2), .val (.int p3), .val (.int z7), .val (.ref b1), .val (.ref t), .unset, .unset] [])) (fun _ k => (st15) _ k) ?_
  refine own_st (T' := T15) (g' := (mkF m 57 #[.val (.int p1), .val (.int p2), .val (.int p3), .val (.int z7), .val (.ref b1), .val (.ref t), .unset, .unset] [(.ref t)])) (fun _ k => Jvm.Free.XS.aload (g := (mkF m 55 #[.val (.int p1), .val (.int p2), .val (.int p3), .val (.int z7), .val (.ref b1), .val (.ref t), .unset, .unset] [])) X15.here hx rfl (hb hby at_55) rfl rfl k) ?_
  refine own_st (T' := T15) (g' := (mkF m 58 #[.val (.int p1), .val (.int p2), .val (.int p3), .val (.int z7), .val (.ref b1), .val (.ref t), .unset, .unset] [(.int (3 : Int32)), (.ref t)])) (fun _ k => XS.iconst (g := (mkF m 57 #[.val (.int p1), .val (.int p2), .val (.int p3), .val (.int z7), .val (.ref b1), .val (.ref t), .unset, .unset] [(.ref t)])) X15.here hx rfl (hb hby at_57) k) ?_
  refine own_st (T' := T15) (g' := (mkF m 59 #[.val (.int p1), .val (.int p2), .val (.int p3), .val (.int z7), .val (.ref b1), .val (.ref t), .unset, .unset] [(.int p3), (.int (3 : Int32)), (.ref t)])) (fun _ k => Jvm.Free.XS.iloadN (g := (mkF m 58 #[.val (.int p1), .val (.int p2), .val (.int p3), .val (.int z7), .val (.ref b1), .val (.ref t), .unset, .unset] [(.int (3 : Int32)), (.ref t)])) X15.here hx rfl (hb hby at_58) rfl k) ?_
  refine own_st (T' := T15) (g' := (mkF m 60 #[.val (.int p1), .val (.int p2), .val (.int p3), .val (.int z7), .val (.ref b1), .val (.ref t), .unset, .unset] [(.int (3 : Int32)), (.int p3), (.int (3 : Int32)), (.ref t)])) (fun _ k => XS.iconst (g := (mkF m 59 #[.val (.int p1), .val (.int p2), .val (.int p3), .val (.int z7), .val (.ref b1), .val (.ref t), .unset, .unset] [(.int p3), (.int (3 : Int32)), (.ref t)])) X15.here hx rfl (hb hby at_59) k) ?_
  obtain ⟨v19, T19, L19, X19, hQ19, st19⟩ := own_packS (Jvm.LawKit.callS X15 hx (y := (⟨"com/example/millrace/millrace/wire/ProtocolWriterPutInt32AtPinLaw", "orig", "(II)B"⟩ : MethodName)) hown (mvT hZ (hw _ (List.mem_of_getElem? (i := 28) rfl))) (mvT hZ (hw _ (List.mem_of_getElem? (i := 29) rfl))) (mvT hZ (hw _ (List.mem_of_getElem? (i := 30) rfl))) (mvT hZ (hw _ (List.mem_of_getElem? (i := 31) rfl))) (by decide) (backOf (W := 2) (rm6 l Z a0 hw [] p3 (3 : Int32) h15 n0 Zs15 ) hZ (hw _ (List.mem_of_getElem? (i := 31) rfl)) (hw _ (List.mem_of_getElem? (i := 30) rfl)) (by decide) (by decide)) (g := (mkF m 60 #[.val (.int p1), .val (.int p2), .val (.int p3), .val (.int z7), .val (.ref b1), .val (.ref t), .unset, .unset] [(.int (3 : Int32)), (.int p3), (.int (3 : Int32)), (.ref t)])) rfl (by rw [hml]; rfl) (argsL := [(.int p3), (.int (3 : Int32))]) (rest := [(.int (3 : Int32)), (.ref t)]) (lenOf own_pd0_2 rfl) rfl (by show 2 * 0 + _ ≤ _; exact Nat.le_of_eq rfl) (hb hby at_60) (fun _ _ => ⟨rfl, e15, (by decide : 2 + 0 ≤ _), (by decide : 18 + 0 ≤ _)⟩))
  obtain ⟨rfl, N19q, e19⟩ := hQ19
  obtain ⟨lc19, X19, N19⟩ := own_loc X19 (Fr.app N15 N19q)
  refine own_st (T' := T19) (g' := (mkF m 63 #[.val (.int p1), .val (.int p2), .val (.int p3), .val (.int z7), .val (.ref b1), .val (.ref t), .unset, .unset] [(.int (own_f6_0 p3 (3 : Int32))), (.int (3 : Int32)), (.ref t)])) (fun _ k => (st19) _ k) ?_
  obtain ⟨cl20, Ar20, qk20, Sz20, Nn20, Hs20, Gs20⟩ := V15
  have hin20 : ¬ ((3 : Int32) < 0 ∨ cl20.slots.size ≤ ((3 : Int32)).toNatClampNeg) := inb_of Sz20 ⟨by decide, by decide⟩
  obtain ⟨T20, h20, X20, e20, W20, st20⟩ := stB X19 hx hZ e19 Ar20 (j := (3 : Int32)) hin20 (g := (mkF m 63 #[.val (.int p1), .val (.int p2), .val (.int p3), .val (.int z7), .val (.ref b1), .val (.ref t), .unset, .unset] [(.int (own_f6_0 p3 (3 : Int32))), (.int (3 : Int32)), (.ref t)])) rfl rfl (hb hby at_63)
  have V20 : Arv Z h20 t ka .byte (16 : Int32) [(.int (nar .byte (own_f6_0 p3 (0 : Int32)))), (.int (nar .byte (own_f6_0 p3 (1 : Int32)))), (.int (nar .byte (own_f6_0 p3 (2 : Int32)))), (.int (nar .byte (own_f6_0 p3 (3 : Int32)))), (.int (0 : Int32)), (.int (0 : Int32)), (.int (0 : Int32)), (.int (0 : Int32)), (.int (0 : Int32)), (.int (0 : Int32)), (.int (0 : Int32)), (.int (0 : Int32)), (.int (0 : Int32)), (.int (0 : Int32)), (.int (0 : Int32)), (.int (0 : Int32))] (.int (0 : Int32)) := Arv.set Ar20 qk20 Sz20 Nn20 Hs20 Gs20 (fits_nar_byte _) W20 3 rfl (Nat.le_of_ble_eq_true rfl)
  have Zs20 : n0 ≤ h20.size := Nat.le_trans Zs15 (Keep.of_wr W20).1
  obtain ⟨lc20, X20, N20⟩ := own_loc X20 (Fr.snoc X20 N19 gn_t)
  have Fa21 : Exa Z h20 b1 "com/example/millrace/millrace/wire/ProtocolWriter" := Fa16.wr W20
  have Fa22 : Fld Z h20 b1 "com/example/millrace/millrace/wire/ProtocolWriter" "bytes" "[B" (.ref t) := Fa17.other W20 (Or.inl ne_b1_t)
  have Fa23 : Fld Z h20 b1 "com/example/millrace/millrace/wire/ProtocolWriter" "position" "I" (.int (0 : Int32)) := Fa18.other W20 (Or.inl ne_b1_t)
  refine own_st (T' := T20) (g' := (mkF m 64 #[.val (.int p1), .val (.int p2), .val (.int p3), .val (.int z7), .val (.ref b1), .val (.ref t), .unset, .unset] [])) (fun _ k => (st20) _ k) ?_
  refine own_st (T' := T20) (g' := (mkF m 66 #[.val (.int p1), .val (.int p2), .val (.int p3), .val (.int z7), .val (.ref b1), .val (.ref t), .unset, .unset] [(.ref t)])) (fun _ k => Jvm.Free.XS.aload (g := (mkF m 64 #[.val (.int p1), .val (.int p2), .val (.int p3), .val (.int z7), .val (.ref b1), .val (.ref t), .unset, .unset] [])) X20.here hx rfl (hb hby at_64) rfl rfl k) ?_
  refine own_st (T' := T20) (g' := (mkF m 67 #[.val (.int p1), .val (.int p2), .val (.int p3), .val (.int z7), .val (.ref b1), .val (.ref t), .unset, .unset] [(.int (4 : Int32)), (.ref t)])) (fun _ k => XS.iconst (g := (mkF m 66 #[.val (.int p1), .val (.int p2), .val (.int p3), .val (.int z7), .val (.ref b1), .val (.ref t), .unset, .unset] [(.ref t)])) X20.here hx rfl (hb hby at_66) k) ?_
  refine own_st (T' := T20) (g' := (mkF m 68 #[.val (.int p1), .val (.int p2), .val (.int p3), .val (.int z7), .val (.ref b1), .val (.ref t), .unset, .unset] [(.int p3), (.int (4 : Int32)), (.ref t)])) (fun _ k => Jvm.Free.XS.iloadN (g := (mkF m 67 #[.val (.int p1), .val (.int p2), .val (.int p3), .val (.int z7), .val (.ref b1), .val (.ref t), .unset, .unset] [(.int (4 : Int32)), (.ref t)])) X20.here hx rfl (hb hby at_67) rfl k) ?_
  refine own_st (T' := T20) (g' := (mkF m 69 #[.val (.int p1), .val (.int p2), .val (.int p3), .val (.int z7), .val (.ref b1), .val (.ref t), .unset, .unset] [(.int (4 : Int32)), (.int p3), (.int (4 : Int32)), (.ref t)])) (fun _ k => XS.iconst (g := (mkF m 68 #[.val (.int p1), .val (.int p2), .val (.int p3), .val (.int z7), .val (.ref b1), .val (.ref t), .unset, .unset] [(.int p3), (.int (4 : Int32)), (.ref t)])) X20.here hx rfl (hb hby at_68) k) ?_
  obtain ⟨v24, T24, L24, X24, hQ24, st24⟩ := own_packS (Jvm.LawKit.callS X20 hx (y := (⟨"com/example/millrace/millrace/wire/ProtocolWriterPutInt32AtPinLaw", "orig", "(II)B"⟩ : MethodName)) hown (mvT hZ (hw _ (List.mem_of_getElem? (i := 28) rfl))) (mvT hZ (hw _ (List.mem_of_getElem? (i := 29) rfl))) (mvT hZ (hw _ (List.mem_of_getElem? (i := 30) rfl))) (mvT hZ (hw _ (List.mem_of_getElem? (i := 31) rfl))) (by decide) (backOf (W := 2) (rm6 l Z a0 hw [] p3 (4 : Int32) h20 n0 Zs20 ) hZ (hw _ (List.mem_of_getElem? (i := 31) rfl)) (hw _ (List.mem_of_getElem? (i := 30) rfl)) (by decide) (by decide)) (g := (mkF m 69 #[.val (.int p1), .val (.int p2), .val (.int p3), .val (.int z7), .val (.ref b1), .val (.ref t), .unset, .unset] [(.int (4 : Int32)), (.int p3), (.int (4 : Int32)), (.ref t)])) rfl (by rw [hml]; rfl) (argsL := [(.int p3), (.int (4 : Int32))]) (rest := [(.int (4 : Int32)), (.ref t)]) (lenOf own_pd0_2 rfl) rfl (by show 2 * 0 + _ ≤ _; exact Nat.le_of_eq rfl) (hb hby at_69) (fun _ _ => ⟨rfl, e20, (by decide : 2 + 0 ≤ _), (by decide : 18 + 0 ≤ _)⟩))
  obtain ⟨rfl, N24q, e24⟩ := hQ24
  obtain ⟨lc24, X24, N24⟩ := own_loc X24 (Fr.app N20 N24q)
  refine own_st (T' := T24) (g' := (mkF m 72 #[.val (.int p1), .val (.int p2), .val (.int p3), .val (.int z7), .val (.ref b1), .val (.ref t), .unset, .unset] [(.int (own_f6_0 p3 (4 : Int32))), (.int (4 : Int32)), (.ref t)])) (fun _ k => (st24) _ k) ?_
  obtain ⟨cl25, Ar25, qk25, Sz25, Nn25, Hs25, Gs25⟩ := V20
  have hin25 : ¬ ((4 : Int32) < 0 ∨ cl25.slots.size ≤ ((4 : Int32)).toNatClampNeg) := inb_of Sz25 ⟨by decide, by decide⟩
  obtain ⟨T25, h25, X25, e25, W25, st25⟩ := stB X24 hx hZ e24 Ar25 (j := (4 : Int32)) hin25 (g := (mkF m 72 #[.val (.int p1), .val (.int p2), .val (.int p3), .val (.int z7), .val (.ref b1), .val (.ref t), .unset, .unset] [(.int (own_f6_0 p3 (4 : Int32))), (.int (4 : Int32)), (.ref t)])) rfl rfl (hb hby at_72)
  have V25 : Arv Z h25 t ka .byte (16 : Int32) [(.int (nar .byte (own_f6_0 p3 (0 : Int32)))), (.int (nar .byte (own_f6_0 p3 (1 : Int32)))), (.int (nar .byte (own_f6_0 p3 (2 : Int32)))), (.int (nar .byte (own_f6_0 p3 (3 : Int32)))), (.int (nar .byte (own_f6_0 p3 (4 : Int32)))), (.int (0 : Int32)), (.int (0 : Int32)), (.int (0 : Int32)), (.int (0 : Int32)), (.int (0 : Int32)), (.int (0 : Int32)), (.int (0 : Int32)), (.int (0 : Int32)), (.int (0 : Int32)), (.int (0 : Int32)), (.int (0 : Int32))] (.int (0 : Int32)) := Arv.set Ar25 qk25 Sz25 Nn25 Hs25 Gs25 (fits_nar_byte _) W25 4 rfl (Nat.le_of_ble_eq_true rfl)
  have Zs25 : n0 ≤ h25.size := Nat.le_trans Zs20 (Keep.of_wr W25).1
  obtain ⟨lc25, X25, N25⟩ := own_loc X25 (Fr.snoc X25 N24 gn_t)
  have Fa26 : Exa Z h25 b1 "com/example/millrace/millrace/wire/ProtocolWriter" := Fa21.wr W25
  have Fa27 : Fld Z h25 b1 "com/example/millrace/millrace/wire/ProtocolWriter" "bytes" "[B" (.ref t) := Fa22.other W25 (Or.inl ne_b1_t)
  have Fa28 : Fld Z h25 b1 "com/example/millrace/millrace/wire/ProtocolWriter" "position" "I" (.int (0 : Int32)) := Fa23.other W25 (Or.inl ne_b1_t)
  refine own_st (T' := T25) (g' := (mkF m 73 #[.val (.int p1), .val (.int p2), .val (.int p3), .val (.int z7), .val (.ref b1), .val (.ref t), .unset, .unset] [])) (fun _ k => (st25) _ k) ?_
  refine own_st (T' := T25) (g' := (mkF m 75 #[.val (.int p1), .val (.int p2), .val (.int p3), .val (.int z7), .val (.ref b1), .val (.ref t), .unset, .unset] [(.ref t)])) (fun _ k => Jvm.Free.XS.aload (g := (mkF m 73 #[.val (.int p1), .val (.int p2), .val (.int p3), .val (.int z7), .val (.ref b1), .val (.ref t), .unset, .unset] [])) X25.here hx rfl (hb hby at_73) rfl rfl k) ?_
  refine own_st (T' := T25) (g' := (mkF m 76 #[.val (.int p1), .val (.int p2), .val (.int p3), .val (.int z7), .val (.ref b1), .val (.ref t), .unset, .unset] [(.int (5 : Int32)), (.ref t)])) (fun _ k => XS.iconst (g := (mkF m 75 #[.val (.int p1), .val (.int p2), .val (.int p3), .val (.int z7), .val (.ref b1), .val (.ref t), .unset, .unset] [(.ref t)])) X25.here hx rfl (hb hby at_75) k) ?_
  refine own_st (T' := T25) (g' := (mkF m 77 #[.val (.int p1), .val (.int p2), .val (.int p3), .val (.int z7), .val (.ref b1), .val (.ref t), .unset, .unset] [(.int p3), (.int (5 : Int32)), (.ref t)])) (fun _ k => Jvm.Free.XS.iloadN (g := (mkF m 76 #[.val (.int p1), .val (.int p2), .val (.int p3), .val (.int z7), .val (.ref b1), .val (.ref t), .unset, .unset] [(.int (5 : Int32)), (.ref t)])) X25.here hx rfl (hb hby at_76) rfl k) ?_
  refine own_st (T' := T25) (g' := (mkF m 78 #[.val (.int p1), .val (.int p2), .val (.int p3), .val (.int z7), .val (.ref b1), .val (.ref t), .unset, .unset] [(.int (5 : Int32)), (.int p3), (.int (5 : Int32)), (.ref t)])) (fun _ k => XS.iconst (g := (mkF m 77 #[.val (.int p1), .val (.int p2), .val (.int p3), .val (.int z7), .val (.ref b1), .val (.ref t), .unset, .unset] [(.int p3), (.int (5 : Int32)), (.ref t)])) X25.here hx rfl (hb hby at_77) k) ?_
  obtain ⟨v29, T29, L29, X29, hQ29, st29⟩ := own_packS (Jvm.LawKit.callS X25 hx (y := (⟨"com/example/millrace/millrace/wire/ProtocolWriterPutInt32AtPinLaw", "orig", "(II)B"⟩ : MethodName)) hown (mvT hZ (hw _ (List.mem_of_getElem? (i := 28) rfl))) (mvT hZ (hw _ (List.mem_of_getElem? (i := 29) rfl))) (mvT hZ (hw _ (List.mem_of_getElem? (i := 30) rfl))) (mvT hZ (hw _ (List.mem_of_getElem? (i := 31) rfl))) (by decide) (backOf (W := 2) (rm6 l Z a0 hw [] p3 (5 : Int32) h25 n0 Zs25 ) hZ (hw _ (List.mem_of_getElem? (i := 31) rfl)) (hw _ (List.mem_of_getElem? (i := 30) rfl)) (by decide) (by decide)) (g := (mkF m 78 #[.val (.int p1), .val (.int p2), .val (.int p3), .val (.int z7), .val (.ref b1), .val (.ref t), .unset, .unset] [(.int (5 : Int32)), (.int p3), (.int (5 : Int32)), (.ref t)])) rfl (by rw [hml]; rfl) (argsL := [(.int p3), (.int (5 : Int32))]) (rest := [(.int (5 : Int32)), (.ref t)]) (lenOf own_pd0_2 rfl) rfl (by show 2 * 0 + _ ≤ _; exact Nat.le_of_eq rfl) (hb hby at_78) (fun _ _ => ⟨rfl, e25, (by decide : 2 + 0 ≤ _), (by decide : 18 + 0 ≤ _)⟩))
  obtain ⟨rfl, N29q, e29⟩ := hQ29
  obtain ⟨lc29, X29, N29⟩ := own_loc X29 (Fr.app N25 N29q)
  refine own_st (T' := T29) (g' := (mkF m 81 #[.val (.int p1), .val (.int p2), .val (.int p3), .val (.int z7), .val (.ref b1), .val (.ref t), .unset, .unset] [(.int (own_f6_0 p3 (5 : Int32))), (.int (5 : Int32)), (.ref t)])) (fun _ k => (st29) _ k) ?_
  obtain ⟨cl30, Ar30, qk30, Sz30, Nn30, Hs30, Gs30⟩ := V25
  have hin30 : ¬ ((5 : Int32) < 0 ∨ cl30.slots.size ≤ ((5 : Int32)).toNatClampNeg) := inb_of Sz30 ⟨by decide, by decide⟩
  obtain ⟨T30, h30, X30, e30, W30, st30⟩ := stB X29 hx hZ e29 Ar30 (j := (5 : Int32)) hin30 (g := (mkF m 81 #[.val (.int p1), .val (.int p2), .val (.int p3), .val (.int z7), .val (.ref b1), .val (.ref t), .unset, .unset] [(.int (own_f6_0 p3 (5 : Int32))), (.int (5 : Int32)), (.ref t)])) rfl rfl (hb hby at_81)
  have V30 : Arv Z h30 t ka .byte (16 : Int32) [(.int (nar .byte (own_f6_0 p3 (0 : Int32)))), (.int (nar .byte (own_f6_0 p3 (1 : Int32)))), (.int (nar .byte (own_f6_0 p3 (2 : Int32)))), (.int (nar .byte (own_f6_0 p3 (3 : Int32)))), (.int (nar .byte (own_f6_0 p3 (4 : Int32)))), (.int (nar .byte (own_f6_0 p3 (5 : Int32)))), (.int (0 : Int32)), (.int (0 : Int32)), (.int (0 : Int32)), (.int (0 : Int32)), (.int (0 : Int32)), (.int (0 : Int32)), (.int (0 : Int32)), (.int (0 : Int32)), (.int (0 : Int32)), (.int (0 : Int32))] (.int (0 : Int32)) := Arv.set Ar30 qk30 Sz30 Nn30 Hs30 Gs30 (fits_nar_byte _) W30 5 rfl (Nat.le_of_ble_eq_true rfl)
  have Zs30 : n0 ≤ h30.size := Nat.le_trans Zs25 (Keep.of_wr W30).1
  obtain ⟨lc30, X30, N30⟩ := own_loc X30 (Fr.snoc X30 N29 gn_t)
  have Fa31 : Exa Z h30 b1 "com/example/millrace/millrace/wire/ProtocolWriter" := Fa26.wr W30
  have Fa32 : Fld Z h30 b1 "com/example/millrace/millrace/wire/ProtocolWriter" "bytes" "[B" (.ref t) := Fa27.other W30 (Or.inl ne_b1_t)
  have Fa33 : Fld Z h30 b1 "com/example/millrace/millrace/wire/ProtocolWriter" "position" "I" (.int (0 : Int32)) := Fa28.other W30 (Or.inl ne_b1_t)
  refine own_st (T' := T30) (g' := (mkF m 82 #[.val (.int p1), .val (.int p2), .val (.int p3), .val (.int z7), .val (.ref b1), .val (.ref t), .unset, .unset] [])) (fun _ k => (st30) _ k) ?_
  refine own_st (T' := T30) (g' := (mkF m 84 #[.val (.int p1), .val (.int p2), .val (.int p3), .val (.int z7), .val (.ref b1), .val (.ref t), .unset, .unset] [(.ref t)])) (fun _ k => Jvm.Free.XS.aload (g := (mkF m 82 #[.val (.int p1), .val (.int p2), .val (.int p3), .val (.int z7), .val (.ref b1), .val (.ref t), .unset, .unset] [])) X30.here hx rfl (hb hby at_82) rfl rfl k) ?_
  refine own_st (T' := T30) (g' := (mkF m 86 #[.val (.int p1), .val (.int p2), .val (.int p3), .val (.int z7), .val (.ref b1), .val (.ref t), .unset, .unset] [(.int (6 : Int32)), (.ref t)])) (fun _ k => XS.bipush (g := (mkF m 84 #[.val (.int p1), .val (.int p2), .val (.int p3), .val (.int z7), .val (.ref b1), .val (.ref t), .unset, .unset] [(.ref t)])) X30.here hx rfl (hb hby at_84) k) ?_
  refine own_st (T' := T30) (g' := (mkF m 87 #[.val (.int p1), .val (.int p2), .val (.int p3), .val (.int z7), .val (.ref b1), .val (.ref t), .unset, .unset] [(.int p3), (.int (6 : Int32)), (.ref t)])) (fun _ k => Jvm.Free.XS.iloadN (g := (mkF m 86 #[.val (.int p1), .val (.int p2), .val (.int p3), .val (.int z7), .val (.ref b1), .val (.ref t), .unset, .unset] [(.int (6 : Int32)), (.ref t)])) X30.here hx rfl (hb hby at_86) rfl k) ?_
  refine own_st (T' := T30) (g' := (mkF m 89 #[.val (.int p1), .val (.int p2), .val (.int p3), .val (.int z7), .val (.ref b1), .val (.ref t), .unset, .unset] [(.int (6 : Int32)), (.int p3), (.int (6 : Int32)), (.ref t)])) (fun _ k => XS.bipush (g := (mkF m 87 #[.val (.int p1), .val (.int p2), .val (.int p3), .val (.int z7), .val (.ref b1), .val (.ref t), .unset, .unset] [(.int p3), (.int (6 : Int32)), (.ref t)])) X30.here hx rfl (hb hby at_87) k) ?_
  obtain ⟨v34, T34, L34, X34, hQ34, st34⟩ := own_packS (Jvm.LawKit.callS X30 hx (y := (⟨"com/example/millrace/millrace/wire/ProtocolWriterPutInt32AtPinLaw", "orig", "(II)B"⟩ : MethodName)) hown (mvT hZ (hw _ (List.mem_of_getElem? (i := 28) rfl))) (mvT hZ (hw _ (List.mem_of_getElem? (i := 29) rfl))) (mvT hZ (hw _ (List.mem_of_getElem? (i := 30) rfl))) (mvT hZ (hw _ (List.mem_of_getElem? (i := 31) rfl))) (by decide) (backOf (W := 2) (rm6 l Z a0 hw [] p3 (6 : Int32) h30 n0 Zs30 ) hZ (hw _ (List.mem_of_getElem? (i := 31) rfl)) (hw _ (List.mem_of_getElem? (i := 30) rfl)) (by decide) (by decide)) (g := (mkF m 89 #[.val (.int p1), .val (.int p2), .val (.int p3), .val (.int z7), .val (.ref b1), .val (.ref t), .unset, .unset] [(.int (6 : Int32)), (.int p3), (.int (6 : Int32)), (.ref t)])) rfl (by rw [hml]; rfl) (argsL := [(.int p3), (.int (6 : Int32))]) (rest := [(.int (6 : Int32)), (.ref t)]) (lenOf own_pd0_2 rfl) rfl (by show 2 * 0 + _ ≤ _; exact Nat.le_of_eq rfl) (hb hby at_89) (fun _ _ => ⟨rfl, e30, (by decide : 2 + 0 ≤ _), (by decide : 18 + 0 ≤ _)⟩))
  obtain ⟨rfl, N34q, e34⟩ := hQ34
  obtain ⟨lc34, X34, N34⟩ := own_loc X34 (Fr.app N30 N34q)
  refine own_st (T' := T34) (g' := (mkF m 92 #[.val (.int p1), .val (.int p2), .val (.int p3), .val (.int z7), .val (.ref b1), .val (.ref t), .unset, .unset] [(.int (own_f6_0 p3 (6 : Int32))), (.int (6 : Int32)), (.ref t)])) (fun _ k => (st34) _ k) ?_
  obtain ⟨cl35, Ar35, qk35, Sz35, Nn35, Hs35, Gs35⟩ := V30
  have hin35 : ¬ ((6 : Int32) < 0 ∨ cl35.slots.size ≤ ((6 : Int32)).toNatClampNeg) := inb_of Sz35 ⟨by decide, by decide⟩
  obtain ⟨T35, h35, X35, e35, W35, st35⟩ := stB X34 hx hZ e34 Ar35 (j := (6 : Int32)) hin35 (g := (mkF m 92 #[.val (.int p1), .val (.int p2), .val (.int p3), .val (.int z7), .val (.ref b1), .val (.ref t), .unset, .unset] [(.int (own_f6_0 p3 (6 : Int32))), (.int (6 : Int32)), (.ref t)])) rfl rfl (hb hby at_92)
  have V35 : Arv Z h35 t ka .byte (16 : Int32) [(.int (nar .byte (own_f6_0 p3 (0 : Int32)))), (.int (nar .byte (own_f6_0 p3 (1 : Int32)))), (.int (nar .byte (own_f6_0 p3 (2 : Int32)))), (.int (nar .byte (own_f6_0 p3 (3 : Int32)))), (.int (nar .byte (own_f6_0 p3 (4 : Int32)))), (.int (nar .byte (own_f6_0 p3 (5 : Int32)))), (.int (nar .byte (own_f6_0 p3 (6 : Int32)))), (.int (0 : Int32)), (.int (0 : Int32)), (.int (0 : Int32)), (.int (0 : Int32)), (.int (0 : Int32)), (.int (0 : Int32)), (.int (0 : Int32)), (.int (0 : Int32)), (.int (0 : Int32))] (.int (0 : Int32)) := Arv.set Ar35 qk35 Sz35 Nn35 Hs35 Gs35 (fits_nar_byte _) W35 6 rfl (Nat.le_of_ble_eq_true rfl)
  have Zs35 : n0 ≤ h35.size := Nat.le_trans Zs30 (Keep.of_wr W35).1
  obtain ⟨lc35, X35, N35⟩ := own_loc X35 (Fr.snoc X35 N34 gn_t)
  have Fa36 : Exa Z h35 b1 "com/example/millrace/millrace/wire/ProtocolWriter" := Fa31.wr W35
  have Fa37 : Fld Z h35 b1 "com/example/millrace/millrace/wire/ProtocolWriter" "bytes" "[B" (.ref t) := Fa32.other W35 (Or.inl ne_b1_t)
  have Fa38 : Fld Z h35 b1 "com/example/millrace/millrace/wire/ProtocolWriter" "position" "I" (.int (0 : Int32)) := Fa33.other W35 (Or.inl ne_b1_t)
  refine own_st (T' := T35) (g' := (mkF m 93 #[.val (.int p1), .val (.int p2), .val (.int p3), .val (.int z7), .val (.ref b1), .val (.ref t), .unset, .unset] [])) (fun _ k => (st35) _ k) ?_
  refine own_st (T' := T35) (g' := (mkF m 95 #[.val (.int p1), .val (.int p2), .val (.int p3), .val (.int z7), .val (.ref b1), .val (.ref t), .unset, .unset] [(.ref t)])) (fun _ k => Jvm.Free.XS.aload (g := (mkF m 93 #[.val (.int p1), .val (.int p2), .val (.int p3), .val (.int z7), .val (.ref b1), .val (.ref t), .unset, .unset] [])) X35.here hx rfl (hb hby at_93) rfl rfl k) ?_
  refine own_st (T' := T35) (g' := (mkF m 97 #[.val (.int p1), .val (.int p2), .val (.int p3), .val (.int z7), .val (.ref b1), .val (.ref t), .unset, .unset] [(.int (7 : Int32)), (.ref t)])) (fun _ k => XS.bipush (g := (mkF m 95 #[.val (.int p1), .val (.int p2), .val (.int p3), .val (.int z7), .val (.ref b1), .val (.ref t), .unset, .unset] [(.ref t)])) X35.here hx rfl (hb hby at_95) k) ?_
  refine own_st (T' := T35) (g' := (mkF m 98 #[.val (.int p1), .val (.int p2), .val (.int p3), .val (.int z7), .val (.ref b1), .val (.ref t), .unset, .unset] [(.int p3), (.int (7 : Int32)), (.ref t)])) (fun _ k => Jvm.Free.XS.iloadN (g := (mkF m 97 #[.val (.int p1), .val (.int p2), .val (.int p3), .val (.int z7), .val (.ref b1), .val (.ref t), .unset, .unset] [(.int (7 : Int32)), (.ref t)])) X35.here hx rfl (hb hby at_97) rfl k) ?_
  refine own_st (T' := T35) (g' := (mkF m 100 #[.val (.int p1), .val (.int p2), .val (.int p3), .val (.int z7), .val (.ref b1), .val (.ref t), .unset, .unset] [(.int (7 : Int32)), (.int p3), (.int (7 : Int32)), (.ref t)])) (fun _ k => XS.bipush (g := (mkF m 98 #[.val (.int p1), .val (.int p2), .val (.int p3), .val (.int z7), .val (.ref b1), .val (.ref t), .unset, .unset] [(.int p3), (.int (7 : Int32)), (.ref t)])) X35.here hx rfl (hb hby at_98) k) ?_
  obtain ⟨v39, T39, L39, X39, hQ39, st39⟩ := own_packS (Jvm.LawKit.callS X35 hx (y := (⟨"com/example/millrace/millrace/wire/ProtocolWriterPutInt32AtPinLaw", "orig", "(II)B"⟩ : MethodName)) hown (mvT hZ (hw _ (List.mem_of_getElem? (i := 28) rfl))) (mvT hZ (hw _ (List.mem_of_getElem? (i := 29) rfl))) (mvT hZ (hw _ (List.mem_of_getElem? (i := 30) rfl))) (mvT hZ (hw _ (List.mem_of_getElem? (i := 31) rfl))) (by decide) (backOf (W := 2) (rm6 l Z a0 hw [] p3 (7 : Int32) h35 n0 Zs35 ) hZ (hw _ (List.mem_of_getElem? (i := 31) rfl)) (hw _ (List.mem_of_getElem? (i := 30) rfl)) (by decide) (by decide)) (g := (mkF m 100 #[.val (.int p1), .val (.int p2), .val (.int p3), .val (.int z7), .val (.ref b1), .val (.ref t), .unset, .unset] [(.int (7 : Int32)), (.int p3), (.int (7 : Int32)), (.ref t)])) rfl (by rw [hml]; rfl) (argsL := [(.int p3), (.int (7 : Int32))]) (rest := [(.int (7 : Int32)), (.ref t)]) (lenOf own_pd0_2 rfl) rfl (by show 2 * 0 + _ ≤ _; exact Nat.le_of_eq rfl) (hb hby at_100) (fun _ _ => ⟨rfl, e35, (by decide : 2 + 0 ≤ _), (by decide : 18 + 0 ≤ _)⟩))
  obtain ⟨rfl, N39q, e39⟩ := hQ39
  obtain ⟨lc39, X39, N39⟩ := own_loc X39 (Fr.app N35 N39q)
  refine own_st (T' := T39) (g' := (mkF m 103 #[.val (.int p1), .val (.int p2), .val (.int p3), .val (.int z7), .val (.ref b1), .val (.ref t), .unset, .unset] [(.int (own_f6_0 p3 (7 : Int32))), (.int (7 : Int32)), (.ref t)])) (fun _ k => (st39) _ k) ?_
  obtain ⟨cl40, Ar40, qk40, Sz40, Nn40, Hs40, Gs40⟩ := V35
  have hin40 : ¬ ((7 : Int32) < 0 ∨ cl40.slots.size ≤ ((7 : Int32)).toNatClampNeg) := inb_of Sz40 ⟨by decide, by decide⟩
  obtain ⟨T40, h40, X40, e40, W40, st40⟩ := stB X39 hx hZ e39 Ar40 (j := (7 : Int32)) hin40 (g := (mkF m 103 #[.val (.int p1), .val (.int p2), .val (.int p3), .val (.int z7), .val (.ref b1), .val (.ref t), .unset, .unset] [(.int (own_f6_0 p3 (7 : Int32))), (.int (7 : Int32)), (.ref t)])) rfl rfl (hb hby at_103)
  have V40 : Arv Z h40 t ka .byte (16 : Int32) [(.int (nar .byte (own_f6_0 p3 (0 : Int32)))), (.int (nar .byte (own_f6_0 p3 (1 : Int32)))), (.int (nar .byte (own_f6_0 p3 (2 : Int32)))), (.int (nar .byte (own_f6_0 p3 (3 : Int32)))), (.int (nar .byte (own_f6_0 p3 (4 : Int32)))), (.int (nar .byte (own_f6_0 p3 (5 : Int32)))), (.int (nar .byte (own_f6_0 p3 (6 : Int32)))), (.int (nar .byte (own_f6_0 p3 (7 : Int32)))), (.int (0 : Int32)), (.int (0 : Int32)), (.int (0 : Int32)), (.int (0 : Int32)), (.int (0 : Int32)), (.int (0 : Int32)), (.int (0 : Int32)), (.int (0 : Int32))] (.int (0 : Int32)) := Arv.set Ar40 qk40 Sz40 Nn40 Hs40 Gs40 (fits_nar_byte _) W40 7 rfl (Nat.le_of_ble_eq_true rfl)
  have Zs40 : n0 ≤ h40.size := Nat.le_trans Zs35 (Keep.of_wr W40).1
  obtain ⟨lc40, X40, N40⟩ := own_loc X40 (Fr.snoc X40 N39 gn_t)
  have Fa41 : Exa Z h40 b1 "com/example/millrace/millrace/wire/ProtocolWriter" := Fa36.wr W40
  have Fa42 : Fld Z h40 b1 "com/example/millrace/millrace/wire/ProtocolWriter" "bytes" "[B" (.ref t) := Fa37.other W40 (Or.inl ne_b1_t)
  have Fa43 : Fld Z h40 b1 "com/example/millrace/millrace/wire/ProtocolWriter" "position" "I" (.int (0 : Int32)) := Fa38.other W40 (Or.inl ne_b1_t)
  refine own_st (T' := T40) (g' := (mkF m 104 #[.val (.int p1), .val (.int p2), .val (.int p3), .val (.int z7), .val (.ref b1), .val (.ref t), .unset, .unset] [])) (fun _ k => (st40) _ k) ?_
  refine own_st (T' := T40) (g' := (mkF m 106 #[.val (.int p1), .val (.int p2), .val (.int p3), .val (.int z7), .val (.ref b1), .val (.ref t), .unset, .unset] [(.ref t)])) (fun _ k => Jvm.Free.XS.aload (g := (mkF m 104 #[.val (.int p1), .val (.int p2), .val (.int p3), .val (.int z7), .val (.ref b1), .val (.ref t), .unset, .unset] [])) X40.here hx rfl (hb hby at_104) rfl rfl k) ?_
  refine own_st (T' := T40) (g' := (mkF m 108 #[.val (.int p1), .val (.int p2), .val (.int p3), .val (.int z7), .val (.ref b1), .val (.ref t), .unset, .unset] [(.int (8 : Int32)), (.ref t)])) (fun _ k => XS.bipush (g := (mkF m 106 #[.val (.int p1), .val (.int p2), .val (.int p3), .val (.int z7), .val (.ref b1), .val (.ref t), .unset, .unset] [(.ref t)])) X40.here hx rfl (hb hby at_106) k) ?_
  refine own_st (T' := T40) (g' := (mkF m 109 #[.val (.int p1), .val (.int p2), .val (.int p3), .val (.int z7), .val (.ref b1), .val (.ref t), .unset, .unset] [(.int p3), (.int (8 : Int32)), (.ref t)])) (fun _ k => Jvm.Free.XS.iloadN (g := (mkF m 108 #[.val (.int p1), .val (.int p2), .val (.int p3), .val (.int z7), .val (.ref b1), .val (.ref t), .unset, .unset] [(.int (8 : Int32)), (.ref t)])) X40.here hx rfl (hb hby at_108) rfl k) ?_
  refine own_st (T' := T40) (g' := (mkF m 111 #[.val (.int p1), .val (.int p2), .val (.int p3), .val (.int z7), .val (.ref b1), .val (.ref t), .unset, .unset] [(.int (8 : Int32)), (.int p3), (.int (8 : Int32)), (.ref t)])) (fun _ k => XS.bipush (g := (mkF m 109 #[.val (.int p1), .val (.int p2), .val (.int p3), .val (.int z7), .val (.ref b1), .val (.ref t), .unset, .unset] [(.int p3), (.int (8 : Int32)), (.ref t)])) X40.here hx rfl (hb hby at_109) k) ?_
  obtain ⟨v44, T44, L44, X44, hQ44, st44⟩ := own_packS (Jvm.LawKit.callS X40 hx (y := (⟨"com/example/millrace/millrace/wire/ProtocolWriterPutInt32AtPinLaw", "orig", "(II)B"⟩ : MethodName)) hown (mvT hZ (hw _ (List.mem_of_getElem? (i := 28) rfl))) (mvT hZ (hw _ (List.mem_of_getElem? (i := 29) rfl))) (mvT hZ (hw _ (List.mem_of_getElem? (i := 30) rfl))) (mvT hZ (hw _ (List.mem_of_getElem? (i := 31) rfl))) (by decide) (backOf (W := 2) (rm6 l Z a0 hw [] p3 (8 : Int32) h40 n0 Zs40 ) hZ (hw _ (List.mem_of_getElem? (i := 31) rfl)) (hw _ (List.mem_of_getElem? (i := 30) rfl)) (by decide) (by decide)) (g := (mkF m 111 #[.val (.int p1), .val (.int p2), .val (.int p3), .val (.int z7), .val (.ref b1), .val (.ref t), .unset, .unset] [(.int (8 : Int32)), (.int p3), (.int (8 : Int32)), (.ref t)])) rfl (by rw [hml]; rfl) (argsL := [(.int p3), (.int (8 : Int32))]) (rest := [(.int (8 : Int32)), (.ref t)]) (lenOf own_pd0_2 rfl) rfl (by show 2 * 0 + _ ≤ _; exact Nat.le_of_eq rfl) (hb hby at_111) (fun _ _ => ⟨rfl, e40, (by decide : 2 + 0 ≤ _), (by decide : 18 + 0 ≤ _)⟩))
  obtain ⟨rfl, N44q, e44⟩ := hQ44
  obtain ⟨lc44, X44, N44⟩ := own_loc X44 (Fr.app N40 N44q)
  refine own_st (T' := T44) (g' := (mkF m 114 #[.val (.int p1), .val (.int p2), .val (.int p3), .val (.int z7), .val (.ref b1), .val (.ref t), .unset, .unset] [(.int (own_f6_0 p3 (8 : Int32))), (.int (8 : Int32)), (.ref t)])) (fun _ k => (st44) _ k) ?_
  obtain ⟨cl45, Ar45, qk45, Sz45, Nn45, Hs45, Gs45⟩ := V40
  have hin45 : ¬ ((8 : Int32) < 0 ∨ cl45.slots.size ≤ ((8 : Int32)).toNatClampNeg) := inb_of Sz45 ⟨by decide, by decide⟩
  obtain ⟨T45, h45, X45, e45, W45, st45⟩ := stB X44 hx hZ e44 Ar45 (j := (8 : Int32)) hin45 (g := (mkF m 114 #[.val (.int p1), .val (.int p2), .val (.int p3), .val (.int z7), .val (.ref b1), .val (.ref t), .unset, .unset] [(.int (own_f6_0 p3 (8 : Int32))), (.int (8 : Int32)), (.ref t)])) rfl rfl (hb hby at_114)
  have V45 : Arv Z h45 t ka .byte (16 : Int32) [(.int (nar .byte (own_f6_0 p3 (0 : Int32)))), (.int (nar .byte (own_f6_0 p3 (1 : Int32)))), (.int (nar .byte (own_f6_0 p3 (2 : Int32)))), (.int (nar .byte (own_f6_0 p3 (3 : Int32)))), (.int (nar .byte (own_f6_0 p3 (4 : Int32)))), (.int (nar .byte (own_f6_0 p3 (5 : Int32)))), (.int (nar .byte (own_f6_0 p3 (6 : Int32)))), (.int (nar .byte (own_f6_0 p3 (7 : Int32)))), (.int (nar .byte (own_f6_0 p3 (8 : Int32)))), (.int (0 : Int32)), (.int (0 : Int32)), (.int (0 : Int32)), (.int (0 : Int32)), (.int (0 : Int32)), (.int (0 : Int32)), (.int (0 : Int32))] (.int (0 : Int32)) := Arv.set Ar45 qk45 Sz45 Nn45 Hs45 Gs45 (fits_nar_byte _) W45 8 rfl (Nat.le_of_ble_eq_true rfl)
  have Zs45 : n0 ≤ h45.size := Nat.le_trans Zs40 (Keep.of_wr W45).1
  obtain ⟨lc45, X45, N45⟩ := own_loc X45 (Fr.snoc X45 N44 gn_t)
  have Fa46 : Exa Z h45 b1 "com/example/millrace/millrace/wire/ProtocolWriter" := Fa41.wr W45
  have Fa47 : Fld Z h45 b1 "com/example/millrace/millrace/wire/ProtocolWriter" "bytes" "[B" (.ref t) := Fa42.other W45 (Or.inl ne_b1_t)
  have Fa48 : Fld Z h45 b1 "com/example/millrace/millrace/wire/ProtocolWriter" "position" "I" (.int (0 : Int32)) := Fa43.other W45 (Or.inl ne_b1_t)
  refine own_st (T' := T45) (g' := (mkF m 115 #[.val (.int p1), .val (.int p2), .val (.int p3), .val (.int z7), .val (.ref b1), .val (.ref t), .unset, .unset] [])) (fun _ k => (st45) _ k) ?_
  refine own_st (T' := T45) (g' := (mkF m 117 #[.val (.int p1), .val (.int p2), .val (.int p3), .val (.int z7), .val (.ref b1), .val (.ref t), .unset, .unset] [(.ref t)])) (fun _ k => Jvm.Free.XS.aload (g := (mkF m 115 #[.val (.int p1), .val (.int p2), .val (.int p3), .val (.int z7), .val (.ref b1), .val (.ref t), .unset, .unset] [])) X45.here hx rfl (hb hby at_115) rfl rfl k) ?_
  refine own_st (T' := T45) (g' := (mkF m 119 #[.val (.int p1), .val (.int p2), .val (.int p3), .val (.int z7), .val (.ref b1), .val (.ref t), .unset, .unset] [(.int (9 : Int32)), (.ref t)])) (fun _ k => XS.bipush (g := (mkF m 117 #[.val (.int p1), .val (.int p2), .val (.int p3), .val (.int z7), .val (.ref b1), .val (.ref t), .unset, .unset] [(.ref t)])) X45.here hx rfl (hb hby at_117) k) ?_
  refine own_st (T' := T45) (g' := (mkF m 120 #[.val (.int p1), .val (.int p2), .val (.int p3), .val (.int z7), .val (.ref b1), .val (.ref t), .unset, .unset] [(.int p3), (.int (9 : Int32)), (.ref t)])) (fun _ k => Jvm.Free.XS.iloadN (g := (mkF m 119 #[.val (.int p1), .val (.int p2), .val (.int p3), .val (.int z7), .val (.ref b1), .val (.ref t), .unset, .unset] [(.int (9 : Int32)), (.ref t)])) X45.here hx rfl (hb hby at_119) rfl k) ?_
  refine own_st (T' := T45) (g' := (mkF m 122 #[.val (.int p1), .val (.int p2), .val (.int p3), .val (.int z7), .val (.ref b1), .val (.ref t), .unset, .unset] [(.int (9 : Int32)), (.int p3), (.int (9 : Int32)), (.ref t)])) (fun _ k => XS.bipush (g := (mkF m 120 #[.val (.int p1), .val (.int p2), .val (.int p3), .val (.int z7), .val (.ref b1), .val (.ref t), .unset, .unset] [(.int p3), (.int (9 : Int32)), (.ref t)])) X45.here hx rfl (hb hby at_120) k) ?_
  obtain ⟨v49, T49, L49, X49, hQ49, st49⟩ := own_packS (Jvm.LawKit.callS X45 hx (y := (⟨"com/example/millrace/millrace/wire/ProtocolWriterPutInt32AtPinLaw", "orig", "(II)B"⟩ : MethodName)) hown (mvT hZ (hw _ (List.mem_of_getElem? (i := 28) rfl))) (mvT hZ (hw _ (List.mem_of_getElem? (i := 29) rfl))) (mvT hZ (hw _ (List.mem_of_getElem? (i := 30) rfl))) (mvT hZ (hw _ (List.mem_of_getElem? (i := 31) rfl))) (by decide) (backOf (W := 2) (rm6 l Z a0 hw [] p3 (9 : Int32) h45 n0 Zs45 ) hZ (hw _ (List.mem_of_getElem? (i := 31) rfl)) (hw _ (List.mem_of_getElem? (i := 30) rfl)) (by decide) (by decide)) (g := (mkF m 122 #[.val (.int p1), .val (.int p2), .val (.int p3), .val (.int z7), .val (.ref b1), .val (.ref t), .unset, .unset] [(.int (9 : Int32)), (.int p3), (.int (9 : Int32)), (.ref t)])) rfl (by rw [hml]; rfl) (argsL := [(.int p3), (.int (9 : Int32))]) (rest := [(.int (9 : Int32)), (.ref t)]) (lenOf own_pd0_2 rfl) rfl (by show 2 * 0 + _ ≤ _; exact Nat.le_of_eq rfl) (hb hby at_122) (fun _ _ => ⟨rfl, e45, (by decide : 2 + 0 ≤ _), (by decide : 18 + 0 ≤ _)⟩))
  obtain ⟨rfl, N49q, e49⟩ := hQ49
  obtain ⟨lc49, X49, N49⟩ := own_loc X49 (Fr.app N45 N49q)
  refine own_st (T' := T49) (g' := (mkF m 125 #[.val (.int p1), .val (.int p2), .val (.int p3), .val (.int z7), .val (.ref b1), .val (.ref t), .unset, .unset] [(.int (own_f6_0 p3 (9 : Int32))), (.int (9 : Int32)), (.ref t)])) (fun _ k => (st49) _ k) ?_
  obtain ⟨cl50, Ar50, qk50, Sz50, Nn50, Hs50, Gs50⟩ := V45
  have hin50 : ¬ ((9 : Int32) < 0 ∨ cl50.slots.size ≤ ((9 : Int32)).toNatClampNeg) := inb_of Sz50 ⟨by decide, by decide⟩
  obtain ⟨T50, h50, X50, e50, W50, st50⟩ := stB X49 hx hZ e49 Ar50 (j := (9 : Int32)) hin50 (g := (mkF m 125 #[.val (.int p1), .val (.int p2), .val (.int p3), .val (.int z7), .val (.ref b1), .val (.ref t), .unset, .unset] [(.int (own_f6_0 p3 (9 : Int32))), (.int (9 : Int32)), (.ref t)])) rfl rfl (hb hby at_125)
  have V50 : Arv Z h50 t ka .byte (16 : Int32) [(.int (nar .byte (own_f6_0 p3 (0 : Int32)))), (.int (nar .byte (own_f6_0 p3 (1 : Int32)))), (.int (nar .byte (own_f6_0 p3 (2 : Int32)))), (.int (nar .byte (own_f6_0 p3 (3 : Int32)))), (.int (nar .byte (own_f6_0 p3 (4 : Int32)))), (.int (nar .byte (own_f6_0 p3 (5 : Int32)))), (.int (nar .byte (own_f6_0 p3 (6 : Int32)))), (.int (nar .byte (own_f6_0 p3 (7 : Int32)))), (.int (nar .byte (own_f6_0 p3 (8 : Int32)))), (.int (nar .byte (own_f6_0 p3 (9 : Int32)))), (.int (0 : Int32)), (.int (0 : Int32)), (.int (0 : Int32)), (.int (0 : Int32)), (.int (0 : Int32)), (.int (0 : Int32))] (.int (0 : Int32)) := Arv.set Ar50 qk50 Sz50 Nn50 Hs50 Gs50 (fits_nar_byte _) W50 9 rfl (Nat.le_of_ble_eq_true rfl)
  have Zs50 : n0 ≤ h50.size := Nat.le_trans Zs45 (Keep.of_wr W50).1
  obtain ⟨lc50, X50, N50⟩ := own_loc X50 (Fr.snoc X50 N49 gn_t)
  have Fa51 : Exa Z h50 b1 "com/example/millrace/millrace/wire/ProtocolWriter" := Fa46.wr W50
  have Fa52 : Fld Z h50 b1 "com/example/millrace/millrace/wire/ProtocolWriter" "bytes" "[B" (.ref t) := Fa47.other W50 (Or.inl ne_b1_t)
  have Fa53 : Fld Z h50 b1 "com/example/millrace/millrace/wire/ProtocolWriter" "position" "I" (.int (0 : Int32)) := Fa48.other W50 (Or.inl ne_b1_t)
  refine own_st (T' := T50) (g' := (mkF m 126 #[.val (.int p1), .val (.int p2), .val (.int p3), .val (.int z7), .val (.ref b1), .val (.ref t), .unset, .unset] [])) (fun _ k => (st50) _ k) ?_
  obtain ⟨Ls, hLs⟩ : ∃ Ls : List Int32, Ls = own_L p3 := ⟨_, rfl⟩
  have VL : Arv Z h50 t ka .byte (16 : Int32) (Ls.map Value.int) (.int (0 : Int32)) := by rw [hLs]; exact V50
  refine own_st (T' := T50) (g' := (mkF m 128 #[.val (.int p1), .val (.int p2), .val (.int p3), .val (.int z7), .val (.ref b1), .val (.ref t), .unset, .unset] [(.ref b1)])) (fun _ k => Jvm.Free.XS.aload (g := (mkF m 126 #[.val (.int p1), .val (.int p2), .val (.int p3), .val (.int z7), .val (.ref b1), .val (.ref t), .unset, .unset] [])) X50.here hx rfl (hb hby at_126) rfl rfl k) ?_
  refine own_st (T' := T50) (g' := (mkF m 130 #[.val (.int p1), .val (.int p2), .val (.int p3), .val (.int z7), .val (.ref b1), .val (.ref t), .unset, .unset] [(.int (10 : Int32)), (.ref b1)])) (fun _ k => XS.bipush (g := (mkF m 128 #[.val (.int p1), .val (.int p2), .val (.int p3), .val (.int z7), .val (.ref b1), .val (.ref t), .unset, .unset] [(.ref b1)])) X50.here hx rfl (hb hby at_128) k) ?_
  obtain ⟨cq54, kq54, q54a, q54b, q54c⟩ := isOf hZ e50 Fa51
  obtain ⟨v54, T54, L54, X54, hQ54, st54⟩ := own_packV (X50.virtualBack hx (y := (⟨"com/example/millrace/millrace/wire/ProtocolWriter", "advanceTo", "(I)V"⟩ : MethodName)) (z := (⟨"com/example/millrace/millrace/wire/ProtocolWriter", "advanceTo", "(I)V"⟩ : MethodName)) hown (mvT hZ (hw _ (List.mem_of_getElem? (i := 32) rfl))) (mvT hZ (hw _ (List.mem_of_getElem? (i := 33) rfl))) (notFace_of_selects (args := #[]) (mvT hZ (hw _ (List.mem_of_getElem? (i := 35) rfl)))) (mvT hZ (hw _ (List.mem_of_getElem? (i := 35) rfl))) (mvT hZ (hw _ (List.mem_of_getElem? (i := 34) rfl))) (by decide) (backOf (W := 0) (rm7 l Z a0 hw [] b1 (10 : Int32) t (0 : Int32) h50 n0 Zs50 Fa51 Fa52 Fa53 gn_b1) hZ (hw _ (List.mem_of_getElem? (i := 36) rfl)) (hw _ (List.mem_of_getElem? (i := 3) rfl)) (by decide) (by decide)) q54a q54c (g := (mkF m 130 #[.val (.int p1), .val (.int p2), .val (.int p3), .val (.int z7), .val (.ref b1), .val (.ref t), .unset, .unset] [(.int (10 : Int32)), (.ref b1)])) rfl (by rw [hml]; rfl) (Steps.refl _) (argsL := [(.int (10 : Int32))]) (rest := []) (lenOf own_pd0_0 rfl) rfl (by show 2 * 0 + _ ≤ _; exact Nat.le_of_eq rfl) (hb hby at_130) (fun _ _ => ⟨rfl, e50, (by decide : 2 + 0 ≤ _), (by decide : 18 + 0 ≤ _)⟩))
  obtain ⟨rfl, N54q, Kq54, Fq54_0, Fq54_1⟩ := hQ54
  obtain ⟨lc54, X54, N54⟩ := own_loc X54 (Fr.app N50 N54q)
  have Zs54 : n0 ≤ T54.heap.size := Nat.le_trans Zs50 Kq54.1
  have Fa55 : Exa Z T54.heap b1 "com/example/millrace/millrace/wire/ProtocolWriter" := Fa51.keep Kq54
  have Fa56 : Arv Z T54.heap t ka .byte (16 : Int32) (Ls.map Value.int) (.int (0 : Int32)) := VL.keep Kq54 (ninS (Ne.symm ne_b1_t) nin0)
  refine own_st (T' := T54) (g' := (mkF m 133 #[.val (.int p1), .val (.int p2), .val (.int p3), .val (.int z7), .val (.ref b1), .val (.ref t), .unset, .unset] [])) (fun _ k => (st54) _ k) ?_
  refine own_st (T' := T54) (g' := (mkF m 135 #[.val (.int p1), .val (.int p2), .val (.int p3), .val (.int z7), .val (.ref b1), .val (.ref t), .unset, .unset] [(.ref b1)])) (fun _ k => Jvm.Free.XS.aload (g := (mkF m 133 #[.val (.int p1), .val (.int p2), .val (.int p3), .val (.int z7), .val (.ref b1), .val (.ref t), .unset, .unset] [])) X54.here hx rfl (hb hby at_133) rfl rfl k) ?_
  refine own_st (T' := T54) (g' := (mkF m 136 #[.val (.int p1), .val (.int p2), .val (.int p3), .val (.int z7), .val (.ref b1), .val (.ref t), .unset, .unset] [(.int z7), (.ref b1)])) (fun _ k => Jvm.Free.XS.iloadN (g := (mkF m 135 #[.val (.int p1), .val (.int p2), .val (.int p3), .val (.int z7), .val (.ref b1), .val (.ref t), .unset, .unset] [(.ref b1)])) X54.here hx rfl (hb hby at_135) rfl k) ?_
  refine own_st (T' := T54) (g' := (mkF m 137 #[.val (.int p1), .val (.int p2), .val (.int p3), .val (.int z7), .val (.ref b1), .val (.ref t), .unset, .unset] [(.int p2), (.int z7), (.ref b1)])) (fun _ k => Jvm.Free.XS.iloadN (g := (mkF m 136 #[.val (.int p1), .val (.int p2), .val (.int p3), .val (.int z7), .val (.ref b1), .val (.ref t), .unset, .unset] [(.int z7), (.ref b1)])) X54.here hx rfl (hb hby at_136) rfl k) ?_
  obtain ⟨cq57, kq57, q57a, q57b, q57c⟩ := isOf hZ rfl Fa55
  obtain ⟨v57, T57, L57, X57, hQ57, st57⟩ := own_packV (X54.virtualBack hx (y := (⟨"com/example/millrace/millrace/wire/ProtocolWriter", "putInt32At", "(II)V"⟩ : MethodName)) (z := (⟨"com/example/millrace/millrace/wire/ProtocolWriter", "putInt32At", "(II)V"⟩ : MethodName)) hown (mvT hZ (hw _ (List.mem_of_getElem? (i := 37) rfl))) (mvT hZ (hw _ (List.mem_of_getElem? (i := 38) rfl))) (notFace_of_selects (args := #[]) (mvT hZ (hw _ (List.mem_of_getElem? (i := 40) rfl)))) (mvT hZ (hw _ (List.mem_of_getElem? (i := 40) rfl))) (mvT hZ (hw _ (List.mem_of_getElem? (i := 39) rfl))) (by decide) (backOf (W := 0) (rm8 l Z a0 hw [] b1 z7 p2 t ka Ls T54.heap n0 Zs54 Fq54_0 Fa56 gn_t ne_b1_t (by rw [hLs]; rfl) hat12) hZ (hw _ (List.mem_of_getElem? (i := 41) rfl)) (hw _ (List.mem_of_getElem? (i := 3) rfl)) (by decide) (by decide)) q57a q57c (g := (mkF m 137 #[.val (.int p1), .val (.int p2), .val (.int p3), .val (.int z7), .val (.ref b1), .val (.ref t), .unset, .unset] [(.int p2), (.int z7), (.ref b1)])) rfl (by rw [hml]; rfl) (Steps.refl _) (argsL := [(.int z7), (.int p2)]) (rest := []) (lenOf own_pd0_3 rfl) rfl (by show 2 * 0 + _ ≤ _; exact Nat.le_of_eq rfl) (hb hby at_137) (fun _ _ => ⟨rfl, rfl, (by decide : 2 + 0 ≤ _), (by decide : 18 + 0 ≤ _)⟩))
  obtain ⟨rfl, N57q, Kq57, Fq57_0⟩ := hQ57
  obtain ⟨lc57, X57, N57⟩ := own_loc X57 (Fr.app N54 N57q)
  have Zs57 : n0 ≤ T57.heap.size := Nat.le_trans Zs54 Kq57.1
  have Fa58 : Exa Z T57.heap b1 "com/example/millrace/millrace/wire/ProtocolWriter" := Fa55.keep Kq57
  have Fa59 : Fld Z T57.heap b1 "com/example/millrace/millrace/wire/ProtocolWriter" "bytes" "[B" (.ref t) := Fq54_0.keep Kq57 (ninS ne_b1_t nin0)
  have Fa60 : Fld Z T57.heap b1 "com/example/millrace/millrace/wire/ProtocolWriter" "position" "I" (.int (10 : Int32)) := Fq54_1.keep Kq57 (ninS ne_b1_t nin0)
  refine own_st (T' := T57) (g' := (mkF m 140 #[.val (.int p1), .val (.int p2), .val (.int p3), .val (.int z7), .val (.ref b1), .val (.ref t), .unset, .unset] [])) (fun _ k => (st57) _ k) ?_
  refine own_st (T' := T57) (g' := (mkF m 142 #[.val (.int p1), .val (.int p2), .val (.int p3), .val (.int z7), .val (.ref b1), .val (.ref t), .unset, .unset] [(.ref b1)])) (fun _ k => Jvm.Free.XS.aload (g := (mkF m 140 #[.val (.int p1), .val (.int p2), .val (.int p3), .val (.int z7), .val (.ref b1), .val (.ref t), .unset, .unset] [])) X57.here hx rfl (hb hby at_140) rfl rfl k) ?_
  obtain ⟨cq61, kq61, q61a, q61b, q61c⟩ := isOf hZ rfl Fa58
  obtain ⟨v61, T61, L61, X61, hQ61, st61⟩ := own_packV (X57.virtualBack hx (y := (⟨"com/example/millrace/millrace/wire/ProtocolWriter", "position", "()I"⟩ : MethodName)) (z := (⟨"com/example/millrace/millrace/wire/ProtocolWriter", "position", "()I"⟩ : MethodName)) hown (mvT hZ (hw _ (List.mem_of_getElem? (i := 42) rfl))) (mvT hZ (hw _ (List.mem_of_getElem? (i := 43) rfl))) (notFace_of_selects (args := #[]) (mvT hZ (hw _ (List.mem_of_getElem? (i := 45) rfl)))) (mvT hZ (hw _ (List.mem_of_getElem? (i := 45) rfl))) (mvT hZ (hw _ (List.mem_of_getElem? (i := 44) rfl))) (by decide) (backOf (W := 0) (rm9 l Z a0 hw [] b1 (10 : Int32) T57.heap n0 Zs57 Fa60) hZ (hw _ (List.mem_of_getElem? (i := 46) rfl)) (hw _ (List.mem_of_getElem? (i := 3) rfl)) (by decide) (by decide)) q61a q61c (g := (mkF m 142 #[.val (.int p1), .val (.int p2), .val (.int p3), .val (.int z7), .val (.ref b1), .val (.ref t), .unset, .unset] [(.ref b1)])) rfl (by rw [hml]; rfl) (Steps.refl _) (argsL := []) (rest := []) (lenOf own_pd0_4 rfl) rfl (by show 2 * 0 + _ ≤ _; exact Nat.le_of_eq rfl) (hb hby at_142) (fun _ _ => ⟨rfl, rfl, (by decide : 2 + 0 ≤ _), (by decide : 18 + 0 ≤ _)⟩))
  obtain ⟨rfl, N61q, e61⟩ := hQ61
  obtain ⟨lc61, X61, N61⟩ := own_loc X61 (Fr.app N57 N61q)
  refine own_st (T' := T61) (g' := (mkF m 145 #[.val (.int p1), .val (.int p2), .val (.int p3), .val (.int z7), .val (.ref b1), .val (.ref t), .unset, .unset] [(.int (10 : Int32))])) (fun _ k => (st61) _ k) ?_
  refine own_st (T' := T61) (g' := (mkF m 147 #[.val (.int p1), .val (.int p2), .val (.int p3), .val (.int z7), .val (.ref b1), .val (.ref t), .val (.int (10 : Int32)), .unset] [])) (fun _ k => Jvm.Free.XS.istore (g := (mkF m 145 #[.val (.int p1), .val (.int p2), .val (.int p3), .val (.int z7), .val (.ref b1), .val (.ref t), .unset, .unset] [(.int (10 : Int32))])) X61.here hx rfl (hb hby at_145) rfl (l' := #[.val (.int p1), .val (.int p2), .val (.int p3), .val (.int z7), .val (.ref b1), .val (.ref t), .val (.int (10 : Int32)), .unset]) rfl k) ?_
  refine own_st (T' := T61) (g' := (mkF m 149 #[.val (.int p1), .val (.int p2), .val (.int p3), .val (.int z7), .val (.ref b1), .val (.ref t), .val (.int (10 : Int32)), .unset] [(.ref b1)])) (fun _ k => Jvm.Free.XS.aload (g := (mkF m 147 #[.val (.int p1), .val (.int p2), .val (.int p3), .val (.int z7), .val (.ref b1), .val (.ref t), .val (.int (10 : Int32)), .unset] [])) X61.here hx rfl (hb hby at_147) rfl rfl k) ?_
  refine own_st (T' := T61) (g' := (mkF m 150 #[.val (.int p1), .val (.int p2), .val (.int p3), .val (.int z7), .val (.ref b1), .val (.ref t), .val (.int (10 : Int32)), .unset] [(.int (0 : Int32)), (.ref b1)])) (fun _ k => XS.iconst (g := (mkF m 149 #[.val (.int p1), .val (.int p2), .val (.int p3), .val (.int z7), .val (.ref b1), .val (.ref t), .val (.int (10 : Int32)), .unset] [(.ref b1)])) X61.here hx rfl (hb hby at_149) k) ?_
  obtain ⟨cq62, kq62, q62a, q62b, q62c⟩ := isOf hZ e61 Fa58
  obtain ⟨v62, T62, L62, X62, hQ62, st62⟩ := own_packV (X61.virtualBack hx (y := (⟨"com/example/millrace/millrace/wire/ProtocolWriter", "reserve", "(I)[B"⟩ : MethodName)) (z := (⟨"com/example/millrace/millrace/wire/ProtocolWriter", "reserve", "(I)[B"⟩ : MethodName)) hown (mvT hZ (hw _ (List.mem_of_getElem? (i := 17) rfl))) (mvT hZ (hw _ (List.mem_of_getElem? (i := 18) rfl))) (notFace_of_selects (args := #[]) (mvT hZ (hw _ (List.mem_of_getElem? (i := 20) rfl)))) (mvT hZ (hw _ (List.mem_of_getElem? (i := 20) rfl))) (mvT hZ (hw _ (List.mem_of_getElem? (i := 19) rfl))) (by decide) (backOf (W := 0) (rm4 l Z a0 hw [] b1 (0 : Int32) t (10 : Int32) ka (own_put Ls z7 p2) T57.heap n0 Zs57 Fa58 Fa59 Fa60 Fq57_0 (by decide)) hZ (hw _ (List.mem_of_getElem? (i := 21) rfl)) (hw _ (List.mem_of_getElem? (i := 3) rfl)) (by decide) (by decide)) q62a q62c (g := (mkF m 150 #[.val (.int p1), .val (.int p2), .val (.int p3), .val (.int z7), .val (.ref b1), .val (.ref t), .val (.int (10 : Int32)), .unset] [(.int (0 : Int32)), (.ref b1)])) rfl (by rw [hml]; rfl) (Steps.refl _) (argsL := [(.int (0 : Int32))]) (rest := []) (lenOf own_pd0_1 rfl) rfl (by show 2 * 0 + _ ≤ _; exact Nat.le_of_eq rfl) (hb hby at_150) (fun _ _ => ⟨rfl, e61, (by decide : 2 + 0 ≤ _), (by decide : 18 + 0 ≤ _)⟩))
  obtain ⟨rfl, N62q, e62⟩ := hQ62
  obtain ⟨lc62, X62, N62⟩ := own_loc X62 (Fr.app N61 N62q)
  refine own_st (T' := T62) (g' := (mkF m 153 #[.val (.int p1), .val (.int p2), .val (.int p3), .val (.int z7), .val (.ref b1), .val (.ref t), .val (.int (10 : Int32)), .unset] [(.ref t)])) (fun _ k => (st62) _ k) ?_
  refine own_st (T' := T62) (g' := (mkF m 155 #[.val (.int p1), .val (.int p2), .val (.int p3), .val (.int z7), .val (.ref b1), .val (.ref t), .val (.int (10 : Int32)), .val (.ref t)] [])) (fun _ k => Jvm.Free.XS.astore (g := (mkF m 153 #[.val (.int p1), .val (.int p2), .val (.int p3), .val (.int z7), .val (.ref b1), .val (.ref t), .val (.int (10 : Int32)), .unset] [(.ref t)])) X62.here hx rfl (hb hby at_153) rfl rfl (l' := #[.val (.int p1), .val (.int p2), .val (.int p3), .val (.int z7), .val (.ref b1), .val (.ref t), .val (.int (10 : Int32)), .val (.ref t)]) rfl k) ?_
  refine own_st (T' := T62) (g' := (mkF m 157 #[.val (.int p1), .val (.int p2), .val (.int p3), .val (.int z7), .val (.ref b1), .val (.ref t), .val (.int (10 : Int32)), .val (.ref t)] [(.int (10 : Int32))])) (fun _ k => Jvm.Free.XS.iload (g := (mkF m 155 #[.val (.int p1), .val (.int p2), .val (.int p3), .val (.int z7), .val (.ref b1), .val (.ref t), .val (.int (10 : Int32)), .val (.ref t)] [])) X62.here hx rfl (hb hby at_155) rfl k) ?_
  refine own_st (T' := T62) (g' := (mkF m 159 #[.val (.int p1), .val (.int p2), .val (.int p3), .val (.int z7), .val (.ref b1), .val (.ref t), .val (.int (10 : Int32)), .val (.ref t)] [(.int (10 : Int32)), (.int (10 : Int32))])) (fun _ k => XS.bipush (g := (mkF m 157 #[.val (.int p1), .val (.int p2), .val (.int p3), .val (.int z7), .val (.ref b1), .val (.ref t), .val (.int (10 : Int32)), .val (.ref t)] [(.int (10 : Int32))])) X62.here hx rfl (hb hby at_157) k) ?_
  refine own_st (T' := T62) (g' := (mkF m 164 #[.val (.int p1), .val (.int p2), .val (.int p3), .val (.int z7), .val (.ref b1), .val (.ref t), .val (.int (10 : Int32)), .val (.ref t)] [])) (fun _ k => XS.icmpYes (g := (mkF m 159 #[.val (.int p1), .val (.int p2), .val (.int p3), .val (.int z7), .val (.ref b1), .val (.ref t), .val (.int (10 : Int32)), .val (.ref t)] [(.int (10 : Int32)), (.int (10 : Int32))])) X62.here hx rfl (pc0 := 159) (pc' := 164) rfl (hb hby at_159) rfl (teq (by decide : (10 : Int32) = (10 : Int32))).1 (by decide) (by decide) k) ?_
  refine own_st (T' := T62) (g' := (mkF m 166 #[.val (.int p1), .val (.int p2), .val (.int p3), .val (.int z7), .val (.ref b1), .val (.ref t), .val (.int (10 : Int32)), .val (.ref t)] [(.ref t)])) (fun _ k => Jvm.Free.XS.aload (g := (mkF m 164 #[.val (.int p1), .val (.int p2), .val (.int p3), .val (.int z7), .val (.ref b1), .val (.ref t), .val (.int (10 : Int32)), .val (.ref t)] [])) X62.here hx rfl (hb hby at_164) rfl rfl k) ?_
  obtain ⟨cl63, Ar63, -, Sz63, Nn63, -, -⟩ := id Fq57_0
  have al63 := X62.arraylength hx (by rw [e62]; exact Ar63.1) (State.isArrayOf_alike hZ.alike Ar63.2.1) (g := (mkF m 166 #[.val (.int p1), .val (.int p2), .val (.int p3), .val (.int z7), .val (.ref b1), .val (.ref t), .val (.int (10 : Int32)), .val (.ref t)] [(.ref t)])) rfl rfl (hb hby at_166)
  rw [len_of Sz63 Nn63] at al63
  refine own_st (T' := T62) (g' := (mkF m 167 #[.val (.int p1), .val (.int p2), .val (.int p3), .val (.int z7), .val (.ref b1), .val (.ref t), .val (.int (10 : Int32)), .val (.ref t)] [(.int (16 : Int32))])) (fun _ k => (al63) _ k) ?_
  refine own_st (T' := T62) (g' := (mkF m 169 #[.val (.int p1), .val (.int p2), .val (.int p3), .val (.int z7), .val (.ref b1), .val (.ref t), .val (.int (10 : Int32)), .val (.ref t)] [(.int (12 : Int32)), (.int (16 : Int32))])) (fun _ k => XS.bipush (g := (mkF m 167 #[.val (.int p1), .val (.int p2), .val (.int p3), .val (.int z7), .val (.ref b1), .val (.ref t), .val (.int (10 : Int32)), .val (.ref t)] [(.int (16 : Int32))])) X62.here hx rfl (hb hby at_167) k) ?_
  refine own_st (T' := T62) (g' := (mkF m 174 #[.val (.int p1), .val (.int p2), .val (.int p3), .val (.int z7), .val (.ref b1), .val (.ref t), .val (.int (10 : Int32)), .val (.ref t)] [])) (fun _ k => XS.icmpYes (g := (mkF m 169 #[.val (.int p1), .val (.int p2), .val (.int p3), .val (.int z7), .val (.ref b1), .val (.ref t), .val (.int (10 : Int32)), .val (.ref t)] [(.int (12 : Int32)), (.int (16 : Int32))])) X62.here hx rfl (pc0 := 169) (pc' := 174) rfl (hb hby at_169) rfl (flt (by decide : ¬ ((16 : Int32) < (12 : Int32)))).2.1 (by decide) (by decide) k) ?_
  refine own_st (T' := T62) (g' := (mkF m 176 #[.val (.int p1), .val (.int p2), .val (.int p3), .val (.int z7), .val (.ref b1), .val (.ref t), .val (.int (10 : Int32)), .val (.ref t)] [(.ref t)])) (fun _ k => Jvm.Free.XS.aload (g := (mkF m 174 #[.val (.int p1), .val (.int p2), .val (.int p3), .val (.int z7), .val (.ref b1), .val (.ref t), .val (.int (10 : Int32)), .val (.ref t)] [])) X62.here hx rfl (hb hby at_174) rfl rfl k) ?_
  refine own_st (T' := T62) (g' := (mkF m 177 #[.val (.int p1), .val (.int p2), .val (.int p3), .val (.int z7), .val (.ref b1), .val (.ref t), .val (.int (10 : Int32)), .val (.ref t)] [(.int (0 : Int32)), (.ref t)])) (fun _ k => XS.iconst (g := (mkF m 176 #[.val (.int p1), .val (.int p2), .val (.int p3), .val (.int z7), .val (.ref b1), .val (.ref t), .val (.int (10 : Int32)), .val (.ref t)] [(.ref t)])) X62.here hx rfl (hb hby at_176) k) ?_
  obtain ⟨cl64, Ar64, -, Sz64, Nn64, Hs64, Gs64⟩ := id Fq57_0
  have hin64 : ¬ ((0 : Int32) < 0 ∨ cl64.slots.size ≤ ((0 : Int32)).toNatClampNeg) := inb_of Sz64 (by decide)
  have hat64 : cl64.slots[((0 : Int32)).toNatClampNeg]? = some (.int (own_y (own_put Ls z7 p2) (0 : Int32))) := Has.at Hs64 hin64 (own_getD _ _)
  refine own_st (T' := T62) (g' := (mkF m 178 #[.val (.int p1), .val (.int p2), .val (.int p3), .val (.int z7), .val (.ref b1), .val (.ref t), .val (.int (10 : Int32)), .val (.ref t)] [(.int (own_y (own_put Ls z7 p2) (0 : Int32)))])) (fun _ k => (X62.baloadBytes hx (j := (0 : Int32)) (v := (.int (own_y (own_put Ls z7 p2) (0 : Int32)))) (by rw [e62]; exact Ar64.1) (State.isArrayOf_alike hZ.alike Ar64.2.1) Ar64.2.2 hin64 hat64 (g := (mkF m 177 #[.val (.int p1), .val (.int p2), .val (.int p3), .val (.int z7), .val (.ref b1), .val (.ref t), .val (.int (10 : Int32)), .val (.ref t)] [(.int (0 : Int32)), (.ref t)])) rfl rfl (hb hby at_177)) _ k) ?_
  refine own_st (T' := T62) (g' := (mkF m 179 #[.val (.int p1), .val (.int p2), .val (.int p3), .val (.int z7), .val (.ref b1), .val (.ref t), .val (.int (10 : Int32)), .val (.ref t)] [(.int (0 : Int32)), (.int (own_y (own_put Ls z7 p2) (0 : Int32)))])) (fun _ k => XS.iconst (g := (mkF m 178 #[.val (.int p1), .val (.int p2), .val (.int p3), .val (.int z7), .val (.ref b1), .val (.ref t), .val (.int (10 : Int32)), .val (.ref t)] [(.int (own_y (own_put Ls z7 p2) (0 : Int32)))])) X62.here hx rfl (hb hby at_178) k) ?_
  refine own_st (T' := T62) (g' := (mkF m 180 #[.val (.int p1), .val (.int p2), .val (.int p3), .val (.int z7), .val (.ref b1), .val (.ref t), .val (.int (10 : Int32)), .val (.ref t)] [(.int z7), (.int (0 : Int32)), (.int (own_y (own_put Ls z7 p2) (0 : Int32)))])) (fun _ k => Jvm.Free.XS.iloadN (g := (mkF m 179 #[.val (.int p1), .val (.int p2), .val (.int p3), .val (.int z7), .val (.ref b1), .val (.ref t), .val (.int (10 : Int32)), .val (.ref t)] [(.int (0 : Int32)), (.int (own_y (own_put Ls z7 p2) (0 : Int32)))])) X62.here hx rfl (hb hby at_179) rfl k) ?_
  refine own_st (T' := T62) (g' := (mkF m 181 #[.val (.int p1), .val (.int p2), .val (.int p3), .val (.int z7), .val (.ref b1), .val (.ref t), .val (.int (10 : Int32)), .val (.ref t)] [(.int p3), (.int z7), (.int (0 : Int32)), (.int (own_y (own_put Ls z7 p2) (0 : Int32)))])) (fun _ k => Jvm.Free.XS.iloadN (g := (mkF m 180 #[.val (.int p1), .val (.int p2), .val (.int p3), .val (.int z7), .val (.ref b1), .val (.ref t), .val (.int (10 : Int32)), .val (.ref t)] [(.int z7), (.int (0 : Int32)), (.int (own_y (own_put Ls z7 p2) (0 : Int32)))])) X62.here hx rfl (hb hby at_180) rfl k) ?_
  refine own_st (T' := T62) (g' := (mkF m 182 #[.val (.int p1), .val (.int p2), .val (.int p3), .val (.int z7), .val (.ref b1), .val (.ref t), .val (.int (10 : Int32)), .val (.ref t)] [(.int p2), (.int p3), (.int z7), (.int (0 : Int32)), (.int (own_y (own_put Ls z7 p2) (0 : Int32)))])) (fun _ k => Jvm.Free.XS.iloadN (g := (mkF m 181 #[.val (.int p1), .val (.int p2), .val (.int p3), .val (.int z7), .val (.ref b1), .val (.ref t), .val (.int (10 : Int32)), .val (.ref t)] [(.int p3), (.int z7), (.int (0 : Int32)), (.int (own_y (own_put Ls z7 p2) (0 : Int32)))])) X62.here hx rfl (hb hby at_181) rfl k) ?_
  obtain ⟨v65, T65, L65, X65, hQ65, st65⟩ := own_packS (Jvm.LawKit.callS X62 hx (y := (⟨"com/example/millrace/millrace/wire/ProtocolWriterPutInt32AtPinLaw", "expected", "(IIII)B"⟩ : MethodName)) hown (mvT hZ (hw _ (List.mem_of_getElem? (i := 47) rfl))) (mvT hZ (hw _ (List.mem_of_getElem? (i := 48) rfl))) (mvT hZ (hw _ (List.mem_of_getElem? (i := 30) rfl))) (mvT hZ (hw _ (List.mem_of_getElem? (i := 49) rfl))) (by decide) (backOf (W := 1) (rm10 l Z a0 hw [] (0 : Int32) z7 p3 p2 T57.heap n0 Zs57 ) hZ (hw _ (List.mem_of_getElem? (i := 49) rfl)) (hw _ (List.mem_of_getElem? (i := 30) rfl)) (by decide) (by decide)) (g := (mkF m 182 #[.val (.int p1), .val (.int p2), .val (.int p3), .val (.int z7), .val (.ref b1), .val (.ref t), .val (.int (10 : Int32)), .val (.ref t)] [(.int p2), (.int p3), (.int z7), (.int (0 : Int32)), (.int (own_y (own_put Ls z7 p2) (0 : Int32)))])) rfl (by rw [hml]; rfl) (argsL := [(.int (0 : Int32)), (.int z7), (.int p3), (.int p2)]) (rest := [(.int (own_y (own_put Ls z7 p2) (0 : Int32)))]) (lenOf own_pd0_5 rfl) rfl (by show 2 * 0 + _ ≤ _; exact Nat.le_of_eq rfl) (hb hby at_182) (fun _ _ => ⟨rfl, e62, (by decide : 2 + 0 ≤ _), (by decide : 18 + 0 ≤ _)⟩))
  obtain ⟨rfl, N65q, e65⟩ := hQ65
  obtain ⟨lc65, X65, N65⟩ := own_loc X65 (Fr.app N62 N65q)
  refine own_st (T' := T65) (g' := (mkF m 185 #[.val (.int p1), .val (.int p2), .val (.int p3), .val (.int z7), .val (.ref b1), .val (.ref t), .val (.int (10 : Int32)), .val (.ref t)] [(.int (own_f10_0 (0 : Int32) z7 p3 p2)), (.int (own_y (own_put Ls z7 p2) (0 : Int32)))])) (fun _ k => (st65) _ k) ?_
  refine own_st (T' := T65) (g' := (mkF m 188 #[.val (.int p1), .val (.int p2), .val (.int p3), .val (.int z7), .val (.ref b1), .val (.ref t), .val (.int (10 : Int32)), .val (.ref t)] [])) (fun _ k => XS.icmpNo (g := (mkF m 185 #[.val (.int p1), .val (.int p2), .val (.int p3), .val (.int z7), .val (.ref b1), .val (.ref t), .val (.int (10 : Int32)), .val (.ref t)] [(.int (own_f10_0 (0 : Int32) z7 p3 p2)), (.int (own_y (own_put Ls z7 p2) (0 : Int32)))])) X65.here hx rfl (hb hby at_185) rfl (teq (by rw [hLs]; exact own_pt0 z7 p3 p2 hz : (own_y (own_put Ls z7 p2) (0 : Int32)) = (own_f10_0 (0 : Int32) z7 p3 p2))).2 k) ?_
  refine own_st (T' := T65) (g' := (mkF m 190 #[.val (.int p1), .val (.int p2), .val (.int p3), .val (.int z7), .val (.ref b1), .val (.ref t), .val (.int (10 : Int32)), .val (.ref t)] [(.ref t)])) (fun _ k => Jvm.Free.XS.aload (g := (mkF m 188 #[.val (.int p1), .val (.int p2), .val (.int p3), .val (.int z7), .val (.ref b1), .val (.ref t), .val (.int (10 : Int32)), .val (.ref t)] [])) X65.here hx rfl (hb hby at_188) rfl rfl k) ?_
  refine own_st (T' := T65) (g' := (mkF m 191 #[.val (.int p1), .val (.int p2), .val (.int p3), .val (.int z7), .val (.ref b1), .val (.ref t), .val (.int (10 : Int32)), .val (.ref t)] [(.int (1 : Int32)), (.ref t)])) (fun _ k => XS.iconst (g := (mkF m 190 #[.val (.int p1), .val (.int p2), .val (.int p3), .val (.int z7), .val (.ref b1), .val (.ref t), .val (.int (10 : Int32)), .val (.ref t)] [(.ref t)])) X65.here hx rfl (hb hby at_190) k) ?_
  obtain ⟨cl66, Ar66, -, Sz66, Nn66, Hs66, Gs66⟩ := id Fq57_0
  have hin66 : ¬ ((1 : Int32) < 0 ∨ cl66.slots.size ≤ ((1 : Int32)).toNatClampNeg) := inb_of Sz66 (by decide)
  have hat66 : cl66.slots[((1 : Int32)).toNatClampNeg]? = some (.int (own_y (own_put Ls z7 p2) (1 : Int32))) := Has.at Hs66 hin66 (own_getD _ _)
  refine own_st (T' := T65) (g' := (mkF m 192 #[.val (.int p1), .val (.int p2), .val (.int p3), .val (.int z7), .val (.ref b1), .val (.ref t), .val (.int (10 : Int32)), .val (.ref t)] [(.int (own_y (own_put Ls z7 p2) (1 : Int32)))])) (fun _ k => (X65.baloadBytes hx (j := (1 : Int32)) (v := (.int (own_y (own_put Ls z7 p2) (1 : Int32)))) (by rw [e65]; exact Ar66.1) (State.isArrayOf_alike hZ.alike Ar66.2.1) Ar66.2.2 hin66 hat66 (g := (mkF m 191 #[.val (.int p1), .val (.int p2), .val (.int p3), .val (.int z7), .val (.ref b1), .val (.ref t), .val (.int (10 : Int32)), .val (.ref t)] [(.int (1 : Int32)), (.ref t)])) rfl rfl (hb hby at_191)) _ k) ?_
  refine own_st (T' := T65) (g' := (mkF m 193 #[.val (.int p1), .val (.int p2), .val (.int p3), .val (.int z7), .val (.ref b1), .val (.ref t), .val (.int (10 : Int32)), .val (.ref t)] [(.int (1 : Int32)), (.int (own_y (own_put Ls z7 p2) (1 : Int32)))])) (fun _ k => XS.iconst (g := (mkF m 192 #[.val (.int p1), .val (.int p2), .val (.int p3), .val (.int z7), .val (.ref b1), .val (.ref t), .val (.int (10 : Int32)), .val (.ref t)] [(.int (own_y (own_put Ls z7 p2) (1 : Int32)))])) X65.here hx rfl (hb hby at_192) k) ?_
  refine own_st (T' := T65) (g' := (mkF m 194 #[.val (.int p1), .val (.int p2), .val (.int p3), .val (.int z7), .val (.ref b1), .val (.ref t), .val (.int (10 : Int32)), .val (.ref t)] [(.int z7), (.int (1 : Int32)), (.int (own_y (own_put Ls z7 p2) (1 : Int32)))])) (fun _ k => Jvm.Free.XS.iloadN (g := (mkF m 193 #[.val (.int p1), .val (.int p2), .val (.int p3), .val (.int z7), .val (.ref b1), .val (.ref t), .val (.int (10 : Int32)), .val (.ref t)] [(.int (1 : Int32)), (.int (own_y (own_put Ls z7 p2) (1 : Int32)))])) X65.here hx rfl (hb hby at_193) rfl k) ?_
  refine own_st (T' := T65) (g' := (mkF m 195 #[.val (.int p1), .val (.int p2), .val (.int p3), .val (.int z7), .val (.ref b1), .val (.ref t), .val (.int (10 : Int32)), .val (.ref t)] [(.int p3), (.int z7), (.int (1 : Int32)), (.int (own_y (own_put Ls z7 p2) (1 : Int32)))])) (fun _ k => Jvm.Free.XS.iloadN (g := (mkF m 194 #[.val (.int p1), .val (.int p2), .val (.int p3), .val (.int z7), .val (.ref b1), .val (.ref t), .val (.int (10 : Int32)), .val (.ref t)] [(.int z7), (.int (1 : Int32)), (.int (own_y (own_put Ls z7 p2) (1 : Int32)))])) X65.here hx rfl (hb hby at_194) rfl k) ?_
  refine own_st (T' := T65) (g' := (mkF m 196 #[.val (.int p1), .val (.int p2), .val (.int p3), .val (.int z7), .val (.ref b1), .val (.ref t), .val (.int (10 : Int32)), .val (.ref t)] [(.int p2), (.int p3), (.int z7), (.int (1 : Int32)), (.int (own_y (own_put Ls z7 p2) (1 : Int32)))])) (fun _ k => Jvm.Free.XS.iloadN (g := (mkF m 195 #[.val (.int p1), .val (.int p2), .val (.int p3), .val (.int z7), .val (.ref b1), .val (.ref t), .val (.int (10 : Int32)), .val (.ref t)] [(.int p3), (.int z7), (.int (1 : Int32)), (.int (own_y (own_put Ls z7 p2) (1 : Int32)))])) X65.here hx rfl (hb hby at_195) rfl k) ?_
  obtain ⟨v67, T67, L67, X67, hQ67, st67⟩ := own_packS (Jvm.LawKit.callS X65 hx (y := (⟨"com/example/millrace/millrace/wire/ProtocolWriterPutInt32AtPinLaw", "expected", "(IIII)B"⟩ : MethodName)) hown (mvT hZ (hw _ (List.mem_of_getElem? (i := 47) rfl))) (mvT hZ (hw _ (List.mem_of_getElem? (i := 48) rfl))) (mvT hZ (hw _ (List.mem_of_getElem? (i := 30) rfl))) (mvT hZ (hw _ (List.mem_of_getElem? (i := 49) rfl))) (by decide) (backOf (W := 1) (rm10 l Z a0 hw [] (1 : Int32) z7 p3 p2 T57.heap n0 Zs57 ) hZ (hw _ (List.mem_of_getElem? (i := 49) rfl)) (hw _ (List.mem_of_getElem? (i := 30) rfl)) (by decide) (by decide)) (g := (mkF m 196 #[.val (.int p1), .val (.int p2), .val (.int p3), .val (.int z7), .val (.ref b1), .val (.ref t), .val (.int (10 : Int32)), .val (.ref t)] [(.int p2), (.int p3), (.int z7), (.int (1 : Int32)), (.int (own_y (own_put Ls z7 p2) (1 : Int32)))])) rfl (by rw [hml]; rfl) (argsL := [(.int (1 : Int32)), (.int z7), (.int p3), (.int p2)]) (rest := [(.int (own_y (own_put Ls z7 p2) (1 : Int32)))]) (lenOf own_pd0_5 rfl) rfl (by show 2 * 0 + _ ≤ _; exact Nat.le_of_eq rfl) (hb hby at_196) (fun _ _ => ⟨rfl, e65, (by decide : 2 + 0 ≤ _), (by decide : 18 + 0 ≤ _)⟩))
  obtain ⟨rfl, N67q, e67⟩ := hQ67
  obtain ⟨lc67, X67, N67⟩ := own_loc X67 (Fr.app N65 N67q)
  refine own_st (T' := T67) (g' := (mkF m 199 #[.val (.int p1), .val (.int p2), .val (.int p3), .val (.int z7), .val (.ref b1), .val (.ref t), .val (.int (10 : Int32)), .val (.ref t)] [(.int (own_f10_0 (1 : Int32) z7 p3 p2)), (.int (own_y (own_put Ls z7 p2) (1 : Int32)))])) (fun _ k => (st67) _ k) ?_
  refine own_st (T' := T67) (g' := (mkF m 202 #[.val (.int p1), .val (.int p2), .val (.int p3), .val (.int z7), .val (.ref b1), .val (.ref t), .val (.int (10 : Int32)), .val (.ref t)] [])) (fun _ k => XS.icmpNo (g := (mkF m 199 #[.val (.int p1), .val (.int p2), .val (.int p3), .val (.int z7), .val (.ref b1), .val (.ref t), .val (.int (10 : Int32)), .val (.ref t)] [(.int (own_f10_0 (1 : Int32) z7 p3 p2)), (.int (own_y (own_put Ls z7 p2) (1 : Int32)))])) X67.here hx rfl (hb hby at_199) rfl (teq (by rw [hLs]; exact own_pt1 z7 p3 p2 hz : (own_y (own_put Ls z7 p2) (1 : Int32)) = (own_f10_0 (1 : Int32) z7 p3 p2))).2 k) ?_
  refine own_st (T' := T67) (g' := (mkF m 204 #[.val (.int p1), .val (.int p2), .val (.int p3), .val (.int z7), .val (.ref b1), .val (.ref t), .val (.int (10 : Int32)), .val (.ref t)] [(.ref t)])) (fun _ k => Jvm.Free.XS.aload (g := (mkF m 202 #[.val (.int p1), .val (.int p2), .val (.int p3), .val (.int z7), .val (.ref b1), .val (.ref t), .val (.int (10 : Int32)), .val (.ref t)] [])) X67.here hx rfl (hb hby at_202) rfl rfl k) ?_
  refine own_st (T' := T67) (g' := (mkF m 205 #[.val (.int p1), .val (.int p2), .val (.int p3), .val (.int z7), .val (.ref b1), .val (.ref t), .val (.int (10 : Int32)), .val (.ref t)] [(.int (2 : Int32)), (.ref t)])) (fun _ k => XS.iconst (g := (mkF m 204 #[.val (.int p1), .val (.int p2), .val (.int p3), .val (.int z7), .val (.ref b1), .val (.ref t), .val (.int (10 : Int32)), .val (.ref t)] [(.ref t)])) X67.here hx rfl (hb hby at_204) k) ?_
  obtain ⟨cl68, Ar68, -, Sz68, Nn68, Hs68, Gs68⟩ := id Fq57_0
  have hin68 : ¬ ((2 : Int32) < 0 ∨ cl68.slots.size ≤ ((2 : Int32)).toNatClampNeg) := inb_of Sz68 (by decide)
  have hat68 : cl68.slots[((2 : Int32)).toNatClampNeg]? = some (.int (own_y (own_put Ls z7 p2) (2 : Int32))) := Has.at Hs68 hin68 (own_getD _ _)
  refine own_st (T' := T67) (g' := (mkF m 206 #[.val (.int p1), .val (.int p2), .val (.int p3), .val (.int z7), .val (.ref b1), .val (.ref t), .val (.int (10 : Int32)), .val (.ref t)] [(.int (own_y (own_put Ls z7 p2) (2 : Int32)))])) (fun _ k => (X67.baloadBytes hx (j := (2 : Int32)) (v := (.int (own_y (own_put Ls z7 p2) (2 : Int32)))) (by rw [e67]; exact Ar68.1) (State.isArrayOf_alike hZ.alike Ar68.2.1) Ar68.2.2 hin68 hat68 (g := (mkF m 205 #[.val (.int p1), .val (.int p2), .val (.int p3), .val (.int z7), .val (.ref b1), .val (.ref t), .val (.int (10 : Int32)), .val (.ref t)] [(.int (2 : Int32)), (.ref t)])) rfl rfl (hb hby at_205)) _ k) ?_
  refine own_st (T' := T67) (g' := (mkF m 207 #[.val (.int p1), .val (.int p2), .val (.int p3), .val (.int z7), .val (.ref b1), .val (.ref t), .val (.int (10 : Int32)), .val (.ref t)] [(.int (2 : Int32)), (.int (own_y (own_put Ls z7 p2) (2 : Int32)))])) (fun _ k => XS.iconst (g := (mkF m 206 #[.val (.int p1), .val (.int p2), .val (.int p3), .val (.int z7), .val (.ref b1), .val (.ref t), .val (.int (10 : Int32)), .val (.ref t)] [(.int (own_y (own_put Ls z7 p2) (2 : Int32)))])) X67.here hx rfl (hb hby at_206) k) ?_
  refine own_st (T' := T67) (g' := (mkF m 208 #[.val (.int p1), .val (.int p2), .val (.int p3), .val (.int z7), .val (.ref b1), .val (.ref t), .val (.int (10 : Int32)), .val (.ref t)] [(.int z7), (.int (2 : Int32)), (.int (own_y (own_put Ls z7 p2) (2 : Int32)))])) (fun _ k => Jvm.Free.XS.iloadN (g := (mkF m 207 #[.val (.int p1), .val (.int p2), .val (.int p3), .val (.int z7), .val (.ref b1), .val (.ref t), .val (.int (10 : Int32)), .val (.ref t)] [(.int (2 : Int32)), (.int (own_y (own_put Ls z7 p2) (2 : Int32)))])) X67.here hx rfl (hb hby at_207) rfl k) ?_
  refine own_st (T' := T67) (g' := (mkF m 209 #[.val (.int p1), .val (.int p2), .val (.int p3), .val (.int z7), .val (.ref b1), .val (.ref t), .val (.int (10 : Int32)), .val (.ref t)] [(.int p3), (.int z7), (.int (2 : Int32)), (.int (own_y (own_put Ls z7 p2) (2 : Int32)))])) (fun _ k => Jvm.Free.XS.iloadN (g := (mkF m 208 #[.val (.int p1), .val (.int p2), .val (.int p3), .val (.int z7), .val (.ref b1), .val (.ref t), .val (.int (10 : Int32)), .val (.ref t)] [(.int z7), (.int (2 : Int32)), (.int (own_y (own_put Ls z7 p2) (2 : Int32)))])) X67.here hx rfl (hb hby at_208) rfl k) ?_
  refine own_st (T' := T67) (g' := (mkF m 210 #[.val (.int p1), .val (.int p2), .val (.int p3), .val (.int z7), .val (.ref b1), .val (.ref t), .val (.int (10 : Int32)), .val (.ref t)] [(.int p2), (.int p3), (.int z7), (.int (2 : Int32)), (.int (own_y (own_put Ls z7 p2) (2 : Int32)))])) (fun _ k => Jvm.Free.XS.iloadN (g := (mkF m 209 #[.val (.int p1), .val (.int p2), .val (.int p3), .val (.int z7), .val (.ref b1), .val (.ref t), .val (.int (10 : Int32)), .val (.ref t)] [(.int p3), (.int z7), (.int (2 : Int32)), (.int (own_y (own_put Ls z7 p2) (2 : Int32)))])) X67.here hx rfl (hb hby at_209) rfl k) ?_
  obtain ⟨v69, T69, L69, X69, hQ69, st69⟩ := own_packS (Jvm.LawKit.callS X67 hx (y := (⟨"com/example/millrace/millrace/wire/ProtocolWriterPutInt32AtPinLaw", "expected", "(IIII)B"⟩ : MethodName)) hown (mvT hZ (hw _ (List.mem_of_getElem? (i := 47) rfl))) (mvT hZ (hw _ (List.mem_of_getElem? (i := 48) rfl))) (mvT hZ (hw _ (List.mem_of_getElem? (i := 30) rfl))) (mvT hZ (hw _ (List.mem_of_getElem? (i := 49) rfl))) (by decide) (backOf (W := 1) (rm10 l Z a0 hw [] (2 : Int32) z7 p3 p2 T57.heap n0 Zs57 ) hZ (hw _ (List.mem_of_getElem? (i := 49) rfl)) (hw _ (List.mem_of_getElem? (i := 30) rfl)) (by decide) (by decide)) (g := (mkF m 210 #[.val (.int p1), .val (.int p2), .val (.int p3), .val (.int z7), .val (.ref b1), .val (.ref t), .val (.int (10 : Int32)), .val (.ref t)] [(.int p2), (.int p3), (.int z7), (.int (2 : Int32)), (.int (own_y (own_put Ls z7 p2) (2 : Int32)))])) rfl (by rw [hml]; rfl) (argsL := [(.int (2 : Int32)), (.int z7), (.int p3), (.int p2)]) (rest := [(.int (own_y (own_put Ls z7 p2) (2 : Int32)))]) (lenOf own_pd0_5 rfl) rfl (by show 2 * 0 + _ ≤ _; exact Nat.le_of_eq rfl) (hb hby at_210) (fun _ _ => ⟨rfl, e67, (by decide : 2 + 0 ≤ _), (by decide : 18 + 0 ≤ _)⟩))
  obtain ⟨rfl, N69q, e69⟩ := hQ69
  obtain ⟨lc69, X69, N69⟩ := own_loc X69 (Fr.app N67 N69q)
  refine own_st (T' := T69) (g' := (mkF m 213 #[.val (.int p1), .val (.int p2), .val (.int p3), .val (.int z7), .val (.ref b1), .val (.ref t), .val (.int (10 : Int32)), .val (.ref t)] [(.int (own_f10_0 (2 : Int32) z7 p3 p2)), (.int (own_y (own_put Ls z7 p2) (2 : Int32)))])) (fun _ k => (st69) _ k) ?_
  refine own_st (T' := T69) (g' := (mkF m 216 #[.val (.int p1), .val (.int p2), .val (.int p3), .val (.int z7), .val (.ref b1), .val (.ref t), .val (.int (10 : Int32)), .val (.ref t)] [])) (fun _ k => XS.icmpNo (g := (mkF m 213 #[.val (.int p1), .val (.int p2), .val (.int p3), .val (.int z7), .val (.ref b1), .val (.ref t), .val (.int (10 : Int32)), .val (.ref t)] [(.int (own_f10_0 (2 : Int32) z7 p3 p2)), (.int (own_y (own_put Ls z7 p2) (2 : Int32)))])) X69.here hx rfl (hb hby at_213) rfl (teq (by rw [hLs]; exact own_pt2 z7 p3 p2 hz : (own_y (own_put Ls z7 p2) (2 : Int32)) = (own_f10_0 (2 : Int32) z7 p3 p2))).2 k) ?_
  refine own_st (T' := T69) (g' := (mkF m 218 #[.val (.int p1), .val (.int p2), .val (.int p3), .val (.int z7), .val (.ref b1), .val (.ref t), .val (.int (10 : Int32)), .val (.ref t)] [(.ref t)])) (fun _ k => Jvm.Free.XS.aload (g := (mkF m 216 #[.val (.int p1), .val (.int p2), .val (.int p3), .val (.int z7), .val (.ref b1), .val (.ref t), .val (.int (10 : Int32)), .val (.ref t)] [])) X69.here hx rfl (hb hby at_216) rfl rfl k) ?_
  refine own_st (T' := T69) (g' := (mkF m 219 #[.val (.int p1), .val (.int p2), .val (.int p3), .val (.int z7), .val (.ref b1), .val (.ref t), .val (.int (10 : Int32)), .val (.ref t)] [(.int (3 : Int32)), (.ref t)])) (fun _ k => XS.iconst (g := (mkF m 218 #[.val (.int p1), .val (.int p2), .val (.int p3), .val (.int z7), .val (.ref b1), .val (.ref t), .val (.int (10 : Int32)), .val (.ref t)] [(.ref t)])) X69.here hx rfl (hb hby at_218) k) ?_
  obtain ⟨cl70, Ar70, -, Sz70, Nn70, Hs70, Gs70⟩ := id Fq57_0
  have hin70 : ¬ ((3 : Int32) < 0 ∨ cl70.slots.size ≤ ((3 : Int32)).toNatClampNeg) := inb_of Sz70 (by decide)
  have hat70 : cl70.slots[((3 : Int32)).toNatClampNeg]? = some (.int (own_y (own_put Ls z7 p2) (3 : Int32))) := Has.at Hs70 hin70 (own_getD _ _)
  refine own_st (T' := T69) (g' := (mkF m 220 #[.val (.int p1), .val (.int p2), .val (.int p3), .val (.int z7), .val (.ref b1), .val (.ref t), .val (.int (10 : Int32)), .val (.ref t)] [(.int (own_y (own_put Ls z7 p2) (3 : Int32)))])) (fun _ k => (X69.baloadBytes hx (j := (3 : Int32)) (v := (.int (own_y (own_put Ls z7 p2) (3 : Int32)))) (by rw [e69]; exact Ar70.1) (State.isArrayOf_alike hZ.alike Ar70.2.1) Ar70.2.2 hin70 hat70 (g := (mkF m 219 #[.val (.int p1), .val (.int p2), .val (.int p3), .val (.int z7), .val (.ref b1), .val (.ref t), .val (.int (10 : Int32)), .val (.ref t)] [(.int (3 : Int32)), (.ref t)])) rfl rfl (hb hby at_219)) _ k) ?_
  refine own_st (T' := T69) (g' := (mkF m 221 #[.val (.int p1), .val (.int p2), .val (.int p3), .val (.int z7), .val (.ref b1), .val (.ref t), .val (.int (10 : Int32)), .val (.ref t)] [(.int (3 : Int32)), (.int (own_y (own_put Ls z7 p2) (3 : Int32)))])) (fun _ k => XS.iconst (g := (mkF m 220 #[.val (.int p1), .val (.int p2), .val (.int p3), .val (.int z7), .val (.ref b1), .val (.ref t), .val (.int (10 : Int32)), .val (.ref t)] [(.int (own_y (own_put Ls z7 p2) (3 : Int32)))])) X69.here hx rfl (hb hby at_220) k) ?_
  refine own_st (T' := T69) (g' := (mkF m 222 #[.val (.int p1), .val (.int p2), .val (.int p3), .val (.int z7), .val (.ref b1), .val (.ref t), .val (.int (10 : Int32)), .val (.ref t)] [(.int z7), (.int (3 : Int32)), (.int (own_y (own_put Ls z7 p2) (3 : Int32)))])) (fun _ k => Jvm.Free.XS.iloadN (g := (mkF m 221 #[.val (.int p1), .val (.int p2), .val (.int p3), .val (.int z7), .val (.ref b1), .val (.ref t), .val (.int (10 : Int32)), .val (.ref t)] [(.int (3 : Int32)), (.int (own_y (own_put Ls z7 p2) (3 : Int32)))])) X69.here hx rfl (hb hby at_221) rfl k) ?_
  refine own_st (T' := T69) (g' := (mkF m 223 #[.val (.int p1), .val (.int p2), .val (.int p3), .val (.int z7), .val (.ref b1), .val (.ref t), .val (.int (10 : Int32)), .val (.ref t)] [(.int p3), (.int z7), (.int (3 : Int32)), (.int (own_y (own_put Ls z7 p2) (3 : Int32)))])) (fun _ k => Jvm.Free.XS.iloadN (g := (mkF m 222 #[.val (.int p1), .val (.int p2), .val (.int p3), .val (.int z7), .val (.ref b1), .val (.ref t), .val (.int (10 : Int32)), .val (.ref t)] [(.int z7), (.int (3 : Int32)), (.int (own_y (own_put Ls z7 p2) (3 : Int32)))])) X69.here hx rfl (hb hby at_222) rfl k) ?_
  refine own_st (T' := T69) (g' := (mkF m 224 #[.val (.int p1), .val (.int p2), .val (.int p3), .val (.int z7), .val (.ref b1), .val (.ref t), .val (.int (10 : Int32)), .val (.ref t)] [(.int p2), (.int p3), (.int z7), (.int (3 : Int32)), (.int (own_y (own_put Ls z7 p2) (3 : Int32)))])) (fun _ k => Jvm.Free.XS.iloadN (g := (mkF m 223 #[.val (.int p1), .val (.int p2), .val (.int p3), .val (.int z7), .val (.ref b1), .val (.ref t), .val (.int (10 : Int32)), .val (.ref t)] [(.int p3), (.int z7), (.int (3 : Int32)), (.int (own_y (own_put Ls z7 p2) (3 : Int32)))])) X69.here hx rfl (hb hby at_223) rfl k) ?_
  obtain ⟨v71, T71, L71, X71, hQ71, st71⟩ := own_packS (Jvm.LawKit.callS X69 hx (y := (⟨"com/example/millrace/millrace/wire/ProtocolWriterPutInt32AtPinLaw", "expected", "(IIII)B"⟩ : MethodName)) hown (mvT hZ (hw _ (List.mem_of_getElem? (i := 47) rfl))) (mvT hZ (hw _ (List.mem_of_getElem? (i := 48) rfl))) (mvT hZ (hw _ (List.mem_of_getElem? (i := 30) rfl))) (mvT hZ (hw _ (List.mem_of_getElem? (i := 49) rfl))) (by decide) (backOf (W := 1) (rm10 l Z a0 hw [] (3 : Int32) z7 p3 p2 T57.heap n0 Zs57 ) hZ (hw _ (List.mem_of_getElem? (i := 49) rfl)) (hw _ (List.mem_of_getElem? (i := 30) rfl)) (by decide) (by decide)) (g := (mkF m 224 #[.val (.int p1), .val (.int p2), .val (.int p3), .val (.int z7), .val (.ref b1), .val (.ref t), .val (.int (10 : Int32)), .val (.ref t)] [(.int p2), (.int p3), (.int z7), (.int (3 : Int32)), (.int (own_y (own_put Ls z7 p2) (3 : Int32)))])) rfl (by rw [hml]; rfl) (argsL := [(.int (3 : Int32)), (.int z7), (.int p3), (.int p2)]) (rest := [(.int (own_y (own_put Ls z7 p2) (3 : Int32)))]) (lenOf own_pd0_5 rfl) rfl (by show 2 * 0 + _ ≤ _; exact Nat.le_of_eq rfl) (hb hby at_224) (fun _ _ => ⟨rfl, e69, (by decide : 2 + 0 ≤ _), (by decide : 18 + 0 ≤ _)⟩))
  obtain ⟨rfl, N71q, e71⟩ := hQ71
  obtain ⟨lc71, X71, N71⟩ := own_loc X71 (Fr.app N69 N71q)
  refine own_st (T' := T71) (g' := (mkF m 227 #[.val (.int p1), .val (.int p2), .val (.int p3), .val (.int z7), .val (.ref b1), .val (.ref t), .val (.int (10 : Int32)), .val (.ref t)] [(.int (own_f10_0 (3 : Int32) z7 p3 p2)), (.int (own_y (own_put Ls z7 p2) (3 : Int32)))])) (fun _ k => (st71) _ k) ?_
  refine own_st (T' := T71) (g' := (mkF m 230 #[.val (.int p1), .val (.int p2), .val (.int p3), .val (.int z7), .val (.ref b1), .val (.ref t), .val (.int (10 : Int32)), .val (.ref t)] [])) (fun _ k => XS.icmpNo (g := (mkF m 227 #[.val (.int p1), .val (.int p2), .val (.int p3), .val (.int z7), .val (.ref b1), .val (.ref t), .val (.int (10 : Int32)), .val (.ref t)] [(.int (own_f10_0 (3 : Int32) z7 p3 p2)), (.int (own_y (own_put Ls z7 p2) (3 : Int32)))])) X71.here hx rfl (hb hby at_227) rfl (teq (by rw [hLs]; exact own_pt3 z7 p3 p2 hz : (own_y (own_put Ls z7 p2) (3 : Int32)) = (own_f10_0 (3 : Int32) z7 p3 p2))).2 k) ?_
  refine own_st (T' := T71) (g' := (mkF m 232 #[.val (.int p1), .val (.int p2), .val (.int p3), .val (.int z7), .val (.ref b1), .val (.ref t), .val (.int (10 : Int32)), .val (.ref t)] [(.ref t)])) (fun _ k => Jvm.Free.XS.aload (g := (mkF m 230 #[.val (.int p1), .val (.int p2), .val (.int p3), .val (.int z7), .val (.ref b1), .val (.ref t), .val (.int (10 : Int32)), .val (.ref t)] [])) X71.here hx rfl (hb hby at_230) rfl rfl k) ?_
  refine own_st (T' := T71) (g' := (mkF m 233 #[.val (.int p1), .val (.int p2), .val (.int p3), .val (.int z7), .val (.ref b1), .val (.ref t), .val (.int (10 : Int32)), .val (.ref t)] [(.int (4 : Int32)), (.ref t)])) (fun _ k => XS.iconst (g := (mkF m 232 #[.val (.int p1), .val (.int p2), .val (.int p3), .val (.int z7), .val (.ref b1), .val (.ref t), .val (.int (10 : Int32)), .val (.ref t)] [(.ref t)])) X71.here hx rfl (hb hby at_232) k) ?_
  obtain ⟨cl72, Ar72, -, Sz72, Nn72, Hs72, Gs72⟩ := id Fq57_0
  have hin72 : ¬ ((4 : Int32) < 0 ∨ cl72.slots.size ≤ ((4 : Int32)).toNatClampNeg) := inb_of Sz72 (by decide)
  have hat72 : cl72.slots[((4 : Int32)).toNatClampNeg]? = some (.int (own_y (own_put Ls z7 p2) (4 : Int32))) := Has.at Hs72 hin72 (own_getD _ _)
  refine own_st (T' := T71) (g' := (mkF m 234 #[.val (.int p1), .val (.int p2), .val (.int p3), .val (.int z7), .val (.ref b1), .val (.ref t), .val (.int (10 : Int32)), .val (.ref t)] [(.int (own_y (own_put Ls z7 p2) (4 : Int32)))])) (fun _ k => (X71.baloadBytes hx (j := (4 : Int32)) (v := (.int (own_y (own_put Ls z7 p2) (4 : Int32)))) (by rw [e71]; exact Ar72.1) (State.isArrayOf_alike hZ.alike Ar72.2.1) Ar72.2.2 hin72 hat72 (g := (mkF m 233 #[.val (.int p1), .val (.int p2), .val (.int p3), .val (.int z7), .val (.ref b1), .val (.ref t), .val (.int (10 : Int32)), .val (.ref t)] [(.int (4 : Int32)), (.ref t)])) rfl rfl (hb hby at_233)) _ k) ?_
  refine own_st (T' := T71) (g' := (mkF m 235 #[.val (.int p1), .val (.int p2), .val (.int p3), .val (.int z7), .val (.ref b1), .val (.ref t), .val (.int (10 : Int32)), .val (.ref t)] [(.int (4 : Int32)), (.int (own_y (own_put Ls z7 p2) (4 : Int32)))])) (fun _ k => XS.iconst (g := (mkF m 234 #[.val (.int p1), .val (.int p2), .val (.int p3), .val (.int z7), .val (.ref b1), .val (.ref t), .val (.int (10 : Int32)), .val (.ref t)] [(.int (own_y (own_put Ls z7 p2) (4 : Int32)))])) X71.here hx rfl (hb hby at_234) k) ?_
  refine own_st (T' := T71) (g' := (mkF m 236 #[.val (.int p1), .val (.int p2), .val (.int p3), .val (.int z7), .val (.ref b1), .val (.ref t), .val (.int (10 : Int32)), .val (.ref t)] [(.int z7), (.int (4 : Int32)), (.int (own_y (own_put Ls z7 p2) (4 : Int32)))])) (fun _ k => Jvm.Free.XS.iloadN (g := (mkF m 235 #[.val (.int p1), .val (.int p2), .val (.int p3), .val (.int z7), .val (.ref b1), .val (.ref t), .val (.int (10 : Int32)), .val (.ref t)] [(.int (4 : Int32)), (.int (own_y (own_put Ls z7 p2) (4 : Int32)))])) X71.here hx rfl (hb hby at_235) rfl k) ?_
  refine own_st (T' := T71) (g' := (mkF m 237 #[.val (.int p1), .val (.int p2), .val (.int p3), .val (.int z7), .val (.ref b1), .val (.ref t), .val (.int (10 : Int32)), .val (.ref t)] [(.int p3), (.int z7), (.int (4 : Int32)), (.int (own_y (own_put Ls z7 p2) (4 : Int32)))])) (fun _ k => Jvm.Free.XS.iloadN (g := (mkF m 236 #[.val (.int p1), .val (.int p2), .val (.int p3), .val (.int z7), .val (.ref b1), .val (.ref t), .val (.int (10 : Int32)), .val (.ref t)] [(.int z7), (.int (4 : Int32)), (.int (own_y (own_put Ls z7 p2) (4 : Int32)))])) X71.here hx rfl (hb hby at_236) rfl k) ?_
  refine own_st (T' := T71) (g' := (mkF m 238 #[.val (.int p1), .val (.int p2), .val (.int p3), .val (.int z7), .val (.ref b1), .val (.ref t), .val (.int (10 : Int32)), .val (.ref t)] [(.int p2), (.int p3), (.int z7), (.int (4 : Int32)), (.int (own_y (own_put Ls z7 p2) (4 : Int32)))])) (fun _ k => Jvm.Free.XS.iloadN (g := (mkF m 237 #[.val (.int p1), .val (.int p2), .val (.int p3), .val (.int z7), .val (.ref b1), .val (.ref t), .val (.int (10 : Int32)), .val (.ref t)] [(.int p3), (.int z7), (.int (4 : Int32)), (.int (own_y (own_put Ls z7 p2) (4 : Int32)))])) X71.here hx rfl (hb hby at_237) rfl k) ?_
  obtain ⟨v73, T73, L73, X73, hQ73, st73⟩ := own_packS (Jvm.LawKit.callS X71 hx (y := (⟨"com/example/millrace/millrace/wire/ProtocolWriterPutInt32AtPinLaw", "expected", "(IIII)B"⟩ : MethodName)) hown (mvT hZ (hw _ (List.mem_of_getElem? (i := 47) rfl))) (mvT hZ (hw _ (List.mem_of_getElem? (i := 48) rfl))) (mvT hZ (hw _ (List.mem_of_getElem? (i := 30) rfl))) (mvT hZ (hw _ (List.mem_of_getElem? (i := 49) rfl))) (by decide) (backOf (W := 1) (rm10 l Z a0 hw [] (4 : Int32) z7 p3 p2 T57.heap n0 Zs57 ) hZ (hw _ (List.mem_of_getElem? (i := 49) rfl)) (hw _ (List.mem_of_getElem? (i := 30) rfl)) (by decide) (by decide)) (g := (mkF m 238 #[.val (.int p1), .val (.int p2), .val (.int p3), .val (.int z7), .val (.ref b1), .val (.ref t), .val (.int (10 : Int32)), .val (.ref t)] [(.int p2), (.int p3), (.int z7), (.int (4 : Int32)), (.int (own_y (own_put Ls z7 p2) (4 : Int32)))])) rfl (by rw [hml]; rfl) (argsL := [(.int (4 : Int32)), (.int z7), (.int p3), (.int p2)]) (rest := [(.int (own_y (own_put Ls z7 p2) (4 : Int32)))]) (lenOf own_pd0_5 rfl) rfl (by show 2 * 0 + _ ≤ _; exact Nat.le_of_eq rfl) (hb hby at_238) (fun _ _ => ⟨rfl, e71, (by decide : 2 + 0 ≤ _), (by decide : 18 + 0 ≤ _)⟩))
  obtain ⟨rfl, N73q, e73⟩ := hQ73
  obtain ⟨lc73, X73, N73⟩ := own_loc X73 (Fr.app N71 N73q)
  refine own_st (T' := T73) (g' := (mkF m 241 #[.val (.int p1), .val (.int p2), .val (.int p3), .val (.int z7), .val (.ref b1), .val (.ref t), .val (.int (10 : Int32)), .val (.ref t)] [(.int (own_f10_0 (4 : Int32) z7 p3 p2)), (.int (own_y (own_put Ls z7 p2) (4 : Int32)))])) (fun _ k => (st73) _ k) ?_
  refine own_st (T' := T73) (g' := (mkF m 244 #[.val (.int p1), .val (.int p2), .val (.int p3), .val (.int z7), .val (.ref b1), .val (.ref t), .val (.int (10 : Int32)), .val (.ref t)] [])) (fun _ k => XS.icmpNo (g := (mkF m 241 #[.val (.int p1), .val (.int p2), .val (.int p3), .val (.int z7), .val (.ref b1), .val (.ref t), .val (.int (10 : Int32)), .val (.ref t)] [(.int (own_f10_0 (4 : Int32) z7 p3 p2)), (.int (own_y (own_put Ls z7 p2) (4 : Int32)))])) X73.here hx rfl (hb hby at_241) rfl (teq (by rw [hLs]; exact own_pt4 z7 p3 p2 hz : (own_y (own_put Ls z7 p2) (4 : Int32)) = (own_f10_0 (4 : Int32) z7 p3 p2))).2 k) ?_
  refine own_st (T' := T73) (g' := (mkF m 246 #[.val (.int p1), .val (.int p2), .val (.int p3), .val (.int z7), .val (.ref b1), .val (.ref t), .val (.int (10 : Int32)), .val (.ref t)] [(.ref t)])) (fun _ k => Jvm.Free.XS.aload (g := (mkF m 244 #[.val (.int p1), .val (.int p2), .val (.int p3), .val (.int z7), .val (.ref b1), .val (.ref t), .val (.int (10 : Int32)), .val (.ref t)] [])) X73.here hx rfl (hb hby at_244) rfl rfl k) ?_
  refine own_st (T' := T73) (g' := (mkF m 247 #[.val (.int p1), .val (.int p2), .val (.int p3), .val (.int z7), .val (.ref b1), .val (.ref t), .val (.int (10 : Int32)), .val (.ref t)] [(.int (5 : Int32)), (.ref t)])) (fun _ k => XS.iconst (g := (mkF m 246 #[.val (.int p1), .val (.int p2), .val (.int p3), .val (.int z7), .val (.ref b1), .val (.ref t), .val (.int (10 : Int32)), .val (.ref t)] [(.ref t)])) X73.here hx rfl (hb hby at_246) k) ?_
  obtain ⟨cl74, Ar74, -, Sz74, Nn74, Hs74, Gs74⟩ := id Fq57_0
  have hin74 : ¬ ((5 : Int32) < 0 ∨ cl74.slots.size ≤ ((5 : Int32)).toNatClampNeg) := inb_of Sz74 (by decide)
  have hat74 : cl74.slots[((5 : Int32)).toNatClampNeg]? = some (.int (own_y (own_put Ls z7 p2) (5 : Int32))) := Has.at Hs74 hin74 (own_getD _ _)
  refine own_st (T' := T73) (g' := (mkF m 248 #[.val (.int p1), .val (.int p2), .val (.int p3), .val (.int z7), .val (.ref b1), .val (.ref t), .val (.int (10 : Int32)), .val (.ref t)] [(.int (own_y (own_put Ls z7 p2) (5 : Int32)))])) (fun _ k => (X73.baloadBytes hx (j := (5 : Int32)) (v := (.int (own_y (own_put Ls z7 p2) (5 : Int32)))) (by rw [e73]; exact Ar74.1) (State.isArrayOf_alike hZ.alike Ar74.2.1) Ar74.2.2 hin74 hat74 (g := (mkF m 247 #[.val (.int p1), .val (.int p2), .val (.int p3), .val (.int z7), .val (.ref b1), .val (.ref t), .val (.int (10 : Int32)), .val (.ref t)] [(.int (5 : Int32)), (.ref t)])) rfl rfl (hb hby at_247)) _ k) ?_
  refine own_st (T' := T73) (g' := (mkF m 249 #[.val (.int p1), .val (.int p2), .val (.int p3), .val (.int z7), .val (.ref b1), .val (.ref t), .val (.int (10 : Int32)), .val (.ref t)] [(.int (5 : Int32)), (.int (own_y (own_put Ls z7 p2) (5 : Int32)))])) (fun _ k => XS.iconst (g := (mkF m 248 #[.val (.int p1), .val (.int p2), .val (.int p3), .val (.int z7), .val (.ref b1), .val (.ref t), .val (.int (10 : Int32)), .val (.ref t)] [(.int (own_y (own_put Ls z7 p2) (5 : Int32)))])) X73.here hx rfl (hb hby at_248) k) ?_
  refine own_st (T' := T73) (g' := (mkF m 250 #[.val (.int p1), .val (.int p2), .val (.int p3), .val (.int z7), .val (.ref b1), .val (.ref t), .val (.int (10 : Int32)), .val (.ref t)] [(.int z7), (.int (5 : Int32)), (.int (own_y (own_put Ls z7 p2) (5 : Int32)))])) (fun _ k => Jvm.Free.XS.iloadN (g := (mkF m 249 #[.val (.int p1), .val (.int p2), .val (.int p3), .val (.int z7), .val (.ref b1), .val (.ref t), .val (.int (10 : Int32)), .val (.ref t)] [(.int (5 : Int32)), (.int (own_y (own_put Ls z7 p2) (5 : Int32)))])) X73.here hx rfl (hb hby at_249) rfl k) ?_
  refine own_st (T' := T73) (g' := (mkF m 251 #[.val (.int p1), .val (.int p2), .val (.int p3), .val (.int z7), .val (.ref b1), .val (.ref t), .val (.int (10 : Int32)), .val (.ref t)] [(.int p3), (.int z7), (.int (5 : Int32)), (.int (own_y (own_put Ls z7 p2) (5 : Int32)))])) (fun _ k => Jvm.Free.XS.iloadN (g := (mkF m 250 #[.val (.int p1), .val (.int p2), .val (.int p3), .val (.int z7), .val (.ref b1), .val (.ref t), .val (.int (10 : Int32)), .val (.ref t)] [(.int z7), (.int (5 : Int32)), (.int (own_y (own_put Ls z7 p2) (5 : Int32)))])) X73.here hx rfl (hb hby at_250) rfl k) ?_
  refine own_st (T' := T73) (g' := (mkF m 252 #[.val (.int p1), .val (.int p2), .val (.int p3), .val (.int z7), .val (.ref b1), .val (.ref t), .val (.int (10 : Int32)), .val (.ref t)] [(.int p2), (.int p3), (.int z7), (.int (5 : Int32)), (.int (own_y (own_put Ls z7 p2) (5 : Int32)))])) (fun _ k => Jvm.Free.XS.iloadN (g := (mkF m 251 #[.val (.int p1), .val (.int p2), .val (.int p3), .val (.int z7), .val (.ref b1), .val (.ref t), .val (.int (10 : Int32)), .val (.ref t)] [(.int p3), (.int z7), (.int (5 : Int32)), (.int (own_y (own_put Ls z7 p2) (5 : Int32)))])) X73.here hx rfl (hb hby at_251) rfl k) ?_
  obtain ⟨v75, T75, L75, X75, hQ75, st75⟩ := own_packS (Jvm.LawKit.callS X73 hx (y := (⟨"com/example/millrace/millrace/wire/ProtocolWriterPutInt32AtPinLaw", "expected", "(IIII)B"⟩ : MethodName)) hown (mvT hZ (hw _ (List.mem_of_getElem? (i := 47) rfl))) (mvT hZ (hw _ (List.mem_of_getElem? (i := 48) rfl))) (mvT hZ (hw _ (List.mem_of_getElem? (i := 30) rfl))) (mvT hZ (hw _ (List.mem_of_getElem? (i := 49) rfl))) (by decide) (backOf (W := 1) (rm10 l Z a0 hw [] (5 : Int32) z7 p3 p2 T57.heap n0 Zs57 ) hZ (hw _ (List.mem_of_getElem? (i := 49) rfl)) (hw _ (List.mem_of_getElem? (i := 30) rfl)) (by decide) (by decide)) (g := (mkF m 252 #[.val (.int p1), .val (.int p2), .val (.int p3), .val (.int z7), .val (.ref b1), .val (.ref t), .val (.int (10 : Int32)), .val (.ref t)] [(.int p2), (.int p3), (.int z7), (.int (5 : Int32)), (.int (own_y (own_put Ls z7 p2) (5 : Int32)))])) rfl (by rw [hml]; rfl) (argsL := [(.int (5 : Int32)), (.int z7), (.int p3), (.int p2)]) (rest := [(.int (own_y (own_put Ls z7 p2) (5 : Int32)))]) (lenOf own_pd0_5 rfl) rfl (by show 2 * 0 + _ ≤ _; exact Nat.le_of_eq rfl) (hb hby at_252) (fun _ _ => ⟨rfl, e73, (by decide : 2 + 0 ≤ _), (by decide : 18 + 0 ≤ _)⟩))
  obtain ⟨rfl, N75q, e75⟩ := hQ75
  obtain ⟨lc75, X75, N75⟩ := own_loc X75 (Fr.app N73 N75q)
  refine own_st (T' := T75) (g' := (mkF m 255 #[.val (.int p1), .val (.int p2), .val (.int p3), .val (.int z7), .val (.ref b1), .val (.ref t), .val (.int (10 : Int32)), .val (.ref t)] [(.int (own_f10_0 (5 : Int32) z7 p3 p2)), (.int (own_y (own_put Ls z7 p2) (5 : Int32)))])) (fun _ k => (st75) _ k) ?_
  refine own_st (T' := T75) (g' := (mkF m 258 #[.val (.int p1), .val (.int p2), .val (.int p3), .val (.int z7), .val (.ref b1), .val (.ref t), .val (.int (10 : Int32)), .val (.ref t)] [])) (fun _ k => XS.icmpNo (g := (mkF m 255 #[.val (.int p1), .val (.int p2), .val (.int p3), .val (.int z7), .val (.ref b1), .val (.ref t), .val (.int (10 : Int32)), .val (.ref t)] [(.int (own_f10_0 (5 : Int32) z7 p3 p2)), (.int (own_y (own_put Ls z7 p2) (5 : Int32)))])) X75.here hx rfl (hb hby at_255) rfl (teq (by rw [hLs]; exact own_pt5 z7 p3 p2 hz : (own_y (own_put Ls z7 p2) (5 : Int32)) = (own_f10_0 (5 : Int32) z7 p3 p2))).2 k) ?_
  refine own_st (T' := T75) (g' := (mkF m 260 #[.val (.int p1), .val (.int p2), .val (.int p3), .val (.int z7), .val (.ref b1), .val (.ref t), .val (.int (10 : Int32)), .val (.ref t)] [(.ref t)])) (fun _ k => Jvm.Free.XS.aload (g := (mkF m 258 #[.val (.int p1), .val (.int p2), .val (.int p3), .val (.int z7), .val (.ref b1), .val (.ref t), .val (.int (10 : Int32)), .val (.ref t)] [])) X75.here hx rfl (hb hby at_258) rfl rfl k) ?_
  refine own_st (T' := T75) (g' := (mkF m 262 #[.val (.int p1), .val (.int p2), .val (.int p3), .val (.int z7), .val (.ref b1), .val (.ref t), .val (.int (10 : Int32)), .val (.ref t)] [(.int (6 : Int32)), (.ref t)])) (fun _ k => XS.bipush (g := (mkF m 260 #[.val (.int p1), .val (.int p2), .val (.int p3), .val (.int z7), .val (.ref b1), .val (.ref t), .val (.int (10 : Int32)), .val (.ref t)] [(.ref t)])) X75.here hx rfl (hb hby at_260) k) ?_
  obtain ⟨cl76, Ar76, -, Sz76, Nn76, Hs76, Gs76⟩ := id Fq57_0
  have hin76 : ¬ ((6 : Int32) < 0 ∨ cl76.slots.size ≤ ((6 : Int32)).toNatClampNeg) := inb_of Sz76 (by decide)
  have hat76 : cl76.slots[((6 : Int32)).toNatClampNeg]? = some (.int (own_y (own_put Ls z7 p2) (6 : Int32))) := Has.at Hs76 hin76 (own_getD _ _)
  refine own_st (T' := T75) (g' := (mkF m 263 #[.val (.int p1), .val (.int p2), .val (.int p3), .val (.int z7), .val (.ref b1), .val (.ref t), .val (.int (10 : Int32)), .val (.ref t)] [(.int (own_y (own_put Ls z7 p2) (6 : Int32)))])) (fun _ k => (X75.baloadBytes hx (j := (6 : Int32)) (v := (.int (own_y (own_put Ls z7 p2) (6 : Int32)))) (by rw [e75]; exact Ar76.1) (State.isArrayOf_alike hZ.alike Ar76.2.1) Ar76.2.2 hin76 hat76 (g := (mkF m 262 #[.val (.int p1), .val (.int p2), .val (.int p3), .val (.int z7), .val (.ref b1), .val (.ref t), .val (.int (10 : Int32)), .val (.ref t)] [(.int (6 : Int32)), (.ref t)])) rfl rfl (hb hby at_262)) _ k) ?_
  refine own_st (T' := T75) (g' := (mkF m 265 #[.val (.int p1), .val (.int p2), .val (.int p3), .val (.int z7), .val (.ref b1), .val (.ref t), .val (.int (10 : Int32)), .val (.ref t)] [(.int (6 : Int32)), (.int (own_y (own_put Ls z7 p2) (6 : Int32)))])) (fun _ k => XS.bipush (g := (mkF m 263 #[.val (.int p1), .val (.int p2), .val (.int p3), .val (.int z7), .val (.ref b1), .val (.ref t), .val (.int (10 : Int32)), .val (.ref t)] [(.int (own_y (own_put Ls z7 p2) (6 : Int32)))])) X75.here hx rfl (hb hby at_263) k) ?_
  refine own_st (T' := T75) (g' := (mkF m 266 #[.val (.int p1), .val (.int p2), .val (.int p3), .val (.int z7), .val (.ref b1), .val (.ref t), .val (.int (10 : Int32)), .val (.ref t)] [(.int z7), (.int (6 : Int32)), (.int (own_y (own_put Ls z7 p2) (6 : Int32)))])) (fun _ k => Jvm.Free.XS.iloadN (g := (mkF m 265 #[.val (.int p1), .val (.int p2), .val (.int p3), .val (.int z7), .val (.ref b1), .val (.ref t), .val (.int (10 : Int32)), .val (.ref t)] [(.int (6 : Int32)), (.int (own_y (own_put Ls z7 p2) (6 : Int32)))])) X75.here hx rfl (hb hby at_265) rfl k) ?_
  refine own_st (T' := T75) (g' := (mkF m 267 #[.val (.int p1), .val (.int p2), .val (.int p3), .val (.int z7), .val (.ref b1), .val (.ref t), .val (.int (10 : Int32)), .val (.ref t)] [(.int p3), (.int z7), (.int (6 : Int32)), (.int (own_y (own_put Ls z7 p2) (6 : Int32)))])) (fun _ k => Jvm.Free.XS.iloadN (g := (mkF m 266 #[.val (.int p1), .val (.int p2), .val (.int p3), .val (.int z7), .val (.ref b1), .val (.ref t), .val (.int (10 : Int32)), .val (.ref t)] [(.int z7), (.int (6 : Int32)), (.int (own_y (own_put Ls z7 p2) (6 : Int32)))])) X75.here hx rfl (hb hby at_266) rfl k) ?_
  refine own_st (T' := T75) (g' := (mkF m 268 #[.val (.int p1), .val (.int p2), .val (.int p3), .val (.int z7), .val (.ref b1), .val (.ref t), .val (.int (10 : Int32)), .val (.ref t)] [(.int p2), (.int p3), (.int z7), (.int (6 : Int32)), (.int (own_y (own_put Ls z7 p2) (6 : Int32)))])) (fun _ k => Jvm.Free.XS.iloadN (g := (mkF m 267 #[.val (.int p1), .val (.int p2), .val (.int p3), .val (.int z7), .val (.ref b1), .val (.ref t), .val (.int (10 : Int32)), .val (.ref t)] [(.int p3), (.int z7), (.int (6 : Int32)), (.int (own_y (own_put Ls z7 p2) (6 : Int32)))])) X75.here hx rfl (hb hby at_267) rfl k) ?_
  obtain ⟨v77, T77, L77, X77, hQ77, st77⟩ := own_packS (Jvm.LawKit.callS X75 hx (y := (⟨"com/example/millrace/millrace/wire/ProtocolWriterPutInt32AtPinLaw", "expected", "(IIII)B"⟩ : MethodName)) hown (mvT hZ (hw _ (List.mem_of_getElem? (i := 47) rfl))) (mvT hZ (hw _ (List.mem_of_getElem? (i := 48) rfl))) (mvT hZ (hw _ (List.mem_of_getElem? (i := 30) rfl))) (mvT hZ (hw _ (List.mem_of_getElem? (i := 49) rfl))) (by decide) (backOf (W := 1) (rm10 l Z a0 hw [] (6 : Int32) z7 p3 p2 T57.heap n0 Zs57 ) hZ (hw _ (List.mem_of_getElem? (i := 49) rfl)) (hw _ (List.mem_of_getElem? (i := 30) rfl)) (by decide) (by decide)) (g := (mkF m 268 #[.val (.int p1), .val (.int p2), .val (.int p3), .val (.int z7), .val (.ref b1), .val (.ref t), .val (.int (10 : Int32)), .val (.ref t)] [(.int p2), (.int p3), (.int z7), (.int (6 : Int32)), (.int (own_y (own_put Ls z7 p2) (6 : Int32)))])) rfl (by rw [hml]; rfl) (argsL := [(.int (6 : Int32)), (.int z7), (.int p3), (.int p2)]) (rest := [(.int (own_y (own_put Ls z7 p2) (6 : Int32)))]) (lenOf own_pd0_5 rfl) rfl (by show 2 * 0 + _ ≤ _; exact Nat.le_of_eq rfl) (hb hby at_268) (fun _ _ => ⟨rfl, e75, (by decide : 2 + 0 ≤ _), (by decide : 18 + 0 ≤ _)⟩))
  obtain ⟨rfl, N77q, e77⟩ := hQ77
  obtain ⟨lc77, X77, N77⟩ := own_loc X77 (Fr.app N75 N77q)
  refine own_st (T' := T77) (g' := (mkF m 271 #[.val (.int p1), .val (.int p2), .val (.int p3), .val (.int z7), .val (.ref b1), .val (.ref t), .val (.int (10 : Int32)), .val (.ref t)] [(.int (own_f10_0 (6 : Int32) z7 p3 p2)), (.int (own_y (own_put Ls z7 p2) (6 : Int32)))])) (fun _ k => (st77) _ k) ?_
  refine own_st (T' := T77) (g' := (mkF m 274 #[.val (.int p1), .val (.int p2), .val (.int p3), .val (.int z7), .val (.ref b1), .val (.ref t), .val (.int (10 : Int32)), .val (.ref t)] [])) (fun _ k => XS.icmpNo (g := (mkF m 271 #[.val (.int p1), .val (.int p2), .val (.int p3), .val (.int z7), .val (.ref b1), .val (.ref t), .val (.int (10 : Int32)), .val (.ref t)] [(.int (own_f10_0 (6 : Int32) z7 p3 p2)), (.int (own_y (own_put Ls z7 p2) (6 : Int32)))])) X77.here hx rfl (hb hby at_271) rfl (teq (by rw [hLs]; exact own_pt6 z7 p3 p2 hz : (own_y (own_put Ls z7 p2) (6 : Int32)) = (own_f10_0 (6 : Int32) z7 p3 p2))).2 k) ?_
  refine own_st (T' := T77) (g' := (mkF m 276 #[.val (.int p1), .val (.int p2), .val (.int p3), .val (.int z7), .val (.ref b1), .val (.ref t), .val (.int (10 : Int32)), .val (.ref t)] [(.ref t)])) (fun _ k => Jvm.Free.XS.aload (g := (mkF m 274 #[.val (.int p1), .val (.int p2), .val (.int p3), .val (.int z7), .val (.ref b1), .val (.ref t), .val (.int (10 : Int32)), .val (.ref t)] [])) X77.here hx rfl (hb hby at_274) rfl rfl k) ?_
  refine own_st (T' := T77) (g' := (mkF m 278 #[.val (.int p1), .val (.int p2), .val (.int p3), .val (.int z7), .val (.ref b1), .val (.ref t), .val (.int (10 : Int32)), .val (.ref t)] [(.int (7 : Int32)), (.ref t)])) (fun _ k => XS.bipush (g := (mkF m 276 #[.val (.int p1), .val (.int p2), .val (.int p3), .val (.int z7), .val (.ref b1), .val (.ref t), .val (.int (10 : Int32)), .val (.ref t)] [(.ref t)])) X77.here hx rfl (hb hby at_276) k) ?_
  obtain ⟨cl78, Ar78, -, Sz78, Nn78, Hs78, Gs78⟩ := id Fq57_0
  have hin78 : ¬ ((7 : Int32) < 0 ∨ cl78.slots.size ≤ ((7 : Int32)).toNatClampNeg) := inb_of Sz78 (by decide)
  have hat78 : cl78.slots[((7 : Int32)).toNatClampNeg]? = some (.int (own_y (own_put Ls z7 p2) (7 : Int32))) := Has.at Hs78 hin78 (own_getD _ _)
  refine own_st (T' := T77) (g' := (mkF m 279 #[.val (.int p1), .val (.int p2), .val (.int p3), .val (.int z7), .val (.ref b1), .val (.ref t), .val (.int (10 : Int32)), .val (.ref t)] [(.int (own_y (own_put Ls z7 p2) (7 : Int32)))])) (fun _ k => (X77.baloadBytes hx (j := (7 : Int32)) (v := (.int (own_y (own_put Ls z7 p2) (7 : Int32)))) (by rw [e77]; exact Ar78.1) (State.isArrayOf_alike hZ.alike Ar78.2.1) Ar78.2.2 hin78 hat78 (g := (mkF m 278 #[.val (.int p1), .val (.int p2), .val (.int p3), .val (.int z7), .val (.ref b1), .val (.ref t), .val (.int (10 : Int32)), .val (.ref t)] [(.int (7 : Int32)), (.ref t)])) rfl rfl (hb hby at_278)) _ k) ?_
  refine own_st (T' := T77) (g' := (mkF m 281 #[.val (.int p1), .val (.int p2), .val (.int p3), .val (.int z7), .val (.ref b1), .val (.ref t), .val (.int (10 : Int32)), .val (.ref t)] [(.int (7 : Int32)), (.int (own_y (own_put Ls z7 p2) (7 : Int32)))])) (fun _ k => XS.bipush (g := (mkF m 279 #[.val (.int p1), .val (.int p2), .val (.int p3), .val (.int z7), .val (.ref b1), .val (.ref t), .val (.int (10 : Int32)), .val (.ref t)] [(.int (own_y (own_put Ls z7 p2) (7 : Int32)))])) X77.here hx rfl (hb hby at_279) k) ?_
  refine own_st (T' := T77) (g' := (mkF m 282 #[.val (.int p1), .val (.int p2), .val (.int p3), .val (.int z7), .val (.ref b1), .val (.ref t), .val (.int (10 : Int32)), .val (.ref t)] [(.int z7), (.int (7 : Int32)), (.int (own_y (own_put Ls z7 p2) (7 : Int32)))])) (fun _ k => Jvm.Free.XS.iloadN (g := (mkF m 281 #[.val (.int p1), .val (.int p2), .val (.int p3), .val (.int z7), .val (.ref b1), .val (.ref t), .val (.int (10 : Int32)), .val (.ref t)] [(.int (7 : Int32)), (.int (own_y (own_put Ls z7 p2) (7 : Int32)))])) X77.here hx rfl (hb hby at_281) rfl k) ?_
  refine own_st (T' := T77) (g' := (mkF m 283 #[.val (.int p1), .val (.int p2), .val (.int p3), .val (.int z7), .val (.ref b1), .val (.ref t), .val (.int (10 : Int32)), .val (.ref t)] [(.int p3), (.int z7), (.int (7 : Int32)), (.int (own_y (own_put Ls z7 p2) (7 : Int32)))])) (fun _ k => Jvm.Free.XS.iloadN (g := (mkF m 282 #[.val (.int p1), .val (.int p2), .val (.int p3), .val (.int z7), .val (.ref b1), .val (.ref t), .val (.int (10 : Int32)), .val (.ref t)] [(.int z7), (.int (7 : Int32)), (.int (own_y (own_put Ls z7 p2) (7 : Int32)))])) X77.here hx rfl (hb hby at_282) rfl k) ?_
  refine own_st (T' := T77) (g' := (mkF m 284 #[.val (.int p1), .val (.int p2), .val (.int p3), .val (.int z7), .val (.ref b1), .val (.ref t), .val (.int (10 : Int32)), .val (.ref t)] [(.int p2), (.int p3), (.int z7), (.int (7 : Int32)), (.int (own_y (own_put Ls z7 p2) (7 : Int32)))])) (fun _ k => Jvm.Free.XS.iloadN (g := (mkF m 283 #[.val (.int p1), .val (.int p2), .val (.int p3), .val (.int z7), .val (.ref b1), .val (.ref t), .val (.int (10 : Int32)), .val (.ref t)] [(.int p3), (.int z7), (.int (7 : Int32)), (.int (own_y (own_put Ls z7 p2) (7 : Int32)))])) X77.here hx rfl (hb hby at_283) rfl k) ?_
  obtain ⟨v79, T79, L79, X79, hQ79, st79⟩ := own_packS (Jvm.LawKit.callS X77 hx (y := (⟨"com/example/millrace/millrace/wire/ProtocolWriterPutInt32AtPinLaw", "expected", "(IIII)B"⟩ : MethodName)) hown (mvT hZ (hw _ (List.mem_of_getElem? (i := 47) rfl))) (mvT hZ (hw _ (List.mem_of_getElem? (i := 48) rfl))) (mvT hZ (hw _ (List.mem_of_getElem? (i := 30) rfl))) (mvT hZ (hw _ (List.mem_of_getElem? (i := 49) rfl))) (by decide) (backOf (W := 1) (rm10 l Z a0 hw [] (7 : Int32) z7 p3 p2 T57.heap n0 Zs57 ) hZ (hw _ (List.mem_of_getElem? (i := 49) rfl)) (hw _ (List.mem_of_getElem? (i := 30) rfl)) (by decide) (by decide)) (g := (mkF m 284 #[.val (.int p1), .val (.int p2), .val (.int p3), .val (.int z7), .val (.ref b1), .val (.ref t), .val (.int (10 : Int32)), .val (.ref t)] [(.int p2), (.int p3), (.int z7), (.int (7 : Int32)), (.int (own_y (own_put Ls z7 p2) (7 : Int32)))])) rfl (by rw [hml]; rfl) (argsL := [(.int (7 : Int32)), (.int z7), (.int p3), (.int p2)]) (rest := [(.int (own_y (own_put Ls z7 p2) (7 : Int32)))]) (lenOf own_pd0_5 rfl) rfl (by show 2 * 0 + _ ≤ _; exact Nat.le_of_eq rfl) (hb hby at_284) (fun _ _ => ⟨rfl, e77, (by decide : 2 + 0 ≤ _), (by decide : 18 + 0 ≤ _)⟩))
  obtain ⟨rfl, N79q, e79⟩ := hQ79
  obtain ⟨lc79, X79, N79⟩ := own_loc X79 (Fr.app N77 N79q)
  refine own_st (T' := T79) (g' := (mkF m 287 #[.val (.int p1), .val (.int p2), .val (.int p3), .val (.int z7), .val (.ref b1), .val (.ref t), .val (.int (10 : Int32)), .val (.ref t)] [(.int (own_f10_0 (7 : Int32) z7 p3 p2)), (.int (own_y (own_put Ls z7 p2) (7 : Int32)))])) (fun _ k => (st79) _ k) ?_
  refine own_st (T' := T79) (g' := (mkF m 290 #[.val (.int p1), .val (.int p2), .val (.int p3), .val (.int z7), .val (.ref b1), .val (.ref t), .val (.int (10 : Int32)), .val (.ref t)] [])) (fun _ k => XS.icmpNo (g := (mkF m 287 #[.val (.int p1), .val (.int p2), .val (.int p3), .val (.int z7), .val (.ref b1), .val (.ref t), .val (.int (10 : Int32)), .val (.ref t)] [(.int (own_f10_0 (7 : Int32) z7 p3 p2)), (.int (own_y (own_put Ls z7 p2) (7 : Int32)))])) X79.here hx rfl (hb hby at_287) rfl (teq (by rw [hLs]; exact own_pt7 z7 p3 p2 hz : (own_y (own_put Ls z7 p2) (7 : Int32)) = (own_f10_0 (7 : Int32) z7 p3 p2))).2 k) ?_
  refine own_st (T' := T79) (g' := (mkF m 292 #[.val (.int p1), .val (.int p2), .val (.int p3), .val (.int z7), .val (.ref b1), .val (.ref t), .val (.int (10 : Int32)), .val (.ref t)] [(.ref t)])) (fun _ k => Jvm.Free.XS.aload (g := (mkF m 290 #[.val (.int p1), .val (.int p2), .val (.int p3), .val (.int z7), .val (.ref b1), .val (.ref t), .val (.int (10 : Int32)), .val (.ref t)] [])) X79.here hx rfl (hb hby at_290) rfl rfl k) ?_
  refine own_st (T' := T79) (g' := (mkF m 294 #[.val (.int p1), .val (.int p2), .val (.int p3), .val (.int z7), .val (.ref b1), .val (.ref t), .val (.int (10 : Int32)), .val (.ref t)] [(.int (8 : Int32)), (.ref t)])) (fun _ k => XS.bipush (g := (mkF m 292 #[.val (.int p1), .val (.int p2), .val (.int p3), .val (.int z7), .val (.ref b1), .val (.ref t), .val (.int (10 : Int32)), .val (.ref t)] [(.ref t)])) X79.here hx rfl (hb hby at_292) k) ?_
  obtain ⟨cl80, Ar80, -, Sz80, Nn80, Hs80, Gs80⟩ := id Fq57_0
  have hin80 : ¬ ((8 : Int32) < 0 ∨ cl80.slots.size ≤ ((8 : Int32)).toNatClampNeg) := inb_of Sz80 (by decide)
  have hat80 : cl80.slots[((8 : Int32)).toNatClampNeg]? = some (.int (own_y (own_put Ls z7 p2) (8 : Int32))) := Has.at Hs80 hin80 (own_getD _ _)
  refine own_st (T' := T79) (g' := (mkF m 295 #[.val (.int p1), .val (.int p2), .val (.int p3), .val (.int z7), .val (.ref b1), .val (.ref t), .val (.int (10 : Int32)), .val (.ref t)] [(.int (own_y (own_put Ls z7 p2) (8 : Int32)))])) (fun _ k => (X79.baloadBytes hx (j := (8 : Int32)) (v := (.int (own_y (own_put Ls z7 p2) (8 : Int32)))) (by rw [e79]; exact Ar80.1) (State.isArrayOf_alike hZ.alike Ar80.2.1) Ar80.2.2 hin80 hat80 (g := (mkF m 294 #[.val (.int p1), .val (.int p2), .val (.int p3), .val (.int z7), .val (.ref b1), .val (.ref t), .val (.int (10 : Int32)), .val (.ref t)] [(.int (8 : Int32)), (.ref t)])) rfl rfl (hb hby at_294)) _ k) ?_
  refine own_st (T' := T79) (g' := (mkF m 297 #[.val (.int p1), .val (.int p2), .val (.int p3), .val (.int z7), .val (.ref b1), .val (.ref t), .val (.int (10 : Int32)), .val (.ref t)] [(.int (8 : Int32)), (.int (own_y (own_put Ls z7 p2) (8 : Int32)))])) (fun _ k => XS.bipush (g := (mkF m 295 #[.val (.int p1), .val (.int p2), .val (.int p3), .val (.int z7), .val (.ref b1), .val (.ref t), .val (.int (10 : Int32)), .val (.ref t)] [(.int (own_y (own_put Ls z7 p2) (8 : Int32)))])) X79.here hx rfl (hb hby at_295) k) ?_
  refine own_st (T' := T79) (g' := (mkF m 298 #[.val (.int p1), .val (.int p2), .val (.int p3), .val (.int z7), .val (.ref b1), .val (.ref t), .val (.int (10 : Int32)), .val (.ref t)] [(.int z7), (.int (8 : Int32)), (.int (own_y (own_put Ls z7 p2) (8 : Int32)))])) (fun _ k => Jvm.Free.XS.iloadN (g := (mkF m 297 #[.val (.int p1), .val (.int p2), .val (.int p3), .val (.int z7), .val (.ref b1), .val (.ref t), .val (.int (10 : Int32)), .val (.ref t)] [(.int (8 : Int32)), (.int (own_y (own_put Ls z7 p2) (8 : Int32)))])) X79.here hx rfl (hb hby at_297) rfl k) ?_
  refine own_st (T' := T79) (g' := (mkF m 299 #[.val (.int p1), .val (.int p2), .val (.int p3), .val (.int z7), .val (.ref b1), .val (.ref t), .val (.int (10 : Int32)), .val (.ref t)] [(.int p3), (.int z7), (.int (8 : Int32)), (.int (own_y (own_put Ls z7 p2) (8 : Int32)))])) (fun _ k => Jvm.Free.XS.iloadN (g := (mkF m 298 #[.val (.int p1), .val (.int p2), .val (.int p3), .val (.int z7), .val (.ref b1), .val (.ref t), .val (.int (10 : Int32)), .val (.ref t)] [(.int z7), (.int (8 : Int32)), (.int (own_y (own_put Ls z7 p2) (8 : Int32)))])) X79.here hx rfl (hb hby at_298) rfl k) ?_
  refine own_st (T' := T79) (g' := (mkF m 300 #[.val (.int p1), .val (.int p2), .val (.int p3), .val (.int z7), .val (.ref b1), .val (.ref t), .val (.int (10 : Int32)), .val (.ref t)] [(.int p2), (.int p3), (.int z7), (.int (8 : Int32)), (.int (own_y (own_put Ls z7 p2) (8 : Int32)))])) (fun _ k => Jvm.Free.XS.iloadN (g := (mkF m 299 #[.val (.int p1), .val (.int p2), .val (.int p3), .val (.int z7), .val (.ref b1), .val (.ref t), .val (.int (10 : Int32)), .val (.ref t)] [(.int p3), (.int z7), (.int (8 : Int32)), (.int (own_y (own_put Ls z7 p2) (8 : Int32)))])) X79.here hx rfl (hb hby at_299) rfl k) ?_
  obtain ⟨v81, T81, L81, X81, hQ81, st81⟩ := own_packS (Jvm.LawKit.callS X79 hx (y := (⟨"com/example/millrace/millrace/wire/ProtocolWriterPutInt32AtPinLaw", "expected", "(IIII)B"⟩ : MethodName)) hown (mvT hZ (hw _ (List.mem_of_getElem? (i := 47) rfl))) (mvT hZ (hw _ (List.mem_of_getElem? (i := 48) rfl))) (mvT hZ (hw _ (List.mem_of_getElem? (i := 30) rfl))) (mvT hZ (hw _ (List.mem_of_getElem? (i := 49) rfl))) (by decide) (backOf (W := 1) (rm10 l Z a0 hw [] (8 : Int32) z7 p3 p2 T57.heap n0 Zs57 ) hZ (hw _ (List.mem_of_getElem? (i := 49) rfl)) (hw _ (List.mem_of_getElem? (i := 30) rfl)) (by decide) (by decide)) (g := (mkF m 300 #[.val (.int p1), .val (.int p2), .val (.int p3), .val (.int z7), .val (.ref b1), .val (.ref t), .val (.int (10 : Int32)), .val (.ref t)] [(.int p2), (.int p3), (.int z7), (.int (8 : Int32)), (.int (own_y (own_put Ls z7 p2) (8 : Int32)))])) rfl (by rw [hml]; rfl) (argsL := [(.int (8 : Int32)), (.int z7), (.int p3), (.int p2)]) (rest := [(.int (own_y (own_put Ls z7 p2) (8 : Int32)))]) (lenOf own_pd0_5 rfl) rfl (by show 2 * 0 + _ ≤ _; exact Nat.le_of_eq rfl) (hb hby at_300) (fun _ _ => ⟨rfl, e79, (by decide : 2 + 0 ≤ _), (by decide : 18 + 0 ≤ _)⟩))
  obtain ⟨rfl, N81q, e81⟩ := hQ81
  obtain ⟨lc81, X81, N81⟩ := own_loc X81 (Fr.app N79 N81q)
  refine own_st (T' := T81) (g' := (mkF m 303 #[.val (.int p1), .val (.int p2), .val (.int p3), .val (.int z7), .val (.ref b1), .val (.ref t), .val (.int (10 : Int32)), .val (.ref t)] [(.int (own_f10_0 (8 : Int32) z7 p3 p2)), (.int (own_y (own_put Ls z7 p2) (8 : Int32)))])) (fun _ k => (st81) _ k) ?_
  refine own_st (T' := T81) (g' := (mkF m 306 #[.val (.int p1), .val (.int p2), .val (.int p3), .val (.int z7), .val (.ref b1), .val (.ref t), .val (.int (10 : Int32)), .val (.ref t)] [])) (fun _ k => XS.icmpNo (g := (mkF m 303 #[.val (.int p1), .val (.int p2), .val (.int p3), .val (.int z7), .val (.ref b1), .val (.ref t), .val (.int (10 : Int32)), .val (.ref t)] [(.int (own_f10_0 (8 : Int32) z7 p3 p2)), (.int (own_y (own_put Ls z7 p2) (8 : Int32)))])) X81.here hx rfl (hb hby at_303) rfl (teq (by rw [hLs]; exact own_pt8 z7 p3 p2 hz : (own_y (own_put Ls z7 p2) (8 : Int32)) = (own_f10_0 (8 : Int32) z7 p3 p2))).2 k) ?_
  refine own_st (T' := T81) (g' := (mkF m 308 #[.val (.int p1), .val (.int p2), .val (.int p3), .val (.int z7), .val (.ref b1), .val (.ref t), .val (.int (10 : Int32)), .val (.ref t)] [(.ref t)])) (fun _ k => Jvm.Free.XS.aload (g := (mkF m 306 #[.val (.int p1), .val (.int p2), .val (.int p3), .val (.int z7), .val (.ref b1), .val (.ref t), .val (.int (10 : Int32)), .val (.ref t)] [])) X81.here hx rfl (hb hby at_306) rfl rfl k) ?_
  refine own_st (T' := T81) (g' := (mkF m 310 #[.val (.int p1), .val (.int p2), .val (.int p3), .val (.int z7), .val (.ref b1), .val (.ref t), .val (.int (10 : Int32)), .val (.ref t)] [(.int (9 : Int32)), (.ref t)])) (fun _ k => XS.bipush (g := (mkF m 308 #[.val (.int p1), .val (.int p2), .val (.int p3), .val (.int z7), .val (.ref b1), .val (.ref t), .val (.int (10 : Int32)), .val (.ref t)] [(.ref t)])) X81.here hx rfl (hb hby at_308) k) ?_
  obtain ⟨cl82, Ar82, -, Sz82, Nn82, Hs82, Gs82⟩ := id Fq57_0
  have hin82 : ¬ ((9 : Int32) < 0 ∨ cl82.slots.size ≤ ((9 : Int32)).toNatClampNeg) := inb_of Sz82 (by decide)
  have hat82 : cl82.slots[((9 : Int32)).toNatClampNeg]? = some (.int (own_y (own_put Ls z7 p2) (9 : Int32))) := Has.at Hs82 hin82 (own_getD _ _)
  refine own_st (T' := T81) (g' := (mkF m 311 #[.val (.int p1), .val (.int p2), .val (.int p3), .val (.int z7), .val (.ref b1), .val (.ref t), .val (.int (10 : Int32)), .val (.ref t)] [(.int (own_y (own_put Ls z7 p2) (9 : Int32)))])) (fun _ k => (X81.baloadBytes hx (j := (9 : Int32)) (v := (.int (own_y (own_put Ls z7 p2) (9 : Int32)))) (by rw [e81]; exact Ar82.1) (State.isArrayOf_alike hZ.alike Ar82.2.1) Ar82.2.2 hin82 hat82 (g := (mkF m 310 #[.val (.int p1), .val (.int p2), .val (.int p3), .val (.int z7), .val (.ref b1), .val (.ref t), .val (.int (10 : Int32)), .val (.ref t)] [(.int (9 : Int32)), (.ref t)])) rfl rfl (hb hby at_310)) _ k) ?_
  refine own_st (T' := T81) (g' := (mkF m 313 #[.val (.int p1), .val (.int p2), .val (.int p3), .val (.int z7), .val (.ref b1), .val (.ref t), .val (.int (10 : Int32)), .val (.ref t)] [(.int (9 : Int32)), (.int (own_y (own_put Ls z7 p2) (9 : Int32)))])) (fun _ k => XS.bipush (g := (mkF m 311 #[.val (.int p1), .val (.int p2), .val (.int p3), .val (.int z7), .val (.ref b1), .val (.ref t), .val (.int (10 : Int32)), .val (.ref t)] [(.int (own_y (own_put Ls z7 p2) (9 : Int32)))])) X81.here hx rfl (hb hby at_311) k) ?_
  refine own_st (T' := T81) (g' := (mkF m 314 #[.val (.int p1), .val (.int p2), .val (.int p3), .val (.int z7), .val (.ref b1), .val (.ref t), .val (.int (10 : Int32)), .val (.ref t)] [(.int z7), (.int (9 : Int32)), (.int (own_y (own_put Ls z7 p2) (9 : Int32)))])) (fun _ k => Jvm.Free.XS.iloadN (g := (mkF m 313 #[.val (.int p1), .val (.int p2), .val (.int p3), .val (.int z7), .val (.ref b1), .val (.ref t), .val (.int (10 : Int32)), .val (.ref t)] [(.int (9 : Int32)), (.int (own_y (own_put Ls z7 p2) (9 : Int32)))])) X81.here hx rfl (hb hby at_313) rfl k) ?_
  refine own_st (T' := T81) (g' := (mkF m 315 #[.val (.int p1), .val (.int p2), .val (.int p3), .val (.int z7), .val (.ref b1), .val (.ref t), .val (.int (10 : Int32)), .val (.ref t)] [(.int p3), (.int z7), (.int (9 : Int32)), (.int (own_y (own_put Ls z7 p2) (9 : Int32)))])) (fun _ k => Jvm.Free.XS.iloadN (g := (mkF m 314 #[.val (.int p1), .val (.int p2), .val (.int p3), .val (.int z7), .val (.ref b1), .val (.ref t), .val (.int (10 : Int32)), .val (.ref t)] [(.int z7), (.int (9 : Int32)), (.int (own_y (own_put Ls z7 p2) (9 : Int32)))])) X81.here hx rfl (hb hby at_314) rfl k) ?_
  refine own_st (T' := T81) (g' := (mkF m 316 #[.val (.int p1), .val (.int p2), .val (.int p3), .val (.int z7), .val (.ref b1), .val (.ref t), .val (.int (10 : Int32)), .val (.ref t)] [(.int p2), (.int p3), (.int z7), (.int (9 : Int32)), (.int (own_y (own_put Ls z7 p2) (9 : Int32)))])) (fun _ k => Jvm.Free.XS.iloadN (g := (mkF m 315 #[.val (.int p1), .val (.int p2), .val (.int p3), .val (.int z7), .val (.ref b1), .val (.ref t), .val (.int (10 : Int32)), .val (.ref t)] [(.int p3), (.int z7), (.int (9 : Int32)), (.int (own_y (own_put Ls z7 p2) (9 : Int32)))])) X81.here hx rfl (hb hby at_315) rfl k) ?_
  obtain ⟨v83, T83, L83, X83, hQ83, st83⟩ := own_packS (Jvm.LawKit.callS X81 hx (y := (⟨"com/example/millrace/millrace/wire/ProtocolWriterPutInt32AtPinLaw", "expected", "(IIII)B"⟩ : MethodName)) hown (mvT hZ (hw _ (List.mem_of_getElem? (i := 47) rfl))) (mvT hZ (hw _ (List.mem_of_getElem? (i := 48) rfl))) (mvT hZ (hw _ (List.mem_of_getElem? (i := 30) rfl))) (mvT hZ (hw _ (List.mem_of_getElem? (i := 49) rfl))) (by decide) (backOf (W := 1) (rm10 l Z a0 hw [] (9 : Int32) z7 p3 p2 T57.heap n0 Zs57 ) hZ (hw _ (List.mem_of_getElem? (i := 49) rfl)) (hw _ (List.mem_of_getElem? (i := 30) rfl)) (by decide) (by decide)) (g := (mkF m 316 #[.val (.int p1), .val (.int p2), .val (.int p3), .val (.int z7), .val (.ref b1), .val (.ref t), .val (.int (10 : Int32)), .val (.ref t)] [(.int p2), (.int p3), (.int z7), (.int (9 : Int32)), (.int (own_y (own_put Ls z7 p2) (9 : Int32)))])) rfl (by rw [hml]; rfl) (argsL := [(.int (9 : Int32)), (.int z7), (.int p3), (.int p2)]) (rest := [(.int (own_y (own_put Ls z7 p2) (9 : Int32)))]) (lenOf own_pd0_5 rfl) rfl (by show 2 * 0 + _ ≤ _; exact Nat.le_of_eq rfl) (hb hby at_316) (fun _ _ => ⟨rfl, e81, (by decide : 2 + 0 ≤ _), (by decide : 18 + 0 ≤ _)⟩))
  obtain ⟨rfl, N83q, e83⟩ := hQ83
  obtain ⟨lc83, X83, N83⟩ := own_loc X83 (Fr.app N81 N83q)
  refine own_st (T' := T83) (g' := (mkF m 319 #[.val (.int p1), .val (.int p2), .val (.int p3), .val (.int z7), .val (.ref b1), .val (.ref t), .val (.int (10 : Int32)), .val (.ref t)] [(.int (own_f10_0 (9 : Int32) z7 p3 p2)), (.int (own_y (own_put Ls z7 p2) (9 : Int32)))])) (fun _ k => (st83) _ k) ?_
  refine own_st (T' := T83) (g' := (mkF m 322 #[.val (.int p1), .val (.int p2), .val (.int p3), .val (.int z7), .val (.ref b1), .val (.ref t), .val (.int (10 : Int32)), .val (.ref t)] [])) (fun _ k => XS.icmpNo (g := (mkF m 319 #[.val (.int p1), .val (.int p2), .val (.int p3), .val (.int z7), .val (.ref b1), .val (.ref t), .val (.int (10 : Int32)), .val (.ref t)] [(.int (own_f10_0 (9 : Int32) z7 p3 p2)), (.int (own_y (own_put Ls z7 p2) (9 : Int32)))])) X83.here hx rfl (hb hby at_319) rfl (teq (by rw [hLs]; exact own_pt9 z7 p3 p2 hz : (own_y (own_put Ls z7 p2) (9 : Int32)) = (own_f10_0 (9 : Int32) z7 p3 p2))).2 k) ?_
  refine own_st (T' := T83) (g' := (mkF m 324 #[.val (.int p1), .val (.int p2), .val (.int p3), .val (.int z7), .val (.ref b1), .val (.ref t), .val (.int (10 : Int32)), .val (.ref t)] [(.ref t)])) (fun _ k => Jvm.Free.XS.aload (g := (mkF m 322 #[.val (.int p1), .val (.int p2), .val (.int p3), .val (.int z7), .val (.ref b1), .val (.ref t), .val (.int (10 : Int32)), .val (.ref t)] [])) X83.here hx rfl (hb hby at_322) rfl rfl k) ?_
  refine own_st (T' := T83) (g' := (mkF m 326 #[.val (.int p1), .val (.int p2), .val (.int p3), .val (.int z7), .val (.ref b1), .val (.ref t), .val (.int (10 : Int32)), .val (.ref t)] [(.int (10 : Int32)), (.ref t)])) (fun _ k => XS.bipush (g := (mkF m 324 #[.val (.int p1), .val (.int p2), .val (.int p3), .val (.int z7), .val (.ref b1), .val (.ref t), .val (.int (10 : Int32)), .val (.ref t)] [(.ref t)])) X83.here hx rfl (hb hby at_324) k) ?_
  obtain ⟨cl84, Ar84, -, Sz84, Nn84, Hs84, Gs84⟩ := id Fq57_0
  have hin84 : ¬ ((10 : Int32) < 0 ∨ cl84.slots.size ≤ ((10 : Int32)).toNatClampNeg) := inb_of Sz84 (by decide)
  have hat84 : cl84.slots[((10 : Int32)).toNatClampNeg]? = some (.int (own_y (own_put Ls z7 p2) (10 : Int32))) := Has.at Hs84 hin84 (own_getD _ _)
  refine own_st (T' := T83) (g' := (mkF m 327 #[.val (.int p1), .val (.int p2), .val (.int p3), .val (.int z7), .val (.ref b1), .val (.ref t), .val (.int (10 : Int32)), .val (.ref t)] [(.int (own_y (own_put Ls z7 p2) (10 : Int32)))])) (fun _ k => (X83.baloadBytes hx (j := (10 : Int32)) (v := (.int (own_y (own_put Ls z7 p2) (10 : Int32)))) (by rw [e83]; exact Ar84.1) (State.isArrayOf_alike hZ.alike Ar84.2.1) Ar84.2.2 hin84 hat84 (g := (mkF m 326 #[.val (.int p1), .val (.int p2), .val (.int p3), .val (.int z7), .val (.ref b1), .val (.ref t), .val (.int (10 : Int32)), .val (.ref t)] [(.int (10 : Int32)), (.ref t)])) rfl rfl (hb hby at_326)) _ k) ?_
  refine own_st (T' := T83) (g' := (mkF m 329 #[.val (.int p1), .val (.int p2), .val (.int p3), .val (.int z7), .val (.ref b1), .val (.ref t), .val (.int (10 : Int32)), .val (.ref t)] [(.int (10 : Int32)), (.int (own_y (own_put Ls z7 p2) (10 : Int32)))])) (fun _ k => XS.bipush (g := (mkF m 327 #[.val (.int p1), .val (.int p2), .val (.int p3), .val (.int z7), .val (.ref b1), .val (.ref t), .val (.int (10 : Int32)), .val (.ref t)] [(.int (own_y (own_put Ls z7 p2) (10 : Int32)))])) X83.here hx rfl (hb hby at_327) k) ?_
  refine own_st (T' := T83) (g' := (mkF m 330 #[.val (.int p1), .val (.int p2), .val (.int p3), .val (.int z7), .val (.ref b1), .val (.ref t), .val (.int (10 : Int32)), .val (.ref t)] [(.int z7), (.int (10 : Int32)), (.int (own_y (own_put Ls z7 p2) (10 : Int32)))])) (fun _ k => Jvm.Free.XS.iloadN (g := (mkF m 329 #[.val (.int p1), .val (.int p2), .val (.int p3), .val (.int z7), .val (.ref b1), .val (.ref t), .val (.int (10 : Int32)), .val (.ref t)] [(.int (10 : Int32)), (.int (own_y (own_put Ls z7 p2) (10 : Int32)))])) X83.here hx rfl (hb hby at_329) rfl k) ?_
  refine own_st (T' := T83) (g' := (mkF m 331 #[.val (.int p1), .val (.int p2), .val (.int p3), .val (.int z7), .val (.ref b1), .val (.ref t), .val (.int (10 : Int32)), .val (.ref t)] [(.int p3), (.int z7), (.int (10 : Int32)), (.int (own_y (own_put Ls z7 p2) (10 : Int32)))])) (fun _ k => Jvm.Free.XS.iloadN (g := (mkF m 330 #[.val (.int p1), .val (.int p2), .val (.int p3), .val (.int z7), .val (.ref b1), .val (.ref t), .val (.int (10 : Int32)), .val (.ref t)] [(.int z7), (.int (10 : Int32)), (.int (own_y (own_put Ls z7 p2) (10 : Int32)))])) X83.here hx rfl (hb hby at_330) rfl k) ?_
  refine own_st (T' := T83) (g' := (mkF m 332 #[.val (.int p1), .val (.int p2), .val (.int p3), .val (.int z7), .val (.ref b1), .val (.ref t), .val (.int (10 : Int32)), .val (.ref t)] [(.int p2), (.int p3), (.int z7), (.int (10 : Int32)), (.int (own_y (own_put Ls z7 p2) (10 : Int32)))])) (fun _ k => Jvm.Free.XS.iloadN (g := (mkF m 331 #[.val (.int p1), .val (.int p2), .val (.int p3), .val (.int z7), .val (.ref b1), .val (.ref t), .val (.int (10 : Int32)), .val (.ref t)] [(.int p3), (.int z7), (.int (10 : Int32)), (.int (own_y (own_put Ls z7 p2) (10 : Int32)))])) X83.here hx rfl (hb hby at_331) rfl k) ?_
  obtain ⟨v85, T85, L85, X85, hQ85, st85⟩ := own_packS (Jvm.LawKit.callS X83 hx (y := (⟨"com/example/millrace/millrace/wire/ProtocolWriterPutInt32AtPinLaw", "expected", "(IIII)B"⟩ : MethodName)) hown (mvT hZ (hw _ (List.mem_of_getElem? (i := 47) rfl))) (mvT hZ (hw _ (List.mem_of_getElem? (i := 48) rfl))) (mvT hZ (hw _ (List.mem_of_getElem? (i := 30) rfl))) (mvT hZ (hw _ (List.mem_of_getElem? (i := 49) rfl))) (by decide) (backOf (W := 1) (rm10 l Z a0 hw [] (10 : Int32) z7 p3 p2 T57.heap n0 Zs57 ) hZ (hw _ (List.mem_of_getElem? (i := 49) rfl)) (hw _ (List.mem_of_getElem? (i := 30) rfl)) (by decide) (by decide)) (g := (mkF m 332 #[.val (.int p1), .val (.int p2), .val (.int p3), .val (.int z7), .val (.ref b1), .val (.ref t), .val (.int (10 : Int32)), .val (.ref t)] [(.int p2), (.int p3), (.int z7), (.int (10 : Int32)), (.int (own_y (own_put Ls z7 p2) (10 : Int32)))])) rfl (by rw [hml]; rfl) (argsL := [(.int (10 : Int32)), (.int z7), (.int p3), (.int p2)]) (rest := [(.int (own_y (own_put Ls z7 p2) (10 : Int32)))]) (lenOf own_pd0_5 rfl) rfl (by show 2 * 0 + _ ≤ _; exact Nat.le_of_eq rfl) (hb hby at_332) (fun _ _ => ⟨rfl, e83, (by decide : 2 + 0 ≤ _), (by decide : 18 + 0 ≤ _)⟩))
  obtain ⟨rfl, N85q, e85⟩ := hQ85
  obtain ⟨lc85, X85, N85⟩ := own_loc X85 (Fr.app N83 N85q)
  refine own_st (T' := T85) (g' := (mkF m 335 #[.val (.int p1), .val (.int p2), .val (.int p3), .val (.int z7), .val (.ref b1), .val (.ref t), .val (.int (10 : Int32)), .val (.ref t)] [(.int (own_f10_0 (10 : Int32) z7 p3 p2)), (.int (own_y (own_put Ls z7 p2) (10 : Int32)))])) (fun _ k => (st85) _ k) ?_
  refine own_st (T' := T85) (g' := (mkF m 338 #[.val (.int p1), .val (.int p2), .val (.int p3), .val (.int z7), .val (.ref b1), .val (.ref t), .val (.int (10 : Int32)), .val (.ref t)] [])) (fun _ k => XS.icmpNo (g := (mkF m 335 #[.val (.int p1), .val (.int p2), .val (.int p3), .val (.int z7), .val (.ref b1), .val (.ref t), .val (.int (10 : Int32)), .val (.ref t)] [(.int (own_f10_0 (10 : Int32) z7 p3 p2)), (.int (own_y (own_put Ls z7 p2) (10 : Int32)))])) X85.here hx rfl (hb hby at_335) rfl (teq (by rw [hLs]; exact own_pt10 z7 p3 p2 hz : (own_y (own_put Ls z7 p2) (10 : Int32)) = (own_f10_0 (10 : Int32) z7 p3 p2))).2 k) ?_
  refine own_st (T' := T85) (g' := (mkF m 340 #[.val (.int p1), .val (.int p2), .val (.int p3), .val (.int z7), .val (.ref b1), .val (.ref t), .val (.int (10 : Int32)), .val (.ref t)] [(.ref t)])) (fun _ k => Jvm.Free.XS.aload (g := (mkF m 338 #[.val (.int p1), .val (.int p2), .val (.int p3), .val (.int z7), .val (.ref b1), .val (.ref t), .val (.int (10 : Int32)), .val (.ref t)] [])) X85.here hx rfl (hb hby at_338) rfl rfl k) ?_
  refine own_st (T' := T85) (g' := (mkF m 342 #[.val (.int p1), .val (.int p2), .val (.int p3), .val (.int z7), .val (.ref b1), .val (.ref t), .val (.int (10 : Int32)), .val (.ref t)] [(.int (11 : Int32)), (.ref t)])) (fun _ k => XS.bipush (g := (mkF m 340 #[.val (.int p1), .val (.int p2), .val (.int p3), .val (.int z7), .val (.ref b1), .val (.ref t), .val (.int (10 : Int32)), .val (.ref t)] [(.ref t)])) X85.here hx rfl (hb hby at_340) k) ?_
  obtain ⟨cl86, Ar86, -, Sz86, Nn86, Hs86, Gs86⟩ := id Fq57_0
  have hin86 : ¬ ((11 : Int32) < 0 ∨ cl86.slots.size ≤ ((11 : Int32)).toNatClampNeg) := inb_of Sz86 (by decide)
  have hat86 : cl86.slots[((11 : Int32)).toNatClampNeg]? = some (.int (own_y (own_put Ls z7 p2) (11 : Int32))) := Has.at Hs86 hin86 (own_getD _ _)
  refine own_st (T' := T85) (g' := (mkF m 343 #[.val (.int p1), .val (.int p2), .val (.int p3), .val (.int z7), .val (.ref b1), .val (.ref t), .val (.int (10 : Int32)), .val (.ref t)] [(.int (own_y (own_put Ls z7 p2) (11 : Int32)))])) (fun _ k => (X85.baloadBytes hx (j := (11 : Int32)) (v := (.int (own_y (own_put Ls z7 p2) (11 : Int32)))) (by rw [e85]; exact Ar86.1) (State.isArrayOf_alike hZ.alike Ar86.2.1) Ar86.2.2 hin86 hat86 (g := (mkF m 342 #[.val (.int p1), .val (.int p2), .val (.int p3), .val (.int z7), .val (.ref b1), .val (.ref t), .val (.int (10 : Int32)), .val (.ref t)] [(.int (11 : Int32)), (.ref t)])) rfl rfl (hb hby at_342)) _ k) ?_
  refine own_st (T' := T85) (g' := (mkF m 345 #[.val (.int p1), .val (.int p2), .val (.int p3), .val (.int z7), .val (.ref b1), .val (.ref t), .val (.int (10 : Int32)), .val (.ref t)] [(.int (11 : Int32)), (.int (own_y (own_put Ls z7 p2) (11 : Int32)))])) (fun _ k => XS.bipush (g := (mkF m 343 #[.val (.int p1), .val (.int p2), .val (.int p3), .val (.int z7), .val (.ref b1), .val (.ref t), .val (.int (10 : Int32)), .val (.ref t)] [(.int (own_y (own_put Ls z7 p2) (11 : Int32)))])) X85.here hx rfl (hb hby at_343) k) ?_
  refine own_st (T' := T85) (g' := (mkF m 346 #[.val (.int p1), .val (.int p2), .val (.int p3), .val (.int z7), .val (.ref b1), .val (.ref t), .val (.int (10 : Int32)), .val (.ref t)] [(.int z7), (.int (11 : Int32)), (.int (own_y (own_put Ls z7 p2) (11 : Int32)))])) (fun _ k => Jvm.Free.XS.iloadN (g := (mkF m 345 #[.val (.int p1), .val (.int p2), .val (.int p3), .val (.int z7), .val (.ref b1), .val (.ref t), .val (.int (10 : Int32)), .val (.ref t)] [(.int (11 : Int32)), (.int (own_y (own_put Ls z7 p2) (11 : Int32)))])) X85.here hx rfl (hb hby at_345) rfl k) ?_
  refine own_st (T' := T85) (g' := (mkF m 347 #[.val (.int p1), .val (.int p2), .val (.int p3), .val (.int z7), .val (.ref b1), .val (.ref t), .val (.int (10 : Int32)), .val (.ref t)] [(.int p3), (.int z7), (.int (11 : Int32)), (.int (own_y (own_put Ls z7 p2) (11 : Int32)))])) (fun _ k => Jvm.Free.XS.iloadN (g := (mkF m 346 #[.val (.int p1), .val (.int p2), .val (.int p3), .val (.int z7), .val (.ref b1), .val (.ref t), .val (.int (10 : Int32)), .val (.ref t)] [(.int z7), (.int (11 : Int32)), (.int (own_y (own_put Ls z7 p2) (11 : Int32)))])) X85.here hx rfl (hb hby at_346) rfl k) ?_
  refine own_st (T' := T85) (g' := (mkF m 348 #[.val (.int p1), .val (.int p2), .val (.int p3), .val (.int z7), .val (.ref b1), .val (.ref t), .val (.int (10 : Int32)), .val (.ref t)] [(.int p2), (.int p3), (.int z7), (.int (11 : Int32)), (.int (own_y (own_put Ls z7 p2) (11 : Int32)))])) (fun _ k => Jvm.Free.XS.iloadN (g := (mkF m 347 #[.val (.int p1), .val (.int p2), .val (.int p3), .val (.int z7), .val (.ref b1), .val (.ref t), .val (.int (10 : Int32)), .val (.ref t)] [(.int p3), (.int z7), (.int (11 : Int32)), (.int (own_y (own_put Ls z7 p2) (11 : Int32)))])) X85.here hx rfl (hb hby at_347) rfl k) ?_
  obtain ⟨v87, T87, L87, X87, hQ87, st87⟩ := own_packS (Jvm.LawKit.callS X85 hx (y := (⟨"com/example/millrace/millrace/wire/ProtocolWriterPutInt32AtPinLaw", "expected", "(IIII)B"⟩ : MethodName)) hown (mvT hZ (hw _ (List.mem_of_getElem? (i := 47) rfl))) (mvT hZ (hw _ (List.mem_of_getElem? (i := 48) rfl))) (mvT hZ (hw _ (List.mem_of_getElem? (i := 30) rfl))) (mvT hZ (hw _ (List.mem_of_getElem? (i := 49) rfl))) (by decide) (backOf (W := 1) (rm10 l Z a0 hw [] (11 : Int32) z7 p3 p2 T57.heap n0 Zs57 ) hZ (hw _ (List.mem_of_getElem? (i := 49) rfl)) (hw _ (List.mem_of_getElem? (i := 30) rfl)) (by decide) (by decide)) (g := (mkF m 348 #[.val (.int p1), .val (.int p2), .val (.int p3), .val (.int z7), .val (.ref b1), .val (.ref t), .val (.int (10 : Int32)), .val (.ref t)] [(.int p2), (.int p3), (.int z7), (.int (11 : Int32)), (.int (own_y (own_put Ls z7 p2) (11 : Int32)))])) rfl (by rw [hml]; rfl) (argsL := [(.int (11 : Int32)), (.int z7), (.int p3), (.int p2)]) (rest := [(.int (own_y (own_put Ls z7 p2) (11 : Int32)))]) (lenOf own_pd0_5 rfl) rfl (by show 2 * 0 + _ ≤ _; exact Nat.le_of_eq rfl) (hb hby at_348) (fun _ _ => ⟨rfl, e85, (by decide : 2 + 0 ≤ _), (by decide : 18 + 0 ≤ _)⟩))
  obtain ⟨rfl, N87q, e87⟩ := hQ87
  obtain ⟨lc87, X87, N87⟩ := own_loc X87 (Fr.app N85 N87q)
  refine own_st (T' := T87) (g' := (mkF m 351 #[.val (.int p1), .val (.int p2), .val (.int p3), .val (.int z7), .val (.ref b1), .val (.ref t), .val (.int (10 : Int32)), .val (.ref t)] [(.int (own_f10_0 (11 : Int32) z7 p3 p2)), (.int (own_y (own_put Ls z7 p2) (11 : Int32)))])) (fun _ k => (st87) _ k) ?_
  refine own_st (T' := T87) (g' := (mkF m 354 #[.val (.int p1), .val (.int p2), .val (.int p3), .val (.int z7), .val (.ref b1), .val (.ref t), .val (.int (10 : Int32)), .val (.ref t)] [])) (fun _ k => XS.icmpNo (g := (mkF m 351 #[.val (.int p1), .val (.int p2), .val (.int p3), .val (.int z7), .val (.ref b1), .val (.ref t), .val (.int (10 : Int32)), .val (.ref t)] [(.int (own_f10_0 (11 : Int32) z7 p3 p2)), (.int (own_y (own_put Ls z7 p2) (11 : Int32)))])) X87.here hx rfl (hb hby at_351) rfl (teq (by rw [hLs]; exact own_pt11 z7 p3 p2 hz : (own_y (own_put Ls z7 p2) (11 : Int32)) = (own_f10_0 (11 : Int32) z7 p3 p2))).2 k) ?_
  refine own_st (T' := T87) (g' := (mkF m 355 #[.val (.int p1), .val (.int p2), .val (.int p3), .val (.int z7), .val (.ref b1), .val (.ref t), .val (.int (10 : Int32)), .val (.ref t)] [(.int (1 : Int32))])) (fun _ k => XS.iconst (g := (mkF m 354 #[.val (.int p1), .val (.int p2), .val (.int p3), .val (.int z7), .val (.ref b1), .val (.ref t), .val (.int (10 : Int32)), .val (.ref t)] [])) X87.here hx rfl (hb hby at_354) k) ?_
  refine own_st (T' := T87) (g' := (mkF m 359 #[.val (.int p1), .val (.int p2), .val (.int p3), .val (.int z7), .val (.ref b1), .val (.ref t), .val (.int (10 : Int32)), .val (.ref t)] [(.int (1 : Int32))])) (fun _ k => XS.goto (g := (mkF m 355 #[.val (.int p1), .val (.int p2), .val (.int p3), .val (.int z7), .val (.ref b1), .val (.ref t), .val (.int (10 : Int32)), .val (.ref t)] [(.int (1 : Int32))])) X87.here hx rfl (pc0 := 355) (pc' := 359) rfl (hb hby at_355) (by decide) (by decide) k) ?_
  exact own_end (Q := Q0 Z p1 p2 p3 h0 n0) (v := some (.int (nar .boolean (1 : Int32)))) X87 (fun h => by rw [Bd.returns] at h; cases h) (fun fs hr => retN X87 hx (t := .boolean) Bd.returns (by simp) (hb hby at_359) hr) (⟨rfl, N87⟩) (by decide) (by decide)
set_option maxRecDepth 65536 in
set_option maxHeartbeats 40000000 in
theorem comes_1 {Post : Tables → Env → Array Value → State → Outcome → State → Prop} (hpost : ∀ tb e args s v u, (limb_1_1.after args s (.returned v) u = true ∧ limb_1_2.after args s (.returned v) u = true ∧ True) → FrameEnd s (.returned v) u (Jvm.fieldLocs frame_1_writes args s ++ Jvm.arrayLocs frame_1_arrays args s ++ Jvm.staticLocs frame_1_statics s) 16 128 → Post tb e args s (.returned v) u) :
    ArmFor flags0 classFile x code maxLocals ret World_1 tables_1 room_1 Calls_1 rest_1 Pre_1 Post := by
  intro l hfl _ _ p e ha hc hk s m args below hf hA hF happ hP
  obtain ⟨hcalls, hrest, hpre⟩ := hP
  obtain ⟨-, -, -, hnamed, -, -, -, hat⟩ := (Spec.applies_iff hf).mp happ
  obtain ⟨hg, hn⟩ := and_e (Cond.before_iff.mp (show (Jvm.Cond.and given_1 narrow_1).before args s = true from hpre))
  obtain ⟨hcount, hg0⟩ := and_e hg
  obtain ⟨ga0, hg1⟩ := and_e hg0
  obtain ⟨ga1, hg2⟩ := and_e hg1
  obtain ⟨w0, w1, w2, rfl⟩ : ∃ w0 w1 w2 : Value, args = #[w0, w1, w2] := by
    have hs : args.size = 3 := by simpa [Cond.value, given_1] using hcount
    obtain ⟨L⟩ := args
    match L, hs with
    | [w0, w1, w2], _ => exact ⟨w0, w1, w2, rfl⟩
  have hw := fun d (hd : d ∈ tables_1) => atoms_spec (ws := Jvm.Cond.code x code maxLocals ret :: tables_1) hat d (List.mem_cons_of_mem _ hd)
  obtain ⟨i0, ei0⟩ := is_v ga0
  obtain rfl : w0 = (.int i0) := Option.some.inj ei0
  obtain ⟨i1, ei1⟩ := is_v ga1
  obtain rfl : w1 = (.int i1) := Option.some.inj ei1
  obtain ⟨i2, ei2⟩ := is_v hg2
  obtain rfl : w2 = (.int i2) := Option.some.inj ei2
  obtain ⟨n, o, h1, h2, h3, _, L, rfl, ⟨rfl, N⟩, hq⟩ := rm0 l s _ hw tables_1 i0 i1 i2 s.heap s.heap.size (Nat.le_refl _)  p e ha hc hk s m _ below hf ((Spec.applies_iff_loose hf).mp happ).1 ⟨rfl, State.Warmed39.refl s, rfl⟩ trivial
  refine ⟨n, _, h1, h2, h3, hpost _ _ _ _ _ _ ⟨Cond.after_iff.mpr rfl, Cond.after_iff.mpr (eq_i res_at (Term.int_eval (1)) rfl), trivial⟩ ⟨hq.1, hq.2.1, (hq.2.2.sift fun y hy => Or.inr (N y hy)).mono (by decide) (by decide)⟩⟩
theorem main_1_1 : Claimed_1_1 := comes_1 fun _ _ _ _ _ _ h hF => ⟨h.1, hF⟩
theorem main_1_2 : Claimed_1_2 := comes_1 fun _ _ _ _ _ _ h hF => ⟨h.2.1, hF⟩
end Jvm.Pilot.@@N@@
namespace Jvm.Pilot.@@N@@
open Jvm Jvm.ClassFile Sem Op Lib Jvm.Free Jvm.Stand Jvm.Pilot.@@N@@.Jvm.D
/-! MADE BY PROGRAM (witnessworld.py) out of the Statement's table words and the real class files: 10 classes; the members and pool entries that the words name. The judged class is class 1, her method 3. -/
namespace start1
open Jvm.ClassFile
def u (s : String) : CpInfo := .utf8 (stringToUtf16 s)
/-- a pool by its gaps: so many unusable entries, then the entry; so many at the end -/
def gap : Nat → List CpInfo → List CpInfo
  | 0, r => r
  | n + 1, r => .unusable :: gap n r
def poolList (es : List (Nat × CpInfo)) (last : Nat) : List CpInfo := es.foldr (fun e r => gap e.1 (e.2 :: r)) (gap last [])
def pool (es : List (Nat × CpInfo)) (last : Nat) : Array CpInfo := ⟨poolList es last⟩
def fileOf (pool : Array CpInfo) (this : Nat) (attrs : Array Attribute := #[]) (ms : Array MethodInfo := #[]) (fl : Nat := 33) (sup : Nat := 0) (ifs : Array Nat := #[]) (fds : Array FieldInfo := #[]) : ClassFile where
  minorVersion := 0
  majorVersion := 65
  constantPool := pool
  accessFlags := fl
  thisClass := this
  superClass := sup
  interfaces := ifs
  fields := fds
  methods := ms
  attributes := attrs
def plain (name : String) (sup : Option ClassId) : Class where
  name := name
  kind := .ordinary
  loader := none
  accessFlags := 33
  super := sup
  interfaces := #[]
  cf := none
  fields := #[]
  methods := #[]
  instanceTypes := #[]
  staticTypes := #[]
  resolved := #[]
  callSites := []
  init := .initialized
  statics := none
  mirror := none

def pool0 : Array CpInfo := pool [(5, u "<init>"), (0, u "()V"), (1, .class_ 10), (1, u "java/lang/Object")] 113

def k0c0 : Code := { maxStack := 0, maxLocals := 1, code := object_method_1_code, exceptionTable := #[], attributes := #[] }
def k0m0 : Method := { name := "<init>", desc := "()V", sig := { parameters := [], returnType := none }, accessFlags := 1, code := some k0c0 }
/-- java/lang/Object -/
def k0 : Class := { plain "java/lang/Object" none with
  accessFlags := 33
  interfaces := #[]
  cf := some (fileOf pool0 8 #[] #[{ accessFlags := 1, nameIndex := 5, descriptorIndex := 6, attributes := #[] }] 33 0 #[] #[])
  fields := #[]
  methods := #[k0m0]
  instanceTypes := #[]
  staticTypes := #[]
  resolved := Array.replicate 124 none
  statics := none }

def pool1 : Array CpInfo := pool [(2, .class_ 4), (1, u "java/lang/Object"), (0, u "<init>"), (0, u "()V"), (0, .methodref 8 9), (0, .class_ 10), (0, .nameAndType 11 12), (0, u "com/example/millrace/millrace/wire/ProtocolWriterPutInt32AtPinLaw"), (0, u "orig"), (0, u "(II)B"), (0, .integer 2147483647), (0, .class_ 15), (0, u "com/example/millrace/millrace/wire/ProtocolWriter"), (0, .methodref 14 17), (0, .nameAndType 5 18), (0, u "(I)V"), (0, .methodref 14 20), (0, .nameAndType 21 22), (0, u "reserve"), (0, u "(I)[B"), (0, .methodref 14 24), (0, .nameAndType 25 18), (0, u "advanceTo"), (0, .methodref 14 27), (0, .nameAndType 28 29), (0, u "putInt32At"), (0, u "(II)V"), (0, .methodref 14 31), (0, .nameAndType 32 33), (0, u "position"), (0, u "()I"), (0, .methodref 8 35), (0, .nameAndType 36 37), (0, u "expected"), (0, u "(IIII)B"), (3, u "law"), (0, u "(III)Z")] 4

def k1m0 : Method := { name := "<init>", desc := "()V", sig := { parameters := [], returnType := none }, accessFlags := 2, code := none }
def k1c1 : Code := { maxStack := 3, maxLocals := 2, code := method_2_code, exceptionTable := #[], attributes := #[] }
def k1m1 : Method := { name := "orig", desc := "(II)B", sig := { parameters := [.int, .int], returnType := some .byte }, accessFlags := 10, code := some k1c1 }
def k1c2 : Code := { maxStack := 5, maxLocals := 4, code := method_3_code, exceptionTable := #[], attributes := #[] }
def k1m2 : Method := { name := "expected", desc := "(IIII)B", sig := { parameters := [.int, .int, .int, .int], returnType := some .byte }, accessFlags := 10, code := some k1c2 }
def k1c3 : Code := { maxStack := 5, maxLocals := 8, code := code, exceptionTable := #[], attributes := #[] }
def k1m3 : Method := { name := "law", desc := "(III)Z", sig := { parameters := [.int, .int, .int], returnType := some .boolean }, accessFlags := 9, code := some k1c3 }
/-- com/example/millrace/millrace/wire/ProtocolWriterPutInt32AtPinLaw -/
def k1 : Class := { plain "com/example/millrace/millrace/wire/ProtocolWriterPutInt32AtPinLaw" (some 0) with
  accessFlags := 49
  interfaces := #[]
  cf := some (fileOf pool1 8 #[] #[{ accessFlags := 2, nameIndex := 5, descriptorIndex := 6, attributes := #[] }, { accessFlags := 10, nameIndex := 11, descriptorIndex := 12, attributes := #[] }, { accessFlags := 10, nameIndex := 36, descriptorIndex := 37, attributes := #[] }, { accessFlags := 9, nameIndex := 41, descriptorIndex := 42, attributes := #[] }] 49 2 #[] #[])
  fields := #[]
  methods := #[k1m0, k1m1, k1m2, k1m3]
  instanceTypes := #[]
  staticTypes := #[]
  resolved := Array.replicate 47 none
  statics := none }

def pool2 : Array CpInfo := pool [(1, .methodref 2 3), (0, .class_ 4), (0, .nameAndType 5 6), (0, u "java/lang/Object"), (0, u "<init>"), (0, u "()V"), (0, .methodref 8 9), (0, .class_ 10), (0, .nameAndType 11 12), (0, u "java/lang/Math"), (0, u "max"), (0, u "(II)I"), (0, .fieldref 14 15), (0, .class_ 16), (0, .nameAndType 17 18), (0, u "com/example/millrace/millrace/wire/ProtocolWriter"), (0, u "bytes"), (0, u "[B"), (0, .fieldref 14 20), (0, .nameAndType 21 22), (0, u "position"), (0, u "I"), (31, .methodref 14 55), (0, .nameAndType 56 57), (0, u "ensure"), (0, u "(I)V"), (2, u "putInt32At"), (0, u "(II)V"), (82, u "()I"), (72, u "reserve"), (0, u "(I)[B"), (0, u "advanceTo")] 33

def k2c0 : Code := { maxStack := 3, maxLocals := 2, code := prog_128_method_1_code, exceptionTable := #[], attributes := #[] }
def k2m0 : Method := { name := "<init>", desc := "(I)V", sig := { parameters := [.int], returnType := none }, accessFlags := 1, code := some k2c0 }
def k2c1 : Code := { maxStack := 1, maxLocals := 1, code := prog_128_method_2_code, exceptionTable := #[], attributes := #[] }
def k2m1 : Method := { name := "position", desc := "()I", sig := { parameters := [], returnType := some .int }, accessFlags := 1, code := some k2c1 }
def k2c2 : Code := { maxStack := 4, maxLocals := 3, code := prog_128_method_11_code, exceptionTable := #[], attributes := #[] }
def k2m2 : Method := { name := "putInt32At", desc := "(II)V", sig := { parameters := [.int, .int], returnType := none }, accessFlags := 1, code := some k2c2 }
def k2c3 : Code := { maxStack := 2, maxLocals := 2, code := prog_128_method_16_code, exceptionTable := #[], attributes := #[] }
def k2m3 : Method := { name := "reserve", desc := "(I)[B", sig := { parameters := [.int], returnType := some (.array .byte) }, accessFlags := 0, code := some k2c3 }
def k2c4 : Code := { maxStack := 2, maxLocals := 2, code := prog_128_method_17_code, exceptionTable := #[], attributes := #[] }
def k2m4 : Method := { name := "advanceTo", desc := "(I)V", sig := { parameters := [.int], returnType := none }, accessFlags := 0, code := some k2c4 }
def k2c5 : Code := { maxStack := 3, maxLocals := 2, code := prog_128_method_34_code, exceptionTable := #[], attributes := #[] }
def k2m5 : Method := { name := "ensure", desc := "(I)V", sig := { parameters := [.int], returnType := none }, accessFlags := 2, code := some k2c5 }
/-- com/example/millrace/millrace/wire/ProtocolWriter -/
def k2 : Class := { plain "com/example/millrace/millrace/wire/ProtocolWriter" (some 0) with
  accessFlags := 49
  interfaces := #[]
  cf := some (fileOf pool2 14 #[] #[{ accessFlags := 1, nameIndex := 5, descriptorIndex := 57, attributes := #[] }, { accessFlags := 1, nameIndex := 21, descriptorIndex := 144, attributes := #[] }, { accessFlags := 1, nameIndex := 60, descriptorIndex := 61, attributes := #[] }, { accessFlags := 0, nameIndex := 217, descriptorIndex := 218, attributes := #[] }, { accessFlags := 0, nameIndex := 219, descriptorIndex := 57, attributes := #[] }, { accessFlags := 2, nameIndex := 56, descriptorIndex := 57, attributes := #[] }] 49 2 #[] #[{ accessFlags := 2, nameIndex := 17, descriptorIndex := 18, attributes := #[] }, { accessFlags := 2, nameIndex := 21, descriptorIndex := 22, attributes := #[] }])
  fields := #[{ name := "bytes", type := (.array .byte), accessFlags := 2, slot := 0, constantValue := 0 }, { name := "position", type := .int, accessFlags := 2, slot := 1, constantValue := 0 }]
  methods := #[k2m0, k2m1, k2m2, k2m3, k2m4, k2m5]
  instanceTypes := #[(.array .byte), .int]
  staticTypes := #[]
  resolved := Array.replicate 253 none
  statics := none }

def pool3 : Array CpInfo := pool [(1, .class_ 2), (0, u "java/lang/Math"), (1, .class_ 6), (1, u "java/lang/Object"), (0, u "<init>"), (0, u "()V"), (89, .class_ 100), (1, u "java/lang/Math$RandomNumberGeneratorHolder"), (71, u "negativeZeroFloatBits"), (0, u "J"), (2, u "negativeZeroDoubleBits"), (21, u "max"), (46, u "$assertionsDisabled"), (0, u "Z"), (88, u "(II)I"), (2, u "twoToTheDoubleScaleDown"), (0, u "D"), (4, u "twoToTheDoubleScaleUp"), (9, u "E"), (3, u "PI"), (2, u "TAU"), (2, u "DEGREES_TO_RADIANS"), (0, u "RADIANS_TO_DEGREES")] 94

def k3m0 : Method := { name := "<init>", desc := "()V", sig := { parameters := [], returnType := none }, accessFlags := 2, code := none }
def k3c1 : Code := { maxStack := 2, maxLocals := 2, code := jdk_29_method_65_code, exceptionTable := #[], attributes := #[] }
def k3m1 : Method := { name := "max", desc := "(II)I", sig := { parameters := [.int, .int], returnType := some .int }, accessFlags := 9, code := some k3c1 }
/-- java/lang/Math -/
def k3 : Class := { plain "java/lang/Math" (some 0) with
  accessFlags := 49
  interfaces := #[]
  cf := some (fileOf pool3 1 #[.nestMembers #[98]] #[{ accessFlags := 2, nameIndex := 7, descriptorIndex := 8, attributes := #[] }, { accessFlags := 9, nameIndex := 198, descriptorIndex := 335, attributes := #[] }] 49 4 #[] #[{ accessFlags := 25, nameIndex := 354, descriptorIndex := 339, attributes := #[] }, { accessFlags := 25, nameIndex := 358, descriptorIndex := 339, attributes := #[] }, { accessFlags := 25, nameIndex := 361, descriptorIndex := 339, attributes := #[] }, { accessFlags := 26, nameIndex := 364, descriptorIndex := 339, attributes := #[] }, { accessFlags := 26, nameIndex := 365, descriptorIndex := 339, attributes := #[] }, { accessFlags := 26, nameIndex := 172, descriptorIndex := 173, attributes := #[] }, { accessFlags := 26, nameIndex := 176, descriptorIndex := 173, attributes := #[] }, { accessFlags := 8, nameIndex := 344, descriptorIndex := 339, attributes := #[] }, { accessFlags := 8, nameIndex := 338, descriptorIndex := 339, attributes := #[] }, { accessFlags := 4120, nameIndex := 245, descriptorIndex := 246, attributes := #[] }])
  fields := #[{ name := "E", type := .double, accessFlags := 25, slot := 0, constantValue := 0 }, { name := "PI", type := .double, accessFlags := 25, slot := 1, constantValue := 0 }, { name := "TAU", type := .double, accessFlags := 25, slot := 2, constantValue := 0 }, { name := "DEGREES_TO_RADIANS", type := .double, accessFlags := 26, slot := 3, constantValue := 0 }, { name := "RADIANS_TO_DEGREES", type := .double, accessFlags := 26, slot := 4, constantValue := 0 }, { name := "negativeZeroFloatBits", type := .long, accessFlags := 26, slot := 5, constantValue := 0 }, { name := "negativeZeroDoubleBits", type := .long, accessFlags := 26, slot := 6, constantValue := 0 }, { name := "twoToTheDoubleScaleUp", type := .double, accessFlags := 8, slot := 7, constantValue := 0 }, { name := "twoToTheDoubleScaleDown", type := .double, accessFlags := 8, slot := 8, constantValue := 0 }, { name := "$assertionsDisabled", type := .boolean, accessFlags := 4120, slot := 9, constantValue := 0 }]
  methods := #[k3m0, k3m1]
  instanceTypes := #[]
  staticTypes := #[.double, .double, .double, .double, .double, .long, .long, .double, .double, .boolean]
  resolved := Array.replicate 460 none
  statics := none }

def pool4 : Array CpInfo := pool [(1, u "java/lang/Cloneable"), (0, .class_ 1), (0, u "java/lang/Object"), (0, .class_ 3)] 3

/-- java/lang/Cloneable -/
def k4 : Class := { plain "java/lang/Cloneable" (some 0) with
  accessFlags := 1537
  interfaces := #[]
  cf := some (fileOf pool4 2 #[] #[] 1537 4 #[] #[])
  fields := #[]
  methods := #[]
  instanceTypes := #[]
  staticTypes := #[]
  resolved := Array.replicate 8 none
  statics := none }

def pool5 : Array CpInfo := pool [(1, u "java/io/Serializable"), (0, .class_ 1), (0, u "java/lang/Object"), (0, .class_ 3)] 3

/-- java/io/Serializable -/
def k5 : Class := { plain "java/io/Serializable" (some 0) with
  accessFlags := 1537
  interfaces := #[]
  cf := some (fileOf pool5 2 #[] #[] 1537 4 #[] #[])
  fields := #[]
  methods := #[]
  instanceTypes := #[]
  staticTypes := #[]
  resolved := Array.replicate 8 none
  statics := none }

/-- the primitive byte -/
def k6 : Class := { plain "byte" none with kind := .primitive 'B', accessFlags := 0x411 }
/-- [B -/
def k7 : Class := { plain "[B" (some 0) with kind := .array 6 .byte, interfaces := #[4, 5], accessFlags := 1041 }

/-- the primitive int -/
def k8 : Class := { plain "int" none with kind := .primitive 'I', accessFlags := 0x411 }
/-- [I -/
def k9 : Class := { plain "[I" (some 0) with kind := .array 8 .int, interfaces := #[4, 5], accessFlags := 1041 }

def heap : Heap := #[]
def classes : Array Class := #[k0, k1, k2, k3, k4, k5, k6, k7, k8, k9]
def interned : List (Array UInt16 × Addr) := []
def slotsUsed : Nat := 0
def theMethod : MethodId := ⟨1, 3⟩
def args0 : Array Value := #[.int 5, .int 2, .int 7]
def aboutOver (below : List Frame) : State where
  vm := { classes := classes, interned := interned.toArray }
  heap := heap
  slotsUsed := slotsUsed
  threads := #[{ frames := .invoking theMethod args0 :: below }]
def below0 : List Frame := [.native { method := ⟨0, 0⟩, args := #[] }]
def about1 : State := aboutOver below0
def p0 : Program := .bare "" "" ""
def e0 : Env := launch0.env 0 0 0
theorem w_frames : about1.frames = Frame.invoking theMethod args0 :: below0 := rfl
set_option maxRecDepth 65536 in
theorem w_args : argsFit about1.vm theMethod args0 = true := by decide +kernel
set_option maxRecDepth 65536 in
theorem w_heap : heapFits about1 = true := by decide +kernel
set_option maxRecDepth 65536 in
theorem w_runnable : about1.curStatus? = some .runnable := by decide +kernel
set_option maxRecDepth 65536 in
theorem w_alone : about1.alone = true := by decide +kernel
set_option maxRecDepth 65536 in
theorem w_named : about1.methodNamed? x = some theMethod := by decide +kernel
set_option maxRecDepth 65536 in
theorem w_hears : about1.hears theMethod below0 = true := by decide +kernel
set_option maxRecDepth 65536 in
theorem w_ripe : about1.ripe theMethod args0 below0 = true := by decide +kernel
theorem w_running : about1.status = .running := rfl
set_option maxRecDepth 65536 in
theorem w_room : about1.hasRoom e0.platform room_1 = true :=
  launch0.hasRoom_least _ room_1 (by decide +kernel) (by decide +kernel) (by decide +kernel) (by decide +kernel) (by decide +kernel) (by decide +kernel)
theorem allAtoms_all (ts : List Jvm.Cond) (a : Array Jvm.Value) (st : Jvm.State) : (allAtoms ts).before a st = ts.all (fun c => c.before a st) := by
  induction ts with
  | nil => rfl
  | cons c t ih =>
    show (Jvm.Cond.and c (allAtoms t)).before a st = _
    rw [Jvm.Cond.before_and, ih, List.all_cons]
def words1 : List Jvm.Cond := Jvm.Cond.code x code maxLocals ret :: tables_1
/-- a 'code' word, met by the world's own term for the bytes: nothing is compared byte by byte -/
theorem code_word {y : MethodName} {bytes : ByteArray} {mx : Nat} {rt : Option FieldType} {a : Array Value} {s : State} {m : MethodId} {meth : Method} {c : Code} (h1 : s.methodNamed? y = some m) (h2 : s.vm.method? m = some meth) (h3 : meth.code = some c) (h4 : c.code = bytes)
    (h5 : (c.maxLocals == mx && c.exceptionTable.isEmpty && decide (c.maxStack ≤ mostOperands) && decide (meth.sig.returnType = rt) && !meth.locks && decide (parseMethodDescriptor y.desc = some meth.sig)) = true) : (Jvm.Cond.code y bytes mx rt).before a s = true := by
  simp only [Bool.and_eq_true, beq_iff_eq, Bool.not_eq_true', decide_eq_true_eq] at h5
  obtain ⟨⟨⟨⟨⟨g1, g2⟩, g3⟩, g4⟩, g5⟩, g6⟩ := h5
  simp [Cond.before, Cond.holds, Cond.value, h1, h2, h3, h4, g1, g2, g3, g4, g5, g6]
def isCode : Jvm.Cond → Bool
  | .code _ _ _ _ => true
  | _ => false
theorem all_split {L : List Jvm.Cond} {P : Jvm.Cond → Bool} (h1 : L.all (fun c => isCode c || P c) = true) (h2 : ∀ c ∈ L.filter isCode, P c = true) : L.all P = true := by
  refine List.all_eq_true.mpr fun c hc => ?_
  have h := List.all_eq_true.mp h1 c hc
  rcases Bool.eq_false_or_eq_true (isCode c) with hi | hi
  · exact h2 c (List.mem_filter.mpr ⟨hc, hi⟩)
  · simpa [hi] using h
set_option maxRecDepth 65536 in
theorem w_c0 : (Jvm.Cond.code x code maxLocals ret).before args0 about1 = true := code_word (m := ⟨1, 3⟩) (meth := k1m3) (c := k1c3) (by decide +kernel) rfl rfl rfl (by decide +kernel)
set_option maxRecDepth 65536 in
theorem w_c1 : (Jvm.Cond.code ({ cls := "com/example/millrace/millrace/wire/ProtocolWriter", name := "<init>", desc := "(I)V" } : Jvm.MethodName) prog_128_method_1_code (2 : Nat) (Option.none : Option Jvm.ClassFile.FieldType)).before args0 about1 = true := code_word (m := ⟨2, 0⟩) (meth := k2m0) (c := k2c0) (by decide +kernel) rfl rfl rfl (by decide +kernel)
set_option maxRecDepth 65536 in
theorem w_c2 : (Jvm.Cond.code ({ cls := "java/lang/Object", name := "<init>", desc := "()V" } : Jvm.MethodName) object_method_1_code (1 : Nat) (Option.none : Option Jvm.ClassFile.FieldType)).before args0 about1 = true := code_word (m := ⟨0, 0⟩) (meth := k0m0) (c := k0c0) (by decide +kernel) rfl rfl rfl (by decide +kernel)
set_option maxRecDepth 65536 in
theorem w_c3 : (Jvm.Cond.code ({ cls := "java/lang/Math", name := "max", desc := "(II)I" } : Jvm.MethodName) jdk_29_method_65_code (2 : Nat) (Option.some Jvm.ClassFile.FieldType.int)).before args0 about1 = true := code_word (m := ⟨3, 1⟩) (meth := k3m1) (c := k3c1) (by decide +kernel) rfl rfl rfl (by decide +kernel)
set_option maxRecDepth 65536 in
theorem w_c4 : (Jvm.Cond.code ({ cls := "com/example/millrace/millrace/wire/ProtocolWriter", name := "reserve", desc := "(I)[B" } : Jvm.MethodName) prog_128_method_16_code (2 : Nat) (Option.some (Jvm.ClassFile.FieldType.array Jvm.ClassFile.FieldType.byte))).before args0 about1 = true := code_word (m := ⟨2, 3⟩) (meth := k2m3) (c := k2c3) (by decide +kernel) rfl rfl rfl (by decide +kernel)
set_option maxRecDepth 65536 in
theorem w_c5 : (Jvm.Cond.code ({ cls := "com/example/millrace/millrace/wire/ProtocolWriter", name := "ensure", desc := "(I)V" } : Jvm.MethodName) prog_128_method_34_code (2 : Nat) (Option.none : Option Jvm.ClassFile.FieldType)).before args0 about1 = true := code_word (m := ⟨2, 5⟩) (meth := k2m5) (c := k2c5) (by decide +kernel) rfl rfl rfl (by decide +kernel)
set_option maxRecDepth 65536 in
theorem w_c6 : (Jvm.Cond.code ({ cls := "com/example/millrace/millrace/wire/ProtocolWriterPutInt32AtPinLaw", name := "orig", desc := "(II)B" } : Jvm.MethodName) method_2_code (2 : Nat) (Option.some Jvm.ClassFile.FieldType.byte)).before args0 about1 = true := code_word (m := ⟨1, 1⟩) (meth := k1m1) (c := k1c1) (by decide +kernel) rfl rfl rfl (by decide +kernel)
set_option maxRecDepth 65536 in
theorem w_c7 : (Jvm.Cond.code ({ cls := "com/example/millrace/millrace/wire/ProtocolWriter", name := "advanceTo", desc := "(I)V" } : Jvm.MethodName) prog_128_method_17_code (2 : Nat) (Option.none : Option Jvm.ClassFile.FieldType)).before args0 about1 = true := code_word (m := ⟨2, 4⟩) (meth := k2m4) (c := k2c4) (by decide +kernel) rfl rfl rfl (by decide +kernel)
set_option maxRecDepth 65536 in
theorem w_c8 : (Jvm.Cond.code ({ cls := "com/example/millrace/millrace/wire/ProtocolWriter", name := "putInt32At", desc := "(II)V" } : Jvm.MethodName) prog_128_method_11_code (3 : Nat) (Option.none : Option Jvm.ClassFile.FieldType)).before args0 about1 = true := code_word (m := ⟨2, 2⟩) (meth := k2m2) (c := k2c2) (by decide +kernel) rfl rfl rfl (by decide +kernel)
set_option maxRecDepth 65536 in
theorem w_c9 : (Jvm.Cond.code ({ cls := "com/example/millrace/millrace/wire/ProtocolWriter", name := "position", desc := "()I" } : Jvm.MethodName) prog_128_method_2_code (1 : Nat) (Option.some Jvm.ClassFile.FieldType.int)).before args0 about1 = true := code_word (m := ⟨2, 1⟩) (meth := k2m1) (c := k2c1) (by decide +kernel) rfl rfl rfl (by decide +kernel)
set_option maxRecDepth 65536 in
theorem w_c10 : (Jvm.Cond.code ({ cls := "com/example/millrace/millrace/wire/ProtocolWriterPutInt32AtPinLaw", name := "expected", desc := "(IIII)B" } : Jvm.MethodName) method_3_code (4 : Nat) (Option.some Jvm.ClassFile.FieldType.byte)).before args0 about1 = true := code_word (m := ⟨1, 2⟩) (meth := k1m2) (c := k1c2) (by decide +kernel) rfl rfl rfl (by decide +kernel)
def codes1 : List Jvm.Cond := [Jvm.Cond.code x code maxLocals ret, Jvm.Cond.code ({ cls := "com/example/millrace/millrace/wire/ProtocolWriter", name := "<init>", desc := "(I)V" } : Jvm.MethodName) prog_128_method_1_code (2 : Nat) (Option.none : Option Jvm.ClassFile.FieldType), Jvm.Cond.code ({ cls := "java/lang/Object", name := "<init>", desc := "()V" } : Jvm.MethodName) object_method_1_code (1 : Nat) (Option.none : Option Jvm.ClassFile.FieldType), Jvm.Cond.code ({ cls := "java/lang/Math", name := "max", desc := "(II)I" } : Jvm.MethodName) jdk_29_method_65_code (2 : Nat) (Option.some Jvm.ClassFile.FieldType.int), Jvm.Cond.code ({ cls := "com/example/millrace/millrace/wire/ProtocolWriter", name := "reserve", desc := "(I)[B" } : Jvm.MethodName) prog_128_method_16_code (2 : Nat) (Option.some (Jvm.ClassFile.FieldType.array Jvm.ClassFile.FieldType.byte)), Jvm.Cond.code ({ cls := "com/example/millrace/millrace/wire/ProtocolWriter", name := "ensure", desc := "(I)V" } : Jvm.MethodName) prog_128_method_34_code (2 : Nat) (Option.none : Option Jvm.ClassFile.FieldType), Jvm.Cond.code ({ cls := "com/example/millrace/millrace/wire/ProtocolWriterPutInt32AtPinLaw", name := "orig", desc := "(II)B" } : Jvm.MethodName) method_2_code (2 : Nat) (Option.some Jvm.ClassFile.FieldType.byte), Jvm.Cond.code ({ cls := "com/example/millrace/millrace/wire/ProtocolWriter", name := "advanceTo", desc := "(I)V" } : Jvm.MethodName) prog_128_method_17_code (2 : Nat) (Option.none : Option Jvm.ClassFile.FieldType), Jvm.Cond.code ({ cls := "com/example/millrace/millrace/wire/ProtocolWriter", name := "putInt32At", desc := "(II)V" } : Jvm.MethodName) prog_128_method_11_code (3 : Nat) (Option.none : Option Jvm.ClassFile.FieldType), Jvm.Cond.code ({ cls := "com/example/millrace/millrace/wire/ProtocolWriter", name := "position", desc := "()I" } : Jvm.MethodName) prog_128_method_2_code (1 : Nat) (Option.some Jvm.ClassFile.FieldType.int), Jvm.Cond.code ({ cls := "com/example/millrace/millrace/wire/ProtocolWriterPutInt32AtPinLaw", name := "expected", desc := "(IIII)B" } : Jvm.MethodName) method_3_code (4 : Nat) (Option.some Jvm.ClassFile.FieldType.byte)]
set_option maxRecDepth 65536 in
theorem codes_eq : words1.filter isCode = codes1 := rfl
theorem w_codes : ∀ c ∈ words1.filter isCode, c.before args0 about1 = true := by
  rw [codes_eq]
  intro c hc
  simp only [codes1, List.mem_cons, List.not_mem_nil, or_false] at hc
  rcases hc with rfl | rfl | rfl | rfl | rfl | rfl | rfl | rfl | rfl | rfl | rfl
  · exact w_c0
  · exact w_c1
  · exact w_c2
  · exact w_c3
  · exact w_c4
  · exact w_c5
  · exact w_c6
  · exact w_c7
  · exact w_c8
  · exact w_c9
  · exact w_c10
set_option maxRecDepth 65536 in
theorem w_t1 : (words1.take 24).all (fun c => isCode c || c.before args0 about1) = true := by decide +kernel
set_option maxRecDepth 65536 in
theorem w_t2 : ((words1.drop 24).take 24).all (fun c => isCode c || c.before args0 about1) = true := by decide +kernel
set_option maxRecDepth 65536 in
theorem w_t3 : ((words1.drop 24).drop 24).all (fun c => isCode c || c.before args0 about1) = true := by decide +kernel
theorem w_tables : (allAtoms (Jvm.Cond.code x code maxLocals ret :: tables_1)).before args0 about1 = true := by
  rw [allAtoms_all]
  show words1.all (fun c => c.before args0 about1) = true
  refine all_split ?_ w_codes
  rw [← List.take_append_drop 24 words1, List.all_append, w_t1, ← List.take_append_drop 24 (words1.drop 24), List.all_append, w_t2, w_t3]
  rfl
set_option maxRecDepth 65536 in
theorem w_case : (Jvm.Cond.and given_1 narrow_1).before args0 about1 = true := by decide +kernel
theorem w_applies : (headSpec (Jvm.Cond.code x code maxLocals ret :: tables_1) room_1).applies x e0.platform about1 = true :=
  (Spec.applies_iff w_frames).mpr ⟨w_running, w_runnable, w_alone, w_named, w_hears, w_ripe, w_room, w_tables⟩
theorem atStart : AtStart classFile x code maxLocals ret World_1 tables_1 room_1 Calls_1 rest_1 Pre_1 launch0 p0 e0 about1 theMethod args0 below0 :=
  ⟨lists_1, trivial, launch0.admits_env _ _ _, launch0.least_env, fairChoices_fair.cas, fairChoices_fair.clock, w_frames, w_args, w_heap, w_applies, trivial, trivial, w_case⟩
end start1
theorem witness_1 : WitnessClaimed_1 := ⟨start1.p0, start1.e0, start1.about1, start1.theMethod, start1.args0, start1.below0, start1.atStart⟩
end Jvm.Pilot.@@N@@
