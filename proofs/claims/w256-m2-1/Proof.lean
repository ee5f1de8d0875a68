import JvmDerived
import JvmDerived.Pilot.@@N@@Statement
import JvmDerived.Pilot.@@N@@Code
set_option linter.unusedVariables false
set_option linter.unusedSimpArgs false
namespace Jvm.RoadKit
open Sem ClassFile Op Lib Jvm.Stand Jvm.Free Jvm.LawKit
section New
variable {p : Program} {l : Launch} {e : Env} {R : Room} {s : State} {m : MethodId} {args : Array Value} {below : List Frame} {meth : Method} {c : Code} {T : State} {locs : List Loc} {cells slots : Nat}
theorem retI (X : Stand p l e R s m args below meth c T locs cells slots) (hx : p.tables.exec = Jvm.exec) {pc : Nat} {Ls : Array Slot} {z : Int32} {rest : List Value} (hret : meth.sig.returnType = some .int) (hd : decode c.code pc = .ok (.ireturn, 1)) {fs : List Frame}
    (hl : ∀ (f : JFrame) (acts : List Action), f.method = m → f.locked = none → f.entered = [] → (doReturn e (T.setTop f) acts (some (.int z))).1 = T.setFrames fs) : Steps p.tables e below (T.setTop (mkF m pc Ls (.int z :: rest))) (T.setFrames fs) := by
  have hm' : T.vm.method? m = some meth := X.method'
  have hn : narrow .int (.int z) = .int z := rfl
  show Steps p.tables e below (T.setTop { method := m, pc := pc, locals := Ls, stack := _ :: rest, locked := none }) _
  jvm_step X.here [X.here.top, hx, hd, hm', hret, hn]
  first | (intro acts; rw [hl _ acts rfl rfl rfl]) | rw [hl _ _ rfl rfl rfl]
  exact Steps.refl _
end New
end Jvm.RoadKit
namespace Jvm.Pilot.@@N@@
open Jvm Jvm.ClassFile Sem Op Lib Jvm.Free Jvm.Stand Jvm.LawKit Jvm.RoadKit Bundle Jvm.Pilot.@@N@@.Jvm.D
/-- from the frame g on the run comes to an end that Q says -/
def own_Goes (p : Program) (e : Env) (below : List Frame) (Q : Outcome → State → Prop) (T : State) (g : JFrame) : Prop :=
  ∃ s₂ o, Steps p.tables e below (T.setTop g) s₂ ∧ s₂.status = .running ∧ Ended s₂ below o ∧ Q o s₂
theorem own_st {p : Program} {e : Env} {below : List Frame} {Q : Outcome → State → Prop} {T T' : State} {g g' : JFrame}
    (h : ∀ t, Steps p.tables e below (T'.setTop g') t → Steps p.tables e below (T.setTop g) t) (k : own_Goes p e below Q T' g') : own_Goes p e below Q T g := by
  obtain ⟨s₂, o, h1, h2⟩ := k
  exact ⟨s₂, o, h _ h1, h2⟩
theorem own_end {p : Program} {l : Launch} {e : Env} {R : Room} {s : State} {m : MethodId} {args : Array Value} {below : List Frame} {meth : Method} {c : Code} {T : State} {locs : List Loc} {cells slots : Nat} {C S : Nat} {Q : Option Value → Heap → List Loc → Prop} {g : JFrame} {v : Option Value}
    (X : Stand p l e R s m args below meth c T locs cells slots) (hv : meth.sig.returnType = none → v = none)
    (hret : ∀ fs, (∀ (f : JFrame) (acts : List Action), f.method = m → f.locked = none → f.entered = [] → (doReturn e (T.setTop f) acts v).1 = T.setFrames fs) → Steps p.tables e below (T.setTop g) (T.setFrames fs))
    (hQ : Q v T.heap locs) (hC : cells ≤ C) (hS : slots ≤ S) (hlocks : meth.locks = false := by first | assumption) :
    own_Goes p e below (fun o U' => ∃ v L, o = .returned v ∧ Q v U'.heap L ∧ FrameEnd s o U' L C S) T g := by
  obtain ⟨fs, hr, hrun, hended, hW, hsame⟩ := X.leave (v := v) hv hlocks
  exact ⟨_, _, hret fs hr, hrun, hended, _, _, rfl, hQ, ⟨_, rfl⟩, hW, hsame.mono hC hS⟩
theorem own_selP {s : State} {args : Array Value} {y : MethodName} {n : Nat} (wi : (Cond.instantiable y.cls n).before args s = true) (hpriv : s.PrivateAt y) (hinst : (Cond.instanceMethod y).before args s = true)
    (hy : y.cls ≠ "java/lang/invoke/MethodHandle" ∧ y.cls ≠ "java/lang/invoke/VarHandle") : (Cond.selects y.cls y y).before args s = true := by
  obtain ⟨c, k, hc, hk, -, hi, -, -⟩ := Cond.instantiable_spec wi
  exact Jvm.Stand.selects_self_of_private hc hk (Bool.or_eq_false_iff.mp hi).1 hpriv hinst hy
/-- what a call by a contract leaves, its counters put in -/
theorem own_packS {p : Program} {l : Launch} {e : Env} {R : Room} {s : State} {m : MethodId} {args : Array Value} {below : List Frame} {meth : Method} {c : Code} {T : State} {locs : List Loc} {cells slots rc rs : Nat} {Q : Option Value → Heap → List Loc → Prop} {g : JFrame} {rest : List Value}
    (h : ∃ (v : Option Value) (vm₁ : Vm) (B : Pt), s.WarmedH vm₁ ∧ Stand p l e R s m args below meth c B.U B.locs B.cells B.slots ∧ (∃ L, Q v B.U.heap L ∧ B.locs = locs ++ L ∧ B.cells = cells + rc ∧ B.slots = slots + rs) ∧ ∀ target, Steps p.tables e below (B.U.setTop { g with pc := g.pc + 3, stack := v.toList ++ rest }) target → Steps p.tables e below (T.setTop g) target) :
    ∃ (v : Option Value) (T' : State) (L : List Loc), Stand p l e R s m args below meth c T' (locs ++ L) (cells + rc) (slots + rs) ∧ Q v T'.heap L ∧ ∀ target, Steps p.tables e below (T'.setTop { g with pc := g.pc + 3, stack := v.toList ++ rest }) target → Steps p.tables e below (T.setTop g) target := by
  obtain ⟨v, vm₁, ⟨T', L', k', n'⟩, -, X', ⟨Lc, hq, l, y, z⟩, st⟩ := h
  subst l y z
  exact ⟨v, T', Lc, X', hq, st⟩
theorem own_packV {p : Program} {l : Launch} {e : Env} {R : Room} {s : State} {m : MethodId} {args : Array Value} {below : List Frame} {meth : Method} {c : Code} {T : State} {locs : List Loc} {cells slots rc rs : Nat} {Q : Option Value → Heap → List Loc → Prop} {g : JFrame} {rest : List Value}
    (h : ∃ (v : Option Value) (vm₁ : Vm) (B : Pt), s.WarmedH vm₁ ∧ Stand p l e R s m args below meth c B.U B.locs B.cells B.slots ∧ (∃ L, Q v B.U.heap L ∧ B.locs = locs ++ L ∧ B.cells = cells + rc ∧ B.slots = slots + rs) ∧ Steps p.tables e below (T.setTop g) (B.U.setTop { g with pc := g.pc + 3, stack := v.toList ++ rest })) :
    ∃ (v : Option Value) (T' : State) (L : List Loc), Stand p l e R s m args below meth c T' (locs ++ L) (cells + rc) (slots + rs) ∧ Q v T'.heap L ∧ ∀ target, Steps p.tables e below (T'.setTop { g with pc := g.pc + 3, stack := v.toList ++ rest }) target → Steps p.tables e below (T.setTop g) target := by
  obtain ⟨v, vm₁, ⟨T', L', k', n'⟩, -, X', ⟨Lc, hq, l, y, z⟩, st⟩ := h
  subst l y z
  exact ⟨v, T', Lc, X', hq, fun _ k => st.trans k⟩
/-- the written places, their list forgotten -/
theorem own_loc {p : Program} {l : Launch} {e : Env} {R : Room} {s : State} {m : MethodId} {args : Array Value} {below : List Frame} {meth : Method} {c : Code} {T : State} {locs : List Loc} {cells slots k : Nat}
    (X : Stand p l e R s m args below meth c T locs cells slots) (N : Fr k locs) : ∃ locs', Stand p l e R s m args below meth c T locs' cells slots ∧ Fr k locs' := ⟨_, X, N⟩

theorem own_and (x : Int32) : 0 ≤ (x &&& 2147483647).toInt := by
  have := (c_and x 2147483647 (by decide)).1; exact this
theorem own_rem (x d : Int32) (h0 : 0 ≤ x.toInt) (hd : 0 < d.toInt) : (x - (x / d) * d).toInt = x.toInt % d.toInt ∧ 0 ≤ (x - (x / d) * d).toInt ∧ (x - (x / d) * d).toInt < d.toInt := by
  rw [irem_eq_mod]
  have e := (c_irem x d d.toInt rfl).1 h0
  exact ⟨e, by rw [e]; exact Int.emod_nonneg _ (by omega), by rw [e]; exact Int.emod_lt_of_pos _ hd⟩
theorem own_in (j d : Int32) (h1 : 0 ≤ j.toInt) (h2 : j.toInt < d.toInt) : ¬ j < 0 ∧ j < d := by
  constructor
  · rw [Int32.lt_iff_toInt_lt]; simp; omega
  · rw [Int32.lt_iff_toInt_lt]; exact h2
theorem own_getD (L : List Int32) (k : Nat) : (L.map Value.int).getD k (.int 0) = .int (L.getD k 0) := by
  simp only [List.getD, List.getElem?_map]
  cases L[k]? <;> rfl

theorem d1_0 : decode prog_315_method_5_code 0 = .ok (.iload_n 0, 1) := by decide +kernel
theorem d1_1 : decode prog_315_method_5_code 1 = .ok (.bipush 9, 2) := by decide +kernel
theorem d1_3 : decode prog_315_method_5_code 3 = .ok (.if_icmp .eq 51, 3) := by decide +kernel
theorem d1_6 : decode prog_315_method_5_code 6 = .ok (.iload_n 0, 1) := by decide +kernel
theorem d1_7 : decode prog_315_method_5_code 7 = .ok (.bipush 10, 2) := by decide +kernel
theorem d1_9 : decode prog_315_method_5_code 9 = .ok (.if_icmp .eq 45, 3) := by decide +kernel
theorem d1_12 : decode prog_315_method_5_code 12 = .ok (.iload_n 0, 1) := by decide +kernel
theorem d1_13 : decode prog_315_method_5_code 13 = .ok (.bipush 13, 2) := by decide +kernel
theorem d1_15 : decode prog_315_method_5_code 15 = .ok (.if_icmp .eq 39, 3) := by decide +kernel
theorem d1_18 : decode prog_315_method_5_code 18 = .ok (.iload_n 0, 1) := by decide +kernel
theorem d1_19 : decode prog_315_method_5_code 19 = .ok (.bipush 32, 2) := by decide +kernel
theorem d1_21 : decode prog_315_method_5_code 21 = .ok (.if_icmp .lt 9, 3) := by decide +kernel
theorem d1_24 : decode prog_315_method_5_code 24 = .ok (.iload_n 0, 1) := by decide +kernel
theorem d1_25 : decode prog_315_method_5_code 25 = .ok (.ldc 7, 2) := by decide +kernel
theorem d1_27 : decode prog_315_method_5_code 27 = .ok (.if_icmp .le 27, 3) := by decide +kernel
theorem d1_30 : decode prog_315_method_5_code 30 = .ok (.iload_n 0, 1) := by decide +kernel
theorem d1_31 : decode prog_315_method_5_code 31 = .ok (.ldc 20, 2) := by decide +kernel
theorem d1_33 : decode prog_315_method_5_code 33 = .ok (.if_icmp .lt 9, 3) := by decide +kernel
theorem d1_36 : decode prog_315_method_5_code 36 = .ok (.iload_n 0, 1) := by decide +kernel
theorem d1_37 : decode prog_315_method_5_code 37 = .ok (.ldc 11, 2) := by decide +kernel
theorem d1_39 : decode prog_315_method_5_code 39 = .ok (.if_icmp .le 15, 3) := by decide +kernel
theorem d1_42 : decode prog_315_method_5_code 42 = .ok (.iload_n 0, 1) := by decide +kernel
theorem d1_43 : decode prog_315_method_5_code 43 = .ok (.ldc 12, 2) := by decide +kernel
theorem d1_45 : decode prog_315_method_5_code 45 = .ok (.if_icmp .lt 13, 3) := by decide +kernel
theorem d1_48 : decode prog_315_method_5_code 48 = .ok (.iload_n 0, 1) := by decide +kernel
theorem d1_49 : decode prog_315_method_5_code 49 = .ok (.ldc 21, 2) := by decide +kernel
theorem d1_51 : decode prog_315_method_5_code 51 = .ok (.if_icmp .gt 7, 3) := by decide +kernel
theorem d1_54 : decode prog_315_method_5_code 54 = .ok (.iconst 1, 1) := by decide +kernel
theorem d1_55 : decode prog_315_method_5_code 55 = .ok (.goto 4, 3) := by decide +kernel
theorem d1_58 : decode prog_315_method_5_code 58 = .ok (.iconst 0, 1) := by decide +kernel
theorem d1_59 : decode prog_315_method_5_code 59 = .ok (.ireturn, 1) := by decide +kernel
theorem own_pn1 : plainName "com/example/hollow_tree/hollowtree/xml/XmlChars" = true := by first | (simp [plainName, overriddenIn]; done) | decide +kernel
theorem own_ef1 (m : MethodId) (x0 : Int32) : entryFrame m #[(.int x0)] 1 = mkF m 0 #[.val (.int x0)] [] := by first | (simp [entryFrame, mkF, argsToLocals, Value.category]; done) | rfl
def own_f1_59 (v0 : Int32) (t0 : Int32) : Int32 := nar .boolean t0
def own_f1_58 (v0 : Int32) : Int32 := own_f1_59 v0 (0 : Int32)
def own_f1_54 (v0 : Int32) : Int32 := own_f1_59 v0 (1 : Int32)
def own_f1_42 (v0 : Int32) : Int32 := (if v0 < (65536 : Int32) then own_f1_58 v0 else (if (1114111 : Int32) < v0 then own_f1_58 v0 else own_f1_54 v0))
def own_f1_30 (v0 : Int32) : Int32 := (if v0 < (57344 : Int32) then own_f1_42 v0 else (if (65533 : Int32) < v0 then own_f1_42 v0 else own_f1_54 v0))
def own_f1_0 (p1 : Int32) : Int32 := (if p1 = (9 : Int32) then own_f1_54 p1 else (if p1 = (10 : Int32) then own_f1_54 p1 else (if p1 = (13 : Int32) then own_f1_54 p1 else (if p1 < (32 : Int32) then own_f1_30 p1 else (if (55295 : Int32) < p1 then own_f1_30 p1 else own_f1_54 p1)))))
def Q1 (Z : State) (p1 : Int32) (h0 : Heap) (n0 : Nat) (v : Option Value) (h : Heap) (L : List Loc) : Prop := v = some (.int (own_f1_0 p1)) ∧ Fr n0 L ∧ h = h0
set_option maxRecDepth 65536 in
set_option maxHeartbeats 40000000 in
theorem rm1 (l : Launch) (Z : State) (a0 : Array Value) (hw : ∀ d ∈ tables_1, d.before a0 Z = true) (ws : List Jvm.Cond) (p1 : Int32) (h0 : Heap) (n0 : Nat) (Z0 : n0 ≤ h0.size)  :
    MetFree l (⟨"com/example/hollow_tree/hollowtree/xml/XmlChars", "isXmlChar", "(I)Z"⟩ : MethodName) (head1 (Jvm.Cond.code (⟨"com/example/hollow_tree/hollowtree/xml/XmlChars", "isXmlChar", "(I)Z"⟩ : MethodName) prog_315_method_5_code 1 (some .boolean) :: ws) ({ frames := 0, cells := 0, slots := 0, locals := 0 } : Room)) (fun a U => a = #[(.int p1)] ∧ Z.Warmed39 U.vm ∧ U.heap = h0) (fun _ _ _ _ _ => True) (fun _ U o U' => ∃ v L, o = .returned v ∧ Q1 Z p1 h0 n0 v U'.heap L ∧ FrameEnd U o U' L ({ frames := 0, cells := 0, slots := 0, locals := 0 } : Room).cells ({ frames := 0, cells := 0, slots := 0, locals := 0 } : Room).slots) := by
  refine MetFree.of_bodySF (plainFor_of_name own_pn1) hisR ?_
  intro p e s m args below meth c s₁ Bd hml0 hP hK
  obtain ⟨rfl, hZ, hh⟩ := hP
  have hx := Bd.exec
  have hby := Bd.bytes
  have hml : c.maxLocals = 1 := hml0
  have hown : s.vm.findClass "com/example/hollow_tree/hollowtree/xml/XmlChars" = some m.cls := findClass_of_methodNamed Bd.named
  have hnm := (name_of_methodNamed Bd.named Bd.method).1
  have hlk := Bd.notSynchronized
  have X0 : Stand p l e ({ frames := 0, cells := 0, slots := 0, locals := 0 } : Room) s m #[(.int p1)] below meth c s₁ [] 0 0 := Stand.of_body Bd
  have e0 : s₁.heap = h0 := by rw [← hh, Bd.state]; rfl
  have N0 := Fr.nil n0
  show own_Goes p e below (fun o U' => ∃ v L, o = .returned v ∧ Q1 Z p1 h0 n0 v U'.heap L ∧ FrameEnd s o U' L ({ frames := 0, cells := 0, slots := 0, locals := 0 } : Room).cells ({ frames := 0, cells := 0, slots := 0, locals := 0 } : Room).slots) s₁ (entryFrame m #[(.int p1)] 1)
  refine own_st (T' := s₁) (g' := mkF m 0 #[.val (.int p1)] []) (fun _ k => castTop (own_ef1 m p1) k) ?_
  have b59 : ∀ (T : State) (Lc : List Loc) (X : Stand p l e ({ frames := 0, cells := 0, slots := 0, locals := 0 } : Room) s m #[(.int p1)] below meth c T Lc 0 0) (eT : T.heap = h0) (NL : Fr n0 Lc) (v0 : Int32) (t0 : Int32), own_f1_0 p1 = own_f1_59 v0 t0 → own_Goes p e below (fun o U' => ∃ v L, o = .returned v ∧ Q1 Z p1 h0 n0 v U'.heap L ∧ FrameEnd s o U' L ({ frames := 0, cells := 0, slots := 0, locals := 0 } : Room).cells ({ frames := 0, cells := 0, slots := 0, locals := 0 } : Room).slots) T (mkF m 59 #[.val (.int v0)] [(.int t0)]) := by
    intro T Lc X eT NL v0 t0 hf
    exact own_end (Q := Q1 Z p1 h0 n0) (v := some (.int (nar .boolean t0))) X (fun h => by rw [Bd.returns] at h; cases h) (fun fs hr => retN X hx (t := .boolean) Bd.returns (by simp) (hb hby d1_59) hr) (⟨congrArg (fun z => some (Value.int z)) hf.symm, NL, eT⟩) (by decide) (by decide)
  have b58 : ∀ (T : State) (Lc : List Loc) (X : Stand p l e ({ frames := 0, cells := 0, slots := 0, locals := 0 } : Room) s m #[(.int p1)] below meth c T Lc 0 0) (eT : T.heap = h0) (NL : Fr n0 Lc) (v0 : Int32), own_f1_0 p1 = own_f1_58 v0 → own_Goes p e below (fun o U' => ∃ v L, o = .returned v ∧ Q1 Z p1 h0 n0 v U'.heap L ∧ FrameEnd s o U' L ({ frames := 0, cells := 0, slots := 0, locals := 0 } : Room).cells ({ frames := 0, cells := 0, slots := 0, locals := 0 } : Room).slots) T (mkF m 58 #[.val (.int v0)] []) := by
    intro T Lc X eT NL v0 hf
    refine own_st (T' := T) (g' := (mkF m 59 #[.val (.int v0)] [(.int (0 : Int32))])) (fun _ k => XS.iconst (g := (mkF m 58 #[.val (.int v0)] [])) X.here hx rfl (hb hby d1_58) k) ?_
    exact b59 T _ X eT NL  v0 (0 : Int32) hf
  have b54 : ∀ (T : State) (Lc : List Loc) (X : Stand p l e ({ frames := 0, cells := 0, slots := 0, locals := 0 } : Room) s m #[(.int p1)] below meth c T Lc 0 0) (eT : T.heap = h0) (NL : Fr n0 Lc) (v0 : Int32), own_f1_0 p1 = own_f1_54 v0 → own_Goes p e below (fun o U' => ∃ v L, o = .returned v ∧ Q1 Z p1 h0 n0 v U'.heap L ∧ FrameEnd s o U' L ({ frames := 0, cells := 0, slots := 0, locals := 0 } : Room).cells ({ frames := 0, cells := 0, slots := 0, locals := 0 } : Room).slots) T (mkF m 54 #[.val (.int v0)] []) := by
    intro T Lc X eT NL v0 hf
    refine own_st (T' := T) (g' := (mkF m 55 #[.val (.int v0)] [(.int (1 : Int32))])) (fun _ k => XS.iconst (g := (mkF m 54 #[.val (.int v0)] [])) X.here hx rfl (hb hby d1_54) k) ?_
    refine own_st (T' := T) (g' := (mkF m 59 #[.val (.int v0)] [(.int (1 : Int32))])) (fun _ k => XS.goto (g := (mkF m 55 #[.val (.int v0)] [(.int (1 : Int32))])) X.here hx rfl (pc0 := 55) (pc' := 59) rfl (hb hby d1_55) (by decide) (by decide) k) ?_
    exact b59 T _ X eT NL  v0 (1 : Int32) hf
  have b42 : ∀ (T : State) (Lc : List Loc) (X : Stand p l e ({ frames := 0, cells := 0, slots := 0, locals := 0 } : Room) s m #[(.int p1)] below meth c T Lc 0 0) (eT : T.heap = h0) (NL : Fr n0 Lc) (v0 : Int32), own_f1_0 p1 = own_f1_42 v0 → own_Goes p e below (fun o U' => ∃ v L, o = .returned v ∧ Q1 Z p1 h0 n0 v U'.heap L ∧ FrameEnd s o U' L ({ frames := 0, cells := 0, slots := 0, locals := 0 } : Room).cells ({ frames := 0, cells := 0, slots := 0, locals := 0 } : Room).slots) T (mkF m 42 #[.val (.int v0)] []) := by
    intro T Lc X eT NL v0 hf
    refine own_st (T' := T) (g' := (mkF m 43 #[.val (.int v0)] [(.int v0)])) (fun _ k => Jvm.Free.XS.iloadN (g := (mkF m 42 #[.val (.int v0)] [])) X.here hx rfl (hb hby d1_42) rfl k) ?_
    refine own_st (T' := T) (g' := (mkF m 45 #[.val (.int v0)] [(.int (65536 : Int32)), (.int v0)])) (fun _ k => (X.ldcInt hx hown (mvT hZ (hw _ (List.mem_of_getElem? (i := 18) rfl))) (g := (mkF m 43 #[.val (.int v0)] [(.int v0)])) rfl (hb hby d1_43)) _ k) ?_
    by_cases hc45 : v0 < (65536 : Int32)
    · have hf := hf.trans (if_pos hc45)
      refine own_st (T' := T) (g' := (mkF m 58 #[.val (.int v0)] [])) (fun _ k => XS.icmpYes (g := (mkF m 45 #[.val (.int v0)] [(.int (65536 : Int32)), (.int v0)])) X.here hx rfl (pc0 := 45) (pc' := 58) rfl (hb hby d1_45) rfl (tlt hc45).1 (by decide) (by decide) k) ?_
      exact b58 T _ X eT NL  v0 hf
    · have hf := hf.trans (if_neg hc45)
      refine own_st (T' := T) (g' := (mkF m 48 #[.val (.int v0)] [])) (fun _ k => XS.icmpNo (g := (mkF m 45 #[.val (.int v0)] [(.int (65536 : Int32)), (.int v0)])) X.here hx rfl (hb hby d1_45) rfl (flt hc45).1 k) ?_
      refine own_st (T' := T) (g' := (mkF m 49 #[.val (.int v0)] [(.int v0)])) (fun _ k => Jvm.Free.XS.iloadN (g := (mkF m 48 #[.val (.int v0)] [])) X.here hx rfl (hb hby d1_48) rfl k) ?_
      refine own_st (T' := T) (g' := (mkF m 51 #[.val (.int v0)] [(.int (1114111 : Int32)), (.int v0)])) (fun _ k => (X.ldcInt hx hown (mvT hZ (hw _ (List.mem_of_getElem? (i := 25) rfl))) (g := (mkF m 49 #[.val (.int v0)] [(.int v0)])) rfl (hb hby d1_49)) _ k) ?_
      by_cases hc51 : (1114111 : Int32) < v0
      · have hf := hf.trans (if_pos hc51)
        refine own_st (T' := T) (g' := (mkF m 58 #[.val (.int v0)] [])) (fun _ k => XS.icmpYes (g := (mkF m 51 #[.val (.int v0)] [(.int (1114111 : Int32)), (.int v0)])) X.here hx rfl (pc0 := 51) (pc' := 58) rfl (hb hby d1_51) rfl (tlt hc51).2.2.1 (by decide) (by decide) k) ?_
        exact b58 T _ X eT NL  v0 hf
      · have hf := hf.trans (if_neg hc51)
        refine own_st (T' := T) (g' := (mkF m 54 #[.val (.int v0)] [])) (fun _ k => XS.icmpNo (g := (mkF m 51 #[.val (.int v0)] [(.int (1114111 : Int32)), (.int v0)])) X.here hx rfl (hb hby d1_51) rfl (flt hc51).2.2.1 k) ?_
        exact b54 T _ X eT NL  v0 hf
  have b30 : ∀ (T : State) (Lc : List Loc) (X : Stand p l e ({ frames := 0, cells := 0, slots := 0, locals := 0 } : Room) s m #[(.int p1)] below meth c T Lc 0 0) (eT : T.heap = h0) (NL : Fr n0 Lc) (v0 : Int32), own_f1_0 p1 = own_f1_30 v0 → own_Goes p e below (fun o U' => ∃ v L, o = .returned v ∧ Q1 Z p1 h0 n0 v U'.heap L ∧ FrameEnd s o U' L ({ frames := 0, cells := 0, slots := 0, locals := 0 } : Room).cells ({ frames := 0, cells := 0, slots := 0, locals := 0 } : Room).slots) T (mkF m 30 #[.val (.int v0)] []) := by
    intro T Lc X eT NL v0 hf
    refine own_st (T' := T) (g' := (mkF m 31 #[.val (.int v0)] [(.int v0)])) (fun _ k => Jvm.Free.XS.iloadN (g := (mkF m 30 #[.val (.int v0)] [])) X.here hx rfl (hb hby d1_30) rfl k) ?_
    refine own_st (T' := T) (g' := (mkF m 33 #[.val (.int v0)] [(.int (57344 : Int32)), (.int v0)])) (fun _ k => (X.ldcInt hx hown (mvT hZ (hw _ (List.mem_of_getElem? (i := 17) rfl))) (g := (mkF m 31 #[.val (.int v0)] [(.int v0)])) rfl (hb hby d1_31)) _ k) ?_
    by_cases hc33 : v0 < (57344 : Int32)
    · have hf := hf.trans (if_pos hc33)
      refine own_st (T' := T) (g' := (mkF m 42 #[.val (.int v0)] [])) (fun _ k => XS.icmpYes (g := (mkF m 33 #[.val (.int v0)] [(.int (57344 : Int32)), (.int v0)])) X.here hx rfl (pc0 := 33) (pc' := 42) rfl (hb hby d1_33) rfl (tlt hc33).1 (by decide) (by decide) k) ?_
      exact b42 T _ X eT NL  v0 hf
    · have hf := hf.trans (if_neg hc33)
      refine own_st (T' := T) (g' := (mkF m 36 #[.val (.int v0)] [])) (fun _ k => XS.icmpNo (g := (mkF m 33 #[.val (.int v0)] [(.int (57344 : Int32)), (.int v0)])) X.here hx rfl (hb hby d1_33) rfl (flt hc33).1 k) ?_
      refine own_st (T' := T) (g' := (mkF m 37 #[.val (.int v0)] [(.int v0)])) (fun _ k => Jvm.Free.XS.iloadN (g := (mkF m 36 #[.val (.int v0)] [])) X.here hx rfl (hb hby d1_36) rfl k) ?_
      refine own_st (T' := T) (g' := (mkF m 39 #[.val (.int v0)] [(.int (65533 : Int32)), (.int v0)])) (fun _ k => (X.ldcInt hx hown (mvT hZ (hw _ (List.mem_of_getElem? (i := 24) rfl))) (g := (mkF m 37 #[.val (.int v0)] [(.int v0)])) rfl (hb hby d1_37)) _ k) ?_
      by_cases hc39 : (65533 : Int32) < v0
      · have hf := hf.trans (if_pos hc39)
        refine own_st (T' := T) (g' := (mkF m 42 #[.val (.int v0)] [])) (fun _ k => XS.icmpNo (g := (mkF m 39 #[.val (.int v0)] [(.int (65533 : Int32)), (.int v0)])) X.here hx rfl (hb hby d1_39) rfl (tlt hc39).2.2.2 k) ?_
        exact b42 T _ X eT NL  v0 hf
      · have hf := hf.trans (if_neg hc39)
        refine own_st (T' := T) (g' := (mkF m 54 #[.val (.int v0)] [])) (fun _ k => XS.icmpYes (g := (mkF m 39 #[.val (.int v0)] [(.int (65533 : Int32)), (.int v0)])) X.here hx rfl (pc0 := 39) (pc' := 54) rfl (hb hby d1_39) rfl (flt hc39).2.2.2 (by decide) (by decide) k) ?_
        exact b54 T _ X eT NL  v0 hf
  have hf : own_f1_0 p1 = own_f1_0 p1 := rfl
  refine own_st (T' := s₁) (g' := (mkF m 1 #[.val (.int p1)] [(.int p1)])) (fun _ k => Jvm.Free.XS.iloadN (g := (mkF m 0 #[.val (.int p1)] [])) X0.here hx rfl (hb hby d1_0) rfl k) ?_
  refine own_st (T' := s₁) (g' := (mkF m 3 #[.val (.int p1)] [(.int (9 : Int32)), (.int p1)])) (fun _ k => XS.bipush (g := (mkF m 1 #[.val (.int p1)] [(.int p1)])) X0.here hx rfl (hb hby d1_1) k) ?_
  by_cases hc3 : p1 = (9 : Int32)
  · have hf := hf.trans (if_pos hc3)
    refine own_st (T' := s₁) (g' := (mkF m 54 #[.val (.int p1)] [])) (fun _ k => XS.icmpYes (g := (mkF m 3 #[.val (.int p1)] [(.int (9 : Int32)), (.int p1)])) X0.here hx rfl (pc0 := 3) (pc' := 54) rfl (hb hby d1_3) rfl (teq hc3).1 (by decide) (by decide) k) ?_
    exact b54 s₁ _ X0 e0 N0  p1 hf
  · have hf := hf.trans (if_neg hc3)
    refine own_st (T' := s₁) (g' := (mkF m 6 #[.val (.int p1)] [])) (fun _ k => XS.icmpNo (g := (mkF m 3 #[.val (.int p1)] [(.int (9 : Int32)), (.int p1)])) X0.here hx rfl (hb hby d1_3) rfl (feq hc3).1 k) ?_
    refine own_st (T' := s₁) (g' := (mkF m 7 #[.val (.int p1)] [(.int p1)])) (fun _ k => Jvm.Free.XS.iloadN (g := (mkF m 6 #[.val (.int p1)] [])) X0.here hx rfl (hb hby d1_6) rfl k) ?_
    refine own_st (T' := s₁) (g' := (mkF m 9 #[.val (.int p1)] [(.int (10 : Int32)), (.int p1)])) (fun _ k => XS.bipush (g := (mkF m 7 #[.val (.int p1)] [(.int p1)])) X0.here hx rfl (hb hby d1_7) k) ?_
    by_cases hc9 : p1 = (10 : Int32)
    · have hf := hf.trans (if_pos hc9)
      refine own_st (T' := s₁) (g' := (mkF m 54 #[.val (.int p1)] [])) (fun _ k => XS.icmpYes (g := (mkF m 9 #[.val (.int p1)] [(.int (10 : Int32)), (.int p1)])) X0.here hx rfl (pc0 := 9) (pc' := 54) rfl (hb hby d1_9) rfl (teq hc9).1 (by decide) (by decide) k) ?_
      exact b54 s₁ _ X0 e0 N0  p1 hf
    · have hf := hf.trans (if_neg hc9)
      refine own_st (T' := s₁) (g' := (mkF m 12 #[.val (.int p1)] [])) (fun _ k => XS.icmpNo (g := (mkF m 9 #[.val (.int p1)] [(.int (10 : Int32)), (.int p1)])) X0.here hx rfl (hb hby d1_9) rfl (feq hc9).1 k) ?_
      refine own_st (T' := s₁) (g' := (mkF m 13 #[.val (.int p1)] [(.int p1)])) (fun _ k => Jvm.Free.XS.iloadN (g := (mkF m 12 #[.val (.int p1)] [])) X0.here hx rfl (hb hby d1_12) rfl k) ?_
      refine own_st (T' := s₁) (g' := (mkF m 15 #[.val (.int p1)] [(.int (13 : Int32)), (.int p1)])) (fun _ k => XS.bipush (g := (mkF m 13 #[.val (.int p1)] [(.int p1)])) X0.here hx rfl (hb hby d1_13) k) ?_
      by_cases hc15 : p1 = (13 : Int32)
      · have hf := hf.trans (if_pos hc15)
        refine own_st (T' := s₁) (g' := (mkF m 54 #[.val (.int p1)] [])) (fun _ k => XS.icmpYes (g := (mkF m 15 #[.val (.int p1)] [(.int (13 : Int32)), (.int p1)])) X0.here hx rfl (pc0 := 15) (pc' := 54) rfl (hb hby d1_15) rfl (teq hc15).1 (by decide) (by decide) k) ?_
        exact b54 s₁ _ X0 e0 N0  p1 hf
      · have hf := hf.trans (if_neg hc15)
        refine own_st (T' := s₁) (g' := (mkF m 18 #[.val (.int p1)] [])) (fun _ k => XS.icmpNo (g := (mkF m 15 #[.val (.int p1)] [(.int (13 : Int32)), (.int p1)])) X0.here hx rfl (hb hby d1_15) rfl (feq hc15).1 k) ?_
        refine own_st (T' := s₁) (g' := (mkF m 19 #[.val (.int p1)] [(.int p1)])) (fun _ k => Jvm.Free.XS.iloadN (g := (mkF m 18 #[.val (.int p1)] [])) X0.here hx rfl (hb hby d1_18) rfl k) ?_
        refine own_st (T' := s₁) (g' := (mkF m 21 #[.val (.int p1)] [(.int (32 : Int32)), (.int p1)])) (fun _ k => XS.bipush (g := (mkF m 19 #[.val (.int p1)] [(.int p1)])) X0.here hx rfl (hb hby d1_19) k) ?_
        by_cases hc21 : p1 < (32 : Int32)
        · have hf := hf.trans (if_pos hc21)
          refine own_st (T' := s₁) (g' := (mkF m 30 #[.val (.int p1)] [])) (fun _ k => XS.icmpYes (g := (mkF m 21 #[.val (.int p1)] [(.int (32 : Int32)), (.int p1)])) X0.here hx rfl (pc0 := 21) (pc' := 30) rfl (hb hby d1_21) rfl (tlt hc21).1 (by decide) (by decide) k) ?_
          exact b30 s₁ _ X0 e0 N0  p1 hf
        · have hf := hf.trans (if_neg hc21)
          refine own_st (T' := s₁) (g' := (mkF m 24 #[.val (.int p1)] [])) (fun _ k => XS.icmpNo (g := (mkF m 21 #[.val (.int p1)] [(.int (32 : Int32)), (.int p1)])) X0.here hx rfl (hb hby d1_21) rfl (flt hc21).1 k) ?_
          refine own_st (T' := s₁) (g' := (mkF m 25 #[.val (.int p1)] [(.int p1)])) (fun _ k => Jvm.Free.XS.iloadN (g := (mkF m 24 #[.val (.int p1)] [])) X0.here hx rfl (hb hby d1_24) rfl k) ?_
          refine own_st (T' := s₁) (g' := (mkF m 27 #[.val (.int p1)] [(.int (55295 : Int32)), (.int p1)])) (fun _ k => (X0.ldcInt hx hown (mvT hZ (hw _ (List.mem_of_getElem? (i := 23) rfl))) (g := (mkF m 25 #[.val (.int p1)] [(.int p1)])) rfl (hb hby d1_25)) _ k) ?_
          by_cases hc27 : (55295 : Int32) < p1
          · have hf := hf.trans (if_pos hc27)
            refine own_st (T' := s₁) (g' := (mkF m 30 #[.val (.int p1)] [])) (fun _ k => XS.icmpNo (g := (mkF m 27 #[.val (.int p1)] [(.int (55295 : Int32)), (.int p1)])) X0.here hx rfl (hb hby d1_27) rfl (tlt hc27).2.2.2 k) ?_
            exact b30 s₁ _ X0 e0 N0  p1 hf
          · have hf := hf.trans (if_neg hc27)
            refine own_st (T' := s₁) (g' := (mkF m 54 #[.val (.int p1)] [])) (fun _ k => XS.icmpYes (g := (mkF m 27 #[.val (.int p1)] [(.int (55295 : Int32)), (.int p1)])) X0.here hx rfl (pc0 := 27) (pc' := 54) rfl (hb hby d1_27) rfl (flt hc27).2.2.2 (by decide) (by decide) k) ?_
            exact b54 s₁ _ X0 e0 N0  p1 hf
theorem d2_0 : decode method_2_code 0 = .ok (.iload_n 0, 1) := by decide +kernel
theorem d2_1 : decode method_2_code 1 = .ok (.ifCond .lt 9, 3) := by decide +kernel
theorem d2_4 : decode method_2_code 4 = .ok (.iload_n 0, 1) := by decide +kernel
theorem d2_5 : decode method_2_code 5 = .ok (.ldc 7, 2) := by decide +kernel
theorem d2_7 : decode method_2_code 7 = .ok (.if_icmp .le 5, 3) := by decide +kernel
theorem d2_10 : decode method_2_code 10 = .ok (.iconst 0, 1) := by decide +kernel
theorem d2_11 : decode method_2_code 11 = .ok (.ireturn, 1) := by decide +kernel
theorem d2_12 : decode method_2_code 12 = .ok (.iload_n 0, 1) := by decide +kernel
theorem d2_13 : decode method_2_code 13 = .ok (.bipush 32, 2) := by decide +kernel
theorem d2_15 : decode method_2_code 15 = .ok (.if_icmp .ge 27, 3) := by decide +kernel
theorem d2_18 : decode method_2_code 18 = .ok (.iload_n 0, 1) := by decide +kernel
theorem d2_19 : decode method_2_code 19 = .ok (.bipush 9, 2) := by decide +kernel
theorem d2_21 : decode method_2_code 21 = .ok (.if_icmp .eq 15, 3) := by decide +kernel
theorem d2_24 : decode method_2_code 24 = .ok (.iload_n 0, 1) := by decide +kernel
theorem d2_25 : decode method_2_code 25 = .ok (.bipush 10, 2) := by decide +kernel
theorem d2_27 : decode method_2_code 27 = .ok (.if_icmp .eq 9, 3) := by decide +kernel
theorem d2_30 : decode method_2_code 30 = .ok (.iload_n 0, 1) := by decide +kernel
theorem d2_31 : decode method_2_code 31 = .ok (.bipush 13, 2) := by decide +kernel
theorem d2_33 : decode method_2_code 33 = .ok (.if_icmp .ne 7, 3) := by decide +kernel
theorem d2_36 : decode method_2_code 36 = .ok (.iconst 1, 1) := by decide +kernel
theorem d2_37 : decode method_2_code 37 = .ok (.goto 4, 3) := by decide +kernel
theorem d2_40 : decode method_2_code 40 = .ok (.iconst 0, 1) := by decide +kernel
theorem d2_41 : decode method_2_code 41 = .ok (.ireturn, 1) := by decide +kernel
theorem d2_42 : decode method_2_code 42 = .ok (.iload_n 0, 1) := by decide +kernel
theorem d2_43 : decode method_2_code 43 = .ok (.ldc 8, 2) := by decide +kernel
theorem d2_45 : decode method_2_code 45 = .ok (.if_icmp .lt 11, 3) := by decide +kernel
theorem d2_48 : decode method_2_code 48 = .ok (.iload_n 0, 1) := by decide +kernel
theorem d2_49 : decode method_2_code 49 = .ok (.ldc 9, 2) := by decide +kernel
theorem d2_51 : decode method_2_code 51 = .ok (.if_icmp .gt 5, 3) := by decide +kernel
theorem d2_54 : decode method_2_code 54 = .ok (.iconst 0, 1) := by decide +kernel
theorem d2_55 : decode method_2_code 55 = .ok (.ireturn, 1) := by decide +kernel
theorem d2_56 : decode method_2_code 56 = .ok (.iload_n 0, 1) := by decide +kernel
theorem d2_57 : decode method_2_code 57 = .ok (.ldc 10, 2) := by decide +kernel
theorem d2_59 : decode method_2_code 59 = .ok (.if_icmp .eq 9, 3) := by decide +kernel
theorem d2_62 : decode method_2_code 62 = .ok (.iload_n 0, 1) := by decide +kernel
theorem d2_63 : decode method_2_code 63 = .ok (.ldc 11, 2) := by decide +kernel
theorem d2_65 : decode method_2_code 65 = .ok (.if_icmp .ne 5, 3) := by decide +kernel
theorem d2_68 : decode method_2_code 68 = .ok (.iconst 0, 1) := by decide +kernel
theorem d2_69 : decode method_2_code 69 = .ok (.ireturn, 1) := by decide +kernel
theorem d2_70 : decode method_2_code 70 = .ok (.iconst 1, 1) := by decide +kernel
theorem d2_71 : decode method_2_code 71 = .ok (.ireturn, 1) := by decide +kernel
theorem own_pn2 : plainName "com/example/hollow_tree/hollowtree/xml/XmlCharsIsXmlCharPinLaw" = true := by first | (simp [plainName, overriddenIn]; done) | decide +kernel
theorem own_ef2 (m : MethodId) (x0 : Int32) : entryFrame m #[(.int x0)] 1 = mkF m 0 #[.val (.int x0)] [] := by first | (simp [entryFrame, mkF, argsToLocals, Value.category]; done) | rfl
def own_f2_68 (v0 : Int32) : Int32 := (0 : Int32)
def own_f2_56 (v0 : Int32) : Int32 := (if v0 = (65534 : Int32) then own_f2_68 v0 else (if v0 = (65535 : Int32) then own_f2_68 v0 else (1 : Int32)))
def own_f2_41 (v0 : Int32) (t0 : Int32) : Int32 := nar .boolean t0
def own_f2_36 (v0 : Int32) : Int32 := own_f2_41 v0 (1 : Int32)
def own_f2_10 (v0 : Int32) : Int32 := (0 : Int32)
def own_f2_0 (p1 : Int32) : Int32 := (if p1 < (0 : Int32) then own_f2_10 p1 else (if (1114111 : Int32) < p1 then own_f2_10 p1 else (if p1 < (32 : Int32) then (if p1 = (9 : Int32) then own_f2_36 p1 else (if p1 = (10 : Int32) then own_f2_36 p1 else (if p1 = (13 : Int32) then own_f2_36 p1 else own_f2_41 p1 (0 : Int32)))) else (if p1 < (55296 : Int32) then own_f2_56 p1 else (if (57343 : Int32) < p1 then own_f2_56 p1 else (0 : Int32))))))
def Q2 (Z : State) (p1 : Int32) (h0 : Heap) (n0 : Nat) (v : Option Value) (h : Heap) (L : List Loc) : Prop := v = some (.int (own_f2_0 p1)) ∧ Fr n0 L ∧ h = h0
set_option maxRecDepth 65536 in
set_option maxHeartbeats 40000000 in
theorem rm2 (l : Launch) (Z : State) (a0 : Array Value) (hw : ∀ d ∈ tables_1, d.before a0 Z = true) (ws : List Jvm.Cond) (p1 : Int32) (h0 : Heap) (n0 : Nat) (Z0 : n0 ≤ h0.size)  :
    MetFree l (⟨"com/example/hollow_tree/hollowtree/xml/XmlCharsIsXmlCharPinLaw", "ref", "(I)Z"⟩ : MethodName) (head1 (Jvm.Cond.code (⟨"com/example/hollow_tree/hollowtree/xml/XmlCharsIsXmlCharPinLaw", "ref", "(I)Z"⟩ : MethodName) method_2_code 1 (some .boolean) :: ws) ({ frames := 0, cells := 0, slots := 0, locals := 0 } : Room)) (fun a U => a = #[(.int p1)] ∧ Z.Warmed39 U.vm ∧ U.heap = h0) (fun _ _ _ _ _ => True) (fun _ U o U' => ∃ v L, o = .returned v ∧ Q2 Z p1 h0 n0 v U'.heap L ∧ FrameEnd U o U' L ({ frames := 0, cells := 0, slots := 0, locals := 0 } : Room).cells ({ frames := 0, cells := 0, slots := 0, locals := 0 } : Room).slots) := by
  refine MetFree.of_bodySF (plainFor_of_name own_pn2) hisR ?_
  intro p e s m args below meth c s₁ Bd hml0 hP hK
  obtain ⟨rfl, hZ, hh⟩ := hP
  have hx := Bd.exec
  have hby := Bd.bytes
  have hml : c.maxLocals = 1 := hml0
  have hown : s.vm.findClass "com/example/hollow_tree/hollowtree/xml/XmlCharsIsXmlCharPinLaw" = some m.cls := findClass_of_methodNamed Bd.named
  have hnm := (name_of_methodNamed Bd.named Bd.method).1
  have hlk := Bd.notSynchronized
  have X0 : Stand p l e ({ frames := 0, cells := 0, slots := 0, locals := 0 } : Room) s m #[(.int p1)] below meth c s₁ [] 0 0 := Stand.of_body Bd
  have e0 : s₁.heap = h0 := by rw [← hh, Bd.state]; rfl
  have N0 := Fr.nil n0
  show own_Goes p e below (fun o U' => ∃ v L, o = .returned v ∧ Q2 Z p1 h0 n0 v U'.heap L ∧ FrameEnd s o U' L ({ frames := 0, cells := 0, slots := 0, locals := 0 } : Room).cells ({ frames := 0, cells := 0, slots := 0, locals := 0 } : Room).slots) s₁ (entryFrame m #[(.int p1)] 1)
  refine own_st (T' := s₁) (g' := mkF m 0 #[.val (.int p1)] []) (fun _ k => castTop (own_ef2 m p1) k) ?_
  have b68 : ∀ (T : State) (Lc : List Loc) (X : Stand p l e ({ frames := 0, cells := 0, slots := 0, locals := 0 } : Room) s m #[(.int p1)] below meth c T Lc 0 0) (eT : T.heap = h0) (NL : Fr n0 Lc) (v0 : Int32), own_f2_0 p1 = own_f2_68 v0 → own_Goes p e below (fun o U' => ∃ v L, o = .returned v ∧ Q2 Z p1 h0 n0 v U'.heap L ∧ FrameEnd s o U' L ({ frames := 0, cells := 0, slots := 0, locals := 0 } : Room).cells ({ frames := 0, cells := 0, slots := 0, locals := 0 } : Room).slots) T (mkF m 68 #[.val (.int v0)] []) := by
    intro T Lc X eT NL v0 hf
    refine own_st (T' := T) (g' := (mkF m 69 #[.val (.int v0)] [(.int (0 : Int32))])) (fun _ k => XS.iconst (g := (mkF m 68 #[.val (.int v0)] [])) X.here hx rfl (hb hby d2_68) k) ?_
    exact own_end (Q := Q2 Z p1 h0 n0) (v := some (.int (nar .boolean (0 : Int32)))) X (fun h => by rw [Bd.returns] at h; cases h) (fun fs hr => retN X hx (t := .boolean) Bd.returns (by simp) (hb hby d2_69) hr) (⟨congrArg (fun z => some (Value.int z)) hf.symm, NL, eT⟩) (by decide) (by decide)
  have b56 : ∀ (T : State) (Lc : List Loc) (X : Stand p l e ({ frames := 0, cells := 0, slots := 0, locals := 0 } : Room) s m #[(.int p1)] below meth c T Lc 0 0) (eT : T.heap = h0) (NL : Fr n0 Lc) (v0 : Int32), own_f2_0 p1 = own_f2_56 v0 → own_Goes p e below (fun o U' => ∃ v L, o = .returned v ∧ Q2 Z p1 h0 n0 v U'.heap L ∧ FrameEnd s o U' L ({ frames := 0, cells := 0, slots := 0, locals := 0 } : Room).cells ({ frames := 0, cells := 0, slots := 0, locals := 0 } : Room).slots) T (mkF m 56 #[.val (.int v0)] []) := by
    intro T Lc X eT NL v0 hf
    refine own_st (T' := T) (g' := (mkF m 57 #[.val (.int v0)] [(.int v0)])) (fun _ k => Jvm.Free.XS.iloadN (g := (mkF m 56 #[.val (.int v0)] [])) X.here hx rfl (hb hby d2_56) rfl k) ?_
    refine own_st (T' := T) (g' := (mkF m 59 #[.val (.int v0)] [(.int (65534 : Int32)), (.int v0)])) (fun _ k => (X.ldcInt hx hown (mvT hZ (hw _ (List.mem_of_getElem? (i := 6) rfl))) (g := (mkF m 57 #[.val (.int v0)] [(.int v0)])) rfl (hb hby d2_57)) _ k) ?_
    by_cases hc59 : v0 = (65534 : Int32)
    · have hf := hf.trans (if_pos hc59)
      refine own_st (T' := T) (g' := (mkF m 68 #[.val (.int v0)] [])) (fun _ k => XS.icmpYes (g := (mkF m 59 #[.val (.int v0)] [(.int (65534 : Int32)), (.int v0)])) X.here hx rfl (pc0 := 59) (pc' := 68) rfl (hb hby d2_59) rfl (teq hc59).1 (by decide) (by decide) k) ?_
      exact b68 T _ X eT NL  v0 hf
    · have hf := hf.trans (if_neg hc59)
      refine own_st (T' := T) (g' := (mkF m 62 #[.val (.int v0)] [])) (fun _ k => XS.icmpNo (g := (mkF m 59 #[.val (.int v0)] [(.int (65534 : Int32)), (.int v0)])) X.here hx rfl (hb hby d2_59) rfl (feq hc59).1 k) ?_
      refine own_st (T' := T) (g' := (mkF m 63 #[.val (.int v0)] [(.int v0)])) (fun _ k => Jvm.Free.XS.iloadN (g := (mkF m 62 #[.val (.int v0)] [])) X.here hx rfl (hb hby d2_62) rfl k) ?_
      refine own_st (T' := T) (g' := (mkF m 65 #[.val (.int v0)] [(.int (65535 : Int32)), (.int v0)])) (fun _ k => (X.ldcInt hx hown (mvT hZ (hw _ (List.mem_of_getElem? (i := 7) rfl))) (g := (mkF m 63 #[.val (.int v0)] [(.int v0)])) rfl (hb hby d2_63)) _ k) ?_
      by_cases hc65 : v0 = (65535 : Int32)
      · have hf := hf.trans (if_pos hc65)
        refine own_st (T' := T) (g' := (mkF m 68 #[.val (.int v0)] [])) (fun _ k => XS.icmpNo (g := (mkF m 65 #[.val (.int v0)] [(.int (65535 : Int32)), (.int v0)])) X.here hx rfl (hb hby d2_65) rfl (teq hc65).2 k) ?_
        exact b68 T _ X eT NL  v0 hf
      · have hf := hf.trans (if_neg hc65)
        refine own_st (T' := T) (g' := (mkF m 70 #[.val (.int v0)] [])) (fun _ k => XS.icmpYes (g := (mkF m 65 #[.val (.int v0)] [(.int (65535 : Int32)), (.int v0)])) X.here hx rfl (pc0 := 65) (pc' := 70) rfl (hb hby d2_65) rfl (feq hc65).2 (by decide) (by decide) k) ?_
        refine own_st (T' := T) (g' := (mkF m 71 #[.val (.int v0)] [(.int (1 : Int32))])) (fun _ k => XS.iconst (g := (mkF m 70 #[.val (.int v0)] [])) X.here hx rfl (hb hby d2_70) k) ?_
        exact own_end (Q := Q2 Z p1 h0 n0) (v := some (.int (nar .boolean (1 : Int32)))) X (fun h => by rw [Bd.returns] at h; cases h) (fun fs hr => retN X hx (t := .boolean) Bd.returns (by simp) (hb hby d2_71) hr) (⟨congrArg (fun z => some (Value.int z)) hf.symm, NL, eT⟩) (by decide) (by decide)
  have b41 : ∀ (T : State) (Lc : List Loc) (X : Stand p l e ({ frames := 0, cells := 0, slots := 0, locals := 0 } : Room) s m #[(.int p1)] below meth c T Lc 0 0) (eT : T.heap = h0) (NL : Fr n0 Lc) (v0 : Int32) (t0 : Int32), own_f2_0 p1 = own_f2_41 v0 t0 → own_Goes p e below (fun o U' => ∃ v L, o = .returned v ∧ Q2 Z p1 h0 n0 v U'.heap L ∧ FrameEnd s o U' L ({ frames := 0, cells := 0, slots := 0, locals := 0 } : Room).cells ({ frames := 0, cells := 0, slots := 0, locals := 0 } : Room).slots) T (mkF m 41 #[.val (.int v0)] [(.int t0)]) := by
    intro T Lc X eT NL v0 t0 hf
    exact own_end (Q := Q2 Z p1 h0 n0) (v := some (.int (nar .boolean t0))) X (fun h => by rw [Bd.returns] at h; cases h) (fun fs hr => retN X hx (t := .boolean) Bd.returns (by simp) (hb hby d2_41) hr) (⟨congrArg (fun z => some (Value.int z)) hf.symm, NL, eT⟩) (by decide) (by decide)
  have b36 : ∀ (T : State) (Lc : List Loc) (X : Stand p l e ({ frames := 0, cells := 0, slots := 0, locals := 0 } : Room) s m #[(.int p1)] below meth c T Lc 0 0) (eT : T.heap = h0) (NL : Fr n0 Lc) (v0 : Int32), own_f2_0 p1 = own_f2_36 v0 → own_Goes p e below (fun o U' => ∃ v L, o = .returned v ∧ Q2 Z p1 h0 n0 v U'.heap L ∧ FrameEnd s o U' L ({ frames := 0, cells := 0, slots := 0, locals := 0 } : Room).cells ({ frames := 0, cells := 0, slots := 0, locals := 0 } : Room).slots) T (mkF m 36 #[.val (.int v0)] []) := by
    intro T Lc X eT NL v0 hf
    refine own_st (T' := T) (g' := (mkF m 37 #[.val (.int v0)] [(.int (1 : Int32))])) (fun _ k => XS.iconst (g := (mkF m 36 #[.val (.int v0)] [])) X.here hx rfl (hb hby d2_36) k) ?_
    refine own_st (T' := T) (g' := (mkF m 41 #[.val (.int v0)] [(.int (1 : Int32))])) (fun _ k => XS.goto (g := (mkF m 37 #[.val (.int v0)] [(.int (1 : Int32))])) X.here hx rfl (pc0 := 37) (pc' := 41) rfl (hb hby d2_37) (by decide) (by decide) k) ?_
    exact b41 T _ X eT NL  v0 (1 : Int32) hf
  have b10 : ∀ (T : State) (Lc : List Loc) (X : Stand p l e ({ frames := 0, cells := 0, slots := 0, locals := 0 } : Room) s m #[(.int p1)] below meth c T Lc 0 0) (eT : T.heap = h0) (NL : Fr n0 Lc) (v0 : Int32), own_f2_0 p1 = own_f2_10 v0 → own_Goes p e below (fun o U' => ∃ v L, o = .returned v ∧ Q2 Z p1 h0 n0 v U'.heap L ∧ FrameEnd s o U' L ({ frames := 0, cells := 0, slots := 0, locals := 0 } : Room).cells ({ frames := 0, cells := 0, slots := 0, locals := 0 } : Room).slots) T (mkF m 10 #[.val (.int v0)] []) := by
    intro T Lc X eT NL v0 hf
    refine own_st (T' := T) (g' := (mkF m 11 #[.val (.int v0)] [(.int (0 : Int32))])) (fun _ k => XS.iconst (g := (mkF m 10 #[.val (.int v0)] [])) X.here hx rfl (hb hby d2_10) k) ?_
    exact own_end (Q := Q2 Z p1 h0 n0) (v := some (.int (nar .boolean (0 : Int32)))) X (fun h => by rw [Bd.returns] at h; cases h) (fun fs hr => retN X hx (t := .boolean) Bd.returns (by simp) (hb hby d2_11) hr) (⟨congrArg (fun z => some (Value.int z)) hf.symm, NL, eT⟩) (by decide) (by decide)
  have hf : own_f2_0 p1 = own_f2_0 p1 := rfl
  refine own_st (T' := s₁) (g' := (mkF m 1 #[.val (.int p1)] [(.int p1)])) (fun _ k => Jvm.Free.XS.iloadN (g := (mkF m 0 #[.val (.int p1)] [])) X0.here hx rfl (hb hby d2_0) rfl k) ?_
  by_cases hc1 : p1 < (0 : Int32)
  · have hf := hf.trans (if_pos hc1)
    refine own_st (T' := s₁) (g' := (mkF m 10 #[.val (.int p1)] [])) (fun _ k => XS.ifYes (g := (mkF m 1 #[.val (.int p1)] [(.int p1)])) X0.here hx rfl (pc0 := 1) (pc' := 10) rfl (hb hby d2_1) rfl ((if0 _ _).trans (tlt hc1).1) (by decide) (by decide) k) ?_
    exact b10 s₁ _ X0 e0 N0  p1 hf
  · have hf := hf.trans (if_neg hc1)
    refine own_st (T' := s₁) (g' := (mkF m 4 #[.val (.int p1)] [])) (fun _ k => XS.ifNo (g := (mkF m 1 #[.val (.int p1)] [(.int p1)])) X0.here hx rfl (hb hby d2_1) rfl ((if0 _ _).trans (flt hc1).1) k) ?_
    refine own_st (T' := s₁) (g' := (mkF m 5 #[.val (.int p1)] [(.int p1)])) (fun _ k => Jvm.Free.XS.iloadN (g := (mkF m 4 #[.val (.int p1)] [])) X0.here hx rfl (hb hby d2_4) rfl k) ?_
    refine own_st (T' := s₁) (g' := (mkF m 7 #[.val (.int p1)] [(.int (1114111 : Int32)), (.int p1)])) (fun _ k => (X0.ldcInt hx hown (mvT hZ (hw _ (List.mem_of_getElem? (i := 9) rfl))) (g := (mkF m 5 #[.val (.int p1)] [(.int p1)])) rfl (hb hby d2_5)) _ k) ?_
    by_cases hc7 : (1114111 : Int32) < p1
    · have hf := hf.trans (if_pos hc7)
      refine own_st (T' := s₁) (g' := (mkF m 10 #[.val (.int p1)] [])) (fun _ k => XS.icmpNo (g := (mkF m 7 #[.val (.int p1)] [(.int (1114111 : Int32)), (.int p1)])) X0.here hx rfl (hb hby d2_7) rfl (tlt hc7).2.2.2 k) ?_
      exact b10 s₁ _ X0 e0 N0  p1 hf
    · have hf := hf.trans (if_neg hc7)
      refine own_st (T' := s₁) (g' := (mkF m 12 #[.val (.int p1)] [])) (fun _ k => XS.icmpYes (g := (mkF m 7 #[.val (.int p1)] [(.int (1114111 : Int32)), (.int p1)])) X0.here hx rfl (pc0 := 7) (pc' := 12) rfl (hb hby d2_7) rfl (flt hc7).2.2.2 (by decide) (by decide) k) ?_
      refine own_st (T' := s₁) (g' := (mkF m 13 #[.val (.int p1)] [(.int p1)])) (fun _ k => Jvm.Free.XS.iloadN (g := (mkF m 12 #[.val (.int p1)] [])) X0.here hx rfl (hb hby d2_12) rfl k) ?_
      refine own_st (T' := s₁) (g' := (mkF m 15 #[.val (.int p1)] [(.int (32 : Int32)), (.int p1)])) (fun _ k => XS.bipush (g := (mkF m 13 #[.val (.int p1)] [(.int p1)])) X0.here hx rfl (hb hby d2_13) k) ?_
      by_cases hc15 : p1 < (32 : Int32)
      · have hf := hf.trans (if_pos hc15)
        refine own_st (T' := s₁) (g' := (mkF m 18 #[.val (.int p1)] [])) (fun _ k => XS.icmpNo (g := (mkF m 15 #[.val (.int p1)] [(.int (32 : Int32)), (.int p1)])) X0.here hx rfl (hb hby d2_15) rfl (tlt hc15).2.1 k) ?_
        refine own_st (T' := s₁) (g' := (mkF m 19 #[.val (.int p1)] [(.int p1)])) (fun _ k => Jvm.Free.XS.iloadN (g := (mkF m 18 #[.val (.int p1)] [])) X0.here hx rfl (hb hby d2_18) rfl k) ?_
        refine own_st (T' := s₁) (g' := (mkF m 21 #[.val (.int p1)] [(.int (9 : Int32)), (.int p1)])) (fun _ k => XS.bipush (g := (mkF m 19 #[.val (.int p1)] [(.int p1)])) X0.here hx rfl (hb hby d2_19) k) ?_
        by_cases hc21 : p1 = (9 : Int32)
        · have hf := hf.trans (if_pos hc21)
          refine own_st (T' := s₁) (g' := (mkF m 36 #[.val (.int p1)] [])) (fun _ k => XS.icmpYes (g := (mkF m 21 #[.val (.int p1)] [(.int (9 : Int32)), (.int p1)])) X0.here hx rfl (pc0 := 21) (pc' := 36) rfl (hb hby d2_21) rfl (teq hc21).1 (by decide) (by decide) k) ?_
          exact b36 s₁ _ X0 e0 N0  p1 hf
        · have hf := hf.trans (if_neg hc21)
          refine own_st (T' := s₁) (g' := (mkF m 24 #[.val (.int p1)] [])) (fun _ k => XS.icmpNo (g := (mkF m 21 #[.val (.int p1)] [(.int (9 : Int32)), (.int p1)])) X0.here hx rfl (hb hby d2_21) rfl (feq hc21).1 k) ?_
          refine own_st (T' := s₁) (g' := (mkF m 25 #[.val (.int p1)] [(.int p1)])) (fun _ k => Jvm.Free.XS.iloadN (g := (mkF m 24 #[.val (.int p1)] [])) X0.here hx rfl (hb hby d2_24) rfl k) ?_
          refine own_st (T' := s₁) (g' := (mkF m 27 #[.val (.int p1)] [(.int (10 : Int32)), (.int p1)])) (fun _ k => XS.bipush (g := (mkF m 25 #[.val (.int p1)] [(.int p1)])) X0.here hx rfl (hb hby d2_25) k) ?_
          by_cases hc27 : p1 = (10 : Int32)
          · have hf := hf.trans (if_pos hc27)
            refine own_st (T' := s₁) (g' := (mkF m 36 #[.val (.int p1)] [])) (fun _ k => XS.icmpYes (g := (mkF m 27 #[.val (.int p1)] [(.int (10 : Int32)), (.int p1)])) X0.here hx rfl (pc0 := 27) (pc' := 36) rfl (hb hby d2_27) rfl (teq hc27).1 (by decide) (by decide) k) ?_
            exact b36 s₁ _ X0 e0 N0  p1 hf
          · have hf := hf.trans (if_neg hc27)
            refine own_st (T' := s₁) (g' := (mkF m 30 #[.val (.int p1)] [])) (fun _ k => XS.icmpNo (g := (mkF m 27 #[.val (.int p1)] [(.int (10 : Int32)), (.int p1)])) X0.here hx rfl (hb hby d2_27) rfl (feq hc27).1 k) ?_
            refine own_st (T' := s₁) (g' := (mkF m 31 #[.val (.int p1)] [(.int p1)])) (fun _ k => Jvm.Free.XS.iloadN (g := (mkF m 30 #[.val (.int p1)] [])) X0.here hx rfl (hb hby d2_30) rfl k) ?_
            refine own_st (T' := s₁) (g' := (mkF m 33 #[.val (.int p1)] [(.int (13 : Int32)), (.int p1)])) (fun _ k => XS.bipush (g := (mkF m 31 #[.val (.int p1)] [(.int p1)])) X0.here hx rfl (hb hby d2_31) k) ?_
            by_cases hc33 : p1 = (13 : Int32)
            · have hf := hf.trans (if_pos hc33)
              refine own_st (T' := s₁) (g' := (mkF m 36 #[.val (.int p1)] [])) (fun _ k => XS.icmpNo (g := (mkF m 33 #[.val (.int p1)] [(.int (13 : Int32)), (.int p1)])) X0.here hx rfl (hb hby d2_33) rfl (teq hc33).2 k) ?_
              exact b36 s₁ _ X0 e0 N0  p1 hf
            · have hf := hf.trans (if_neg hc33)
              refine own_st (T' := s₁) (g' := (mkF m 40 #[.val (.int p1)] [])) (fun _ k => XS.icmpYes (g := (mkF m 33 #[.val (.int p1)] [(.int (13 : Int32)), (.int p1)])) X0.here hx rfl (pc0 := 33) (pc' := 40) rfl (hb hby d2_33) rfl (feq hc33).2 (by decide) (by decide) k) ?_
              refine own_st (T' := s₁) (g' := (mkF m 41 #[.val (.int p1)] [(.int (0 : Int32))])) (fun _ k => XS.iconst (g := (mkF m 40 #[.val (.int p1)] [])) X0.here hx rfl (hb hby d2_40) k) ?_
              exact b41 s₁ _ X0 e0 N0  p1 (0 : Int32) hf
      · have hf := hf.trans (if_neg hc15)
        refine own_st (T' := s₁) (g' := (mkF m 42 #[.val (.int p1)] [])) (fun _ k => XS.icmpYes (g := (mkF m 15 #[.val (.int p1)] [(.int (32 : Int32)), (.int p1)])) X0.here hx rfl (pc0 := 15) (pc' := 42) rfl (hb hby d2_15) rfl (flt hc15).2.1 (by decide) (by decide) k) ?_
        refine own_st (T' := s₁) (g' := (mkF m 43 #[.val (.int p1)] [(.int p1)])) (fun _ k => Jvm.Free.XS.iloadN (g := (mkF m 42 #[.val (.int p1)] [])) X0.here hx rfl (hb hby d2_42) rfl k) ?_
        refine own_st (T' := s₁) (g' := (mkF m 45 #[.val (.int p1)] [(.int (55296 : Int32)), (.int p1)])) (fun _ k => (X0.ldcInt hx hown (mvT hZ (hw _ (List.mem_of_getElem? (i := 2) rfl))) (g := (mkF m 43 #[.val (.int p1)] [(.int p1)])) rfl (hb hby d2_43)) _ k) ?_
        by_cases hc45 : p1 < (55296 : Int32)
        · have hf := hf.trans (if_pos hc45)
          refine own_st (T' := s₁) (g' := (mkF m 56 #[.val (.int p1)] [])) (fun _ k => XS.icmpYes (g := (mkF m 45 #[.val (.int p1)] [(.int (55296 : Int32)), (.int p1)])) X0.here hx rfl (pc0 := 45) (pc' := 56) rfl (hb hby d2_45) rfl (tlt hc45).1 (by decide) (by decide) k) ?_
          exact b56 s₁ _ X0 e0 N0  p1 hf
        · have hf := hf.trans (if_neg hc45)
          refine own_st (T' := s₁) (g' := (mkF m 48 #[.val (.int p1)] [])) (fun _ k => XS.icmpNo (g := (mkF m 45 #[.val (.int p1)] [(.int (55296 : Int32)), (.int p1)])) X0.here hx rfl (hb hby d2_45) rfl (flt hc45).1 k) ?_
          refine own_st (T' := s₁) (g' := (mkF m 49 #[.val (.int p1)] [(.int p1)])) (fun _ k => Jvm.Free.XS.iloadN (g := (mkF m 48 #[.val (.int p1)] [])) X0.here hx rfl (hb hby d2_48) rfl k) ?_
          refine own_st (T' := s₁) (g' := (mkF m 51 #[.val (.int p1)] [(.int (57343 : Int32)), (.int p1)])) (fun _ k => (X0.ldcInt hx hown (mvT hZ (hw _ (List.mem_of_getElem? (i := 3) rfl))) (g := (mkF m 49 #[.val (.int p1)] [(.int p1)])) rfl (hb hby d2_49)) _ k) ?_
          by_cases hc51 : (57343 : Int32) < p1
          · have hf := hf.trans (if_pos hc51)
            refine own_st (T' := s₁) (g' := (mkF m 56 #[.val (.int p1)] [])) (fun _ k => XS.icmpYes (g := (mkF m 51 #[.val (.int p1)] [(.int (57343 : Int32)), (.int p1)])) X0.here hx rfl (pc0 := 51) (pc' := 56) rfl (hb hby d2_51) rfl (tlt hc51).2.2.1 (by decide) (by decide) k) ?_
            exact b56 s₁ _ X0 e0 N0  p1 hf
          · have hf := hf.trans (if_neg hc51)
            refine own_st (T' := s₁) (g' := (mkF m 54 #[.val (.int p1)] [])) (fun _ k => XS.icmpNo (g := (mkF m 51 #[.val (.int p1)] [(.int (57343 : Int32)), (.int p1)])) X0.here hx rfl (hb hby d2_51) rfl (flt hc51).2.2.1 k) ?_
            refine own_st (T' := s₁) (g' := (mkF m 55 #[.val (.int p1)] [(.int (0 : Int32))])) (fun _ k => XS.iconst (g := (mkF m 54 #[.val (.int p1)] [])) X0.here hx rfl (hb hby d2_54) k) ?_
            exact own_end (Q := Q2 Z p1 h0 n0) (v := some (.int (nar .boolean (0 : Int32)))) X0 (fun h => by rw [Bd.returns] at h; cases h) (fun fs hr => retN X0 hx (t := .boolean) Bd.returns (by simp) (hb hby d2_55) hr) (⟨congrArg (fun z => some (Value.int z)) hf.symm, N0, e0⟩) (by decide) (by decide)
theorem own_ltY {c k : Int32} (K : Int) (hk : k.toInt = K) (h : c.toInt < K) : c < k := by rw [Int32.lt_iff_toInt_lt, hk]; exact h
theorem own_ltN {c k : Int32} (K : Int) (hk : k.toInt = K) (h : K ≤ c.toInt) : ¬ c < k := by rw [Int32.lt_iff_toInt_lt, hk]; omega
theorem own_gtY {c k : Int32} (K : Int) (hk : k.toInt = K) (h : K < c.toInt) : k < c := by rw [Int32.lt_iff_toInt_lt, hk]; exact h
theorem own_gtN {c k : Int32} (K : Int) (hk : k.toInt = K) (h : c.toInt ≤ K) : ¬ k < c := by rw [Int32.lt_iff_toInt_lt, hk]; omega
theorem own_eqY {c k : Int32} (K : Int) (hk : k.toInt = K) (h : c.toInt = K) : c = k := by rw [← Int32.toInt_inj, hk]; exact h
theorem own_eqN {c k : Int32} (K : Int) (hk : k.toInt = K) (h : c.toInt ≠ K) : ¬ c = k := by rw [← Int32.toInt_inj, hk]; exact h
theorem own_same_1_0 (c : Int32) (h1 : -2147483648 ≤ c.toInt) (h2 : c.toInt < 0) : own_f1_0 c = 0 := by
  refine Eq.trans (if_neg (own_eqN (9) (by decide) (by omega) : ¬ (c = (9 : Int32)))) ?_
  refine Eq.trans (if_neg (own_eqN (10) (by decide) (by omega) : ¬ (c = (10 : Int32)))) ?_
  refine Eq.trans (if_neg (own_eqN (13) (by decide) (by omega) : ¬ (c = (13 : Int32)))) ?_
  refine Eq.trans (if_pos (own_ltY (32) (by decide) (by omega) : (c < (32 : Int32)))) ?_
  refine Eq.trans (if_pos (own_ltY (57344) (by decide) (by omega) : (c < (57344 : Int32)))) ?_
  refine Eq.trans (if_pos (own_ltY (65536) (by decide) (by omega) : (c < (65536 : Int32)))) ?_
  rfl
theorem own_same_2_0 (c : Int32) (h1 : -2147483648 ≤ c.toInt) (h2 : c.toInt < 0) : own_f2_0 c = 0 := by
  refine Eq.trans (if_pos (own_ltY (0) (by decide) (by omega) : (c < (0 : Int32)))) ?_
  rfl
theorem own_same_1_1 (c : Int32) (h1 : 0 ≤ c.toInt) (h2 : c.toInt < 9) : own_f1_0 c = 0 := by
  refine Eq.trans (if_neg (own_eqN (9) (by decide) (by omega) : ¬ (c = (9 : Int32)))) ?_
  refine Eq.trans (if_neg (own_eqN (10) (by decide) (by omega) : ¬ (c = (10 : Int32)))) ?_
  refine Eq.trans (if_neg (own_eqN (13) (by decide) (by omega) : ¬ (c = (13 : Int32)))) ?_
  refine Eq.trans (if_pos (own_ltY (32) (by decide) (by omega) : (c < (32 : Int32)))) ?_
  refine Eq.trans (if_pos (own_ltY (57344) (by decide) (by omega) : (c < (57344 : Int32)))) ?_
  refine Eq.trans (if_pos (own_ltY (65536) (by decide) (by omega) : (c < (65536 : Int32)))) ?_
  rfl
theorem own_same_2_1 (c : Int32) (h1 : 0 ≤ c.toInt) (h2 : c.toInt < 9) : own_f2_0 c = 0 := by
  refine Eq.trans (if_neg (own_ltN (0) (by decide) (by omega) : ¬ (c < (0 : Int32)))) ?_
  refine Eq.trans (if_neg (own_gtN (1114111) (by decide) (by omega) : ¬ ((1114111 : Int32) < c))) ?_
  refine Eq.trans (if_pos (own_ltY (32) (by decide) (by omega) : (c < (32 : Int32)))) ?_
  refine Eq.trans (if_neg (own_eqN (9) (by decide) (by omega) : ¬ (c = (9 : Int32)))) ?_
  refine Eq.trans (if_neg (own_eqN (10) (by decide) (by omega) : ¬ (c = (10 : Int32)))) ?_
  refine Eq.trans (if_neg (own_eqN (13) (by decide) (by omega) : ¬ (c = (13 : Int32)))) ?_
  rfl
theorem own_same_1_2 (c : Int32) (h1 : 9 ≤ c.toInt) (h2 : c.toInt < 10) : own_f1_0 c = 1 := by
  refine Eq.trans (if_pos (own_eqY (9) (by decide) (by omega) : (c = (9 : Int32)))) ?_
  rfl
theorem own_same_2_2 (c : Int32) (h1 : 9 ≤ c.toInt) (h2 : c.toInt < 10) : own_f2_0 c = 1 := by
  refine Eq.trans (if_neg (own_ltN (0) (by decide) (by omega) : ¬ (c < (0 : Int32)))) ?_
  refine Eq.trans (if_neg (own_gtN (1114111) (by decide) (by omega) : ¬ ((1114111 : Int32) < c))) ?_
  refine Eq.trans (if_pos (own_ltY (32) (by decide) (by omega) : (c < (32 : Int32)))) ?_
  refine Eq.trans (if_pos (own_eqY (9) (by decide) (by omega) : (c = (9 : Int32)))) ?_
  rfl
theorem own_same_1_3 (c : Int32) (h1 : 10 ≤ c.toInt) (h2 : c.toInt < 11) : own_f1_0 c = 1 := by
  refine Eq.trans (if_neg (own_eqN (9) (by decide) (by omega) : ¬ (c = (9 : Int32)))) ?_
  refine Eq.trans (if_pos (own_eqY (10) (by decide) (by omega) : (c = (10 : Int32)))) ?_
  rfl
theorem own_same_2_3 (c : Int32) (h1 : 10 ≤ c.toInt) (h2 : c.toInt < 11) : own_f2_0 c = 1 := by
  refine Eq.trans (if_neg (own_ltN (0) (by decide) (by omega) : ¬ (c < (0 : Int32)))) ?_
  refine Eq.trans (if_neg (own_gtN (1114111) (by decide) (by omega) : ¬ ((1114111 : Int32) < c))) ?_
  refine Eq.trans (if_pos (own_ltY (32) (by decide) (by omega) : (c < (32 : Int32)))) ?_
  refine Eq.trans (if_neg (own_eqN (9) (by decide) (by omega) : ¬ (c = (9 : Int32)))) ?_
  refine Eq.trans (if_pos (own_eqY (10) (by decide) (by omega) : (c = (10 : Int32)))) ?_
  rfl
theorem own_same_1_4 (c : Int32) (h1 : 11 ≤ c.toInt) (h2 : c.toInt < 13) : own_f1_0 c = 0 := by
  refine Eq.trans (if_neg (own_eqN (9) (by decide) (by omega) : ¬ (c = (9 : Int32)))) ?_
  refine Eq.trans (if_neg (own_eqN (10) (by decide) (by omega) : ¬ (c = (10 : Int32)))) ?_
  refine Eq.trans (if_neg (own_eqN (13) (by decide) (by omega) : ¬ (c = (13 : Int32)))) ?_
  refine Eq.trans (if_pos (own_ltY (32) (by decide) (by omega) : (c < (32 : Int32)))) ?_
  refine Eq.trans (if_pos (own_ltY (57344) (by decide) (by omega) : (c < (57344 : Int32)))) ?_
  refine Eq.trans (if_pos (own_ltY (65536) (by decide) (by omega) : (c < (65536 : Int32)))) ?_
  rfl
theorem own_same_2_4 (c : Int32) (h1 : 11 ≤ c.toInt) (h2 : c.toInt < 13) : own_f2_0 c = 0 := by
  refine Eq.trans (if_neg (own_ltN (0) (by decide) (by omega) : ¬ (c < (0 : Int32)))) ?_
  refine Eq.trans (if_neg (own_gtN (1114111) (by decide) (by omega) : ¬ ((1114111 : Int32) < c))) ?_
  refine Eq.trans (if_pos (own_ltY (32) (by decide) (by omega) : (c < (32 : Int32)))) ?_
  refine Eq.trans (if_neg (own_eqN (9) (by decide) (by omega) : ¬ (c = (9 : Int32)))) ?_
  refine Eq.trans (if_neg (own_eqN (10) (by decide) (by omega) : ¬ (c = (10 : Int32)))) ?_
  refine Eq.trans (if_neg (own_eqN (13) (by decide) (by omega) : ¬ (c = (13 : Int32)))) ?_
  rfl
theorem own_same_1_5 (c : Int32) (h1 : 13 ≤ c.toInt) (h2 : c.toInt < 14) : own_f1_0 c = 1 := by
  refine Eq.trans (if_neg (own_eqN (9) (by decide) (by omega) : ¬ (c = (9 : Int32)))) ?_
  refine Eq.trans (if_neg (own_eqN (10) (by decide) (by omega) : ¬ (c = (10 : Int32)))) ?_
  refine Eq.trans (if_pos (own_eqY (13) (by decide) (by omega) : (c = (13 : Int32)))) ?_
  rfl
theorem own_same_2_5 (c : Int32) (h1 : 13 ≤ c.toInt) (h2 : c.toInt < 14) : own_f2_0 c = 1 := by
  refine Eq.trans (if_neg (own_ltN (0) (by decide) (by omega) : ¬ (c < (0 : Int32)))) ?_
  refine Eq.trans (if_neg (own_gtN (1114111) (by decide) (by omega) : ¬ ((1114111 : Int32) < c))) ?_
  refine Eq.trans (if_pos (own_ltY (32) (by decide) (by omega) : (c < (32 : Int32)))) ?_
  refine Eq.trans (if_neg (own_eqN (9) (by decide) (by omega) : ¬ (c = (9 : Int32)))) ?_
  refine Eq.trans (if_neg (own_eqN (10) (by decide) (by omega) : ¬ (c = (10 : Int32)))) ?_
  refine Eq.trans (if_pos (own_eqY (13) (by decide) (by omega) : (c = (13 : Int32)))) ?_
  rfl
theorem own_same_1_6 (c : Int32) (h1 : 14 ≤ c.toInt) (h2 : c.toInt < 32) : own_f1_0 c = 0 := by
  refine Eq.trans (if_neg (own_eqN (9) (by decide) (by omega) : ¬ (c = (9 : Int32)))) ?_
  refine Eq.trans (if_neg (own_eqN (10) (by decide) (by omega) : ¬ (c = (10 : Int32)))) ?_
  refine Eq.trans (if_neg (own_eqN (13) (by decide) (by omega) : ¬ (c = (13 : Int32)))) ?_
  refine Eq.trans (if_pos (own_ltY (32) (by decide) (by omega) : (c < (32 : Int32)))) ?_
  refine Eq.trans (if_pos (own_ltY (57344) (by decide) (by omega) : (c < (57344 : Int32)))) ?_
  refine Eq.trans (if_pos (own_ltY (65536) (by decide) (by omega) : (c < (65536 : Int32)))) ?_
  rfl
theorem own_same_2_6 (c : Int32) (h1 : 14 ≤ c.toInt) (h2 : c.toInt < 32) : own_f2_0 c = 0 := by
  refine Eq.trans (if_neg (own_ltN (0) (by decide) (by omega) : ¬ (c < (0 : Int32)))) ?_
  refine Eq.trans (if_neg (own_gtN (1114111) (by decide) (by omega) : ¬ ((1114111 : Int32) < c))) ?_
  refine Eq.trans (if_pos (own_ltY (32) (by decide) (by omega) : (c < (32 : Int32)))) ?_
  refine Eq.trans (if_neg (own_eqN (9) (by decide) (by omega) : ¬ (c = (9 : Int32)))) ?_
  refine Eq.trans (if_neg (own_eqN (10) (by decide) (by omega) : ¬ (c = (10 : Int32)))) ?_
  refine Eq.trans (if_neg (own_eqN (13) (by decide) (by omega) : ¬ (c = (13 : Int32)))) ?_
  rfl
theorem own_same_1_7 (c : Int32) (h1 : 32 ≤ c.toInt) (h2 : c.toInt < 55296) : own_f1_0 c = 1 := by
  refine Eq.trans (if_neg (own_eqN (9) (by decide) (by omega) : ¬ (c = (9 : Int32)))) ?_
  refine Eq.trans (if_neg (own_eqN (10) (by decide) (by omega) : ¬ (c = (10 : Int32)))) ?_
  refine Eq.trans (if_neg (own_eqN (13) (by decide) (by omega) : ¬ (c = (13 : Int32)))) ?_
  refine Eq.trans (if_neg (own_ltN (32) (by decide) (by omega) : ¬ (c < (32 : Int32)))) ?_
  refine Eq.trans (if_neg (own_gtN (55295) (by decide) (by omega) : ¬ ((55295 : Int32) < c))) ?_
  rfl
theorem own_same_2_7 (c : Int32) (h1 : 32 ≤ c.toInt) (h2 : c.toInt < 55296) : own_f2_0 c = 1 := by
  refine Eq.trans (if_neg (own_ltN (0) (by decide) (by omega) : ¬ (c < (0 : Int32)))) ?_
  refine Eq.trans (if_neg (own_gtN (1114111) (by decide) (by omega) : ¬ ((1114111 : Int32) < c))) ?_
  refine Eq.trans (if_neg (own_ltN (32) (by decide) (by omega) : ¬ (c < (32 : Int32)))) ?_
  refine Eq.trans (if_pos (own_ltY (55296) (by decide) (by omega) : (c < (55296 : Int32)))) ?_
  refine Eq.trans (if_neg (own_eqN (65534) (by decide) (by omega) : ¬ (c = (65534 : Int32)))) ?_
  refine Eq.trans (if_neg (own_eqN (65535) (by decide) (by omega) : ¬ (c = (65535 : Int32)))) ?_
  rfl
theorem own_same_1_8 (c : Int32) (h1 : 55296 ≤ c.toInt) (h2 : c.toInt < 57344) : own_f1_0 c = 0 := by
  refine Eq.trans (if_neg (own_eqN (9) (by decide) (by omega) : ¬ (c = (9 : Int32)))) ?_
  refine Eq.trans (if_neg (own_eqN (10) (by decide) (by omega) : ¬ (c = (10 : Int32)))) ?_
  refine Eq.trans (if_neg (own_eqN (13) (by decide) (by omega) : ¬ (c = (13 : Int32)))) ?_
  refine Eq.trans (if_neg (own_ltN (32) (by decide) (by omega) : ¬ (c < (32 : Int32)))) ?_
  refine Eq.trans (if_pos (own_gtY (55295) (by decide) (by omega) : ((55295 : Int32) < c))) ?_
  refine Eq.trans (if_pos (own_ltY (57344) (by decide) (by omega) : (c < (57344 : Int32)))) ?_
  refine Eq.trans (if_pos (own_ltY (65536) (by decide) (by omega) : (c < (65536 : Int32)))) ?_
  rfl
theorem own_same_2_8 (c : Int32) (h1 : 55296 ≤ c.toInt) (h2 : c.toInt < 57344) : own_f2_0 c = 0 := by
  refine Eq.trans (if_neg (own_ltN (0) (by decide) (by omega) : ¬ (c < (0 : Int32)))) ?_
  refine Eq.trans (if_neg (own_gtN (1114111) (by decide) (by omega) : ¬ ((1114111 : Int32) < c))) ?_
  refine Eq.trans (if_neg (own_ltN (32) (by decide) (by omega) : ¬ (c < (32 : Int32)))) ?_
  refine Eq.trans (if_neg (own_ltN (55296) (by decide) (by omega) : ¬ (c < (55296 : Int32)))) ?_
  refine Eq.trans (if_neg (own_gtN (57343) (by decide) (by omega) : ¬ ((57343 : Int32) < c))) ?_
  rfl
theorem own_same_1_9 (c : Int32) (h1 : 57344 ≤ c.toInt) (h2 : c.toInt < 65534) : own_f1_0 c = 1 := by
  refine Eq.trans (if_neg (own_eqN (9) (by decide) (by omega) : ¬ (c = (9 : Int32)))) ?_
  refine Eq.trans (if_neg (own_eqN (10) (by decide) (by omega) : ¬ (c = (10 : Int32)))) ?_
  refine Eq.trans (if_neg (own_eqN (13) (by decide) (by omega) : ¬ (c = (13 : Int32)))) ?_
  refine Eq.trans (if_neg (own_ltN (32) (by decide) (by omega) : ¬ (c < (32 : Int32)))) ?_
  refine Eq.trans (if_pos (own_gtY (55295) (by decide) (by omega) : ((55295 : Int32) < c))) ?_
  refine Eq.trans (if_neg (own_ltN (57344) (by decide) (by omega) : ¬ (c < (57344 : Int32)))) ?_
  refine Eq.trans (if_neg (own_gtN (65533) (by decide) (by omega) : ¬ ((65533 : Int32) < c))) ?_
  rfl
theorem own_same_2_9 (c : Int32) (h1 : 57344 ≤ c.toInt) (h2 : c.toInt < 65534) : own_f2_0 c = 1 := by
  refine Eq.trans (if_neg (own_ltN (0) (by decide) (by omega) : ¬ (c < (0 : Int32)))) ?_
  refine Eq.trans (if_neg (own_gtN (1114111) (by decide) (by omega) : ¬ ((1114111 : Int32) < c))) ?_
  refine Eq.trans (if_neg (own_ltN (32) (by decide) (by omega) : ¬ (c < (32 : Int32)))) ?_
  refine Eq.trans (if_neg (own_ltN (55296) (by decide) (by omega) : ¬ (c < (55296 : Int32)))) ?_
  refine Eq.trans (if_pos (own_gtY (57343) (by decide) (by omega) : ((57343 : Int32) < c))) ?_
  refine Eq.trans (if_neg (own_eqN (65534) (by decide) (by omega) : ¬ (c = (65534 : Int32)))) ?_
  refine Eq.trans (if_neg (own_eqN (65535) (by decide) (by omega) : ¬ (c = (65535 : Int32)))) ?_
  rfl
theorem own_same_1_10 (c : Int32) (h1 : 65534 ≤ c.toInt) (h2 : c.toInt < 65535) : own_f1_0 c = 0 := by
  refine Eq.trans (if_neg (own_eqN (9) (by decide) (by omega) : ¬ (c = (9 : Int32)))) ?_
  refine Eq.trans (if_neg (own_eqN (10) (by decide) (by omega) : ¬ (c = (10 : Int32)))) ?_
  refine Eq.trans (if_neg (own_eqN (13) (by decide) (by omega) : ¬ (c = (13 : Int32)))) ?_
  refine Eq.trans (if_neg (own_ltN (32) (by decide) (by omega) : ¬ (c < (32 : Int32)))) ?_
  refine Eq.trans (if_pos (own_gtY (55295) (by decide) (by omega) : ((55295 : Int32) < c))) ?_
  refine Eq.trans (if_neg (own_ltN (57344) (by decide) (by omega) : ¬ (c < (57344 : Int32)))) ?_
  refine Eq.trans (if_pos (own_gtY (65533) (by decide) (by omega) : ((65533 : Int32) < c))) ?_
  refine Eq.trans (if_pos (own_ltY (65536) (by decide) (by omega) : (c < (65536 : Int32)))) ?_
  rfl
theorem own_same_2_10 (c : Int32) (h1 : 65534 ≤ c.toInt) (h2 : c.toInt < 65535) : own_f2_0 c = 0 := by
  refine Eq.trans (if_neg (own_ltN (0) (by decide) (by omega) : ¬ (c < (0 : Int32)))) ?_
  refine Eq.trans (if_neg (own_gtN (1114111) (by decide) (by omega) : ¬ ((1114111 : Int32) < c))) ?_
  refine Eq.trans (if_neg (own_ltN (32) (by decide) (by omega) : ¬ (c < (32 : Int32)))) ?_
  refine Eq.trans (if_neg (own_ltN (55296) (by decide) (by omega) : ¬ (c < (55296 : Int32)))) ?_
  refine Eq.trans (if_pos (own_gtY (57343) (by decide) (by omega) : ((57343 : Int32) < c))) ?_
  refine Eq.trans (if_pos (own_eqY (65534) (by decide) (by omega) : (c = (65534 : Int32)))) ?_
  rfl
theorem own_same_1_11 (c : Int32) (h1 : 65535 ≤ c.toInt) (h2 : c.toInt < 65536) : own_f1_0 c = 0 := by
  refine Eq.trans (if_neg (own_eqN (9) (by decide) (by omega) : ¬ (c = (9 : Int32)))) ?_
  refine Eq.trans (if_neg (own_eqN (10) (by decide) (by omega) : ¬ (c = (10 : Int32)))) ?_
  refine Eq.trans (if_neg (own_eqN (13) (by decide) (by omega) : ¬ (c = (13 : Int32)))) ?_
  refine Eq.trans (if_neg (own_ltN (32) (by decide) (by omega) : ¬ (c < (32 : Int32)))) ?_
  refine Eq.trans (if_pos (own_gtY (55295) (by decide) (by omega) : ((55295 : Int32) < c))) ?_
  refine Eq.trans (if_neg (own_ltN (57344) (by decide) (by omega) : ¬ (c < (57344 : Int32)))) ?_
  refine Eq.trans (if_pos (own_gtY (65533) (by decide) (by omega) : ((65533 : Int32) < c))) ?_
  refine Eq.trans (if_pos (own_ltY (65536) (by decide) (by omega) : (c < (65536 : Int32)))) ?_
  rfl
theorem own_same_2_11 (c : Int32) (h1 : 65535 ≤ c.toInt) (h2 : c.toInt < 65536) : own_f2_0 c = 0 := by
  refine Eq.trans (if_neg (own_ltN (0) (by decide) (by omega) : ¬ (c < (0 : Int32)))) ?_
  refine Eq.trans (if_neg (own_gtN (1114111) (by decide) (by omega) : ¬ ((1114111 : Int32) < c))) ?_
  refine Eq.trans (if_neg (own_ltN (32) (by decide) (by omega) : ¬ (c < (32 : Int32)))) ?_
  refine Eq.trans (if_neg (own_ltN (55296) (by decide) (by omega) : ¬ (c < (55296 : Int32)))) ?_
  refine Eq.trans (if_pos (own_gtY (57343) (by decide) (by omega) : ((57343 : Int32) < c))) ?_
  refine Eq.trans (if_neg (own_eqN (65534) (by decide) (by omega) : ¬ (c = (65534 : Int32)))) ?_
  refine Eq.trans (if_pos (own_eqY (65535) (by decide) (by omega) : (c = (65535 : Int32)))) ?_
  rfl
theorem own_same_1_12 (c : Int32) (h1 : 65536 ≤ c.toInt) (h2 : c.toInt < 1114112) : own_f1_0 c = 1 := by
  refine Eq.trans (if_neg (own_eqN (9) (by decide) (by omega) : ¬ (c = (9 : Int32)))) ?_
  refine Eq.trans (if_neg (own_eqN (10) (by decide) (by omega) : ¬ (c = (10 : Int32)))) ?_
  refine Eq.trans (if_neg (own_eqN (13) (by decide) (by omega) : ¬ (c = (13 : Int32)))) ?_
  refine Eq.trans (if_neg (own_ltN (32) (by decide) (by omega) : ¬ (c < (32 : Int32)))) ?_
  refine Eq.trans (if_pos (own_gtY (55295) (by decide) (by omega) : ((55295 : Int32) < c))) ?_
  refine Eq.trans (if_neg (own_ltN (57344) (by decide) (by omega) : ¬ (c < (57344 : Int32)))) ?_
  refine Eq.trans (if_pos (own_gtY (65533) (by decide) (by omega) : ((65533 : Int32) < c))) ?_
  refine Eq.trans (if_neg (own_ltN (65536) (by decide) (by omega) : ¬ (c < (65536 : Int32)))) ?_
  refine Eq.trans (if_neg (own_gtN (1114111) (by decide) (by omega) : ¬ ((1114111 : Int32) < c))) ?_
  rfl
theorem own_same_2_12 (c : Int32) (h1 : 65536 ≤ c.toInt) (h2 : c.toInt < 1114112) : own_f2_0 c = 1 := by
  refine Eq.trans (if_neg (own_ltN (0) (by decide) (by omega) : ¬ (c < (0 : Int32)))) ?_
  refine Eq.trans (if_neg (own_gtN (1114111) (by decide) (by omega) : ¬ ((1114111 : Int32) < c))) ?_
  refine Eq.trans (if_neg (own_ltN (32) (by decide) (by omega) : ¬ (c < (32 : Int32)))) ?_
  refine Eq.trans (if_neg (own_ltN (55296) (by decide) (by omega) : ¬ (c < (55296 : Int32)))) ?_
  refine Eq.trans (if_pos (own_gtY (57343) (by decide) (by omega) : ((57343 : Int32) < c))) ?_
  refine Eq.trans (if_neg (own_eqN (65534) (by decide) (by omega) : ¬ (c = (65534 : Int32)))) ?_
  refine Eq.trans (if_neg (own_eqN (65535) (by decide) (by omega) : ¬ (c = (65535 : Int32)))) ?_
  rfl
theorem own_same_1_13 (c : Int32) (h1 : 1114112 ≤ c.toInt) (h2 : c.toInt < 2147483648) : own_f1_0 c = 0 := by
  refine Eq.trans (if_neg (own_eqN (9) (by decide) (by omega) : ¬ (c = (9 : Int32)))) ?_
  refine Eq.trans (if_neg (own_eqN (10) (by decide) (by omega) : ¬ (c = (10 : Int32)))) ?_
  refine Eq.trans (if_neg (own_eqN (13) (by decide) (by omega) : ¬ (c = (13 : Int32)))) ?_
  refine Eq.trans (if_neg (own_ltN (32) (by decide) (by omega) : ¬ (c < (32 : Int32)))) ?_
  refine Eq.trans (if_pos (own_gtY (55295) (by decide) (by omega) : ((55295 : Int32) < c))) ?_
  refine Eq.trans (if_neg (own_ltN (57344) (by decide) (by omega) : ¬ (c < (57344 : Int32)))) ?_
  refine Eq.trans (if_pos (own_gtY (65533) (by decide) (by omega) : ((65533 : Int32) < c))) ?_
  refine Eq.trans (if_neg (own_ltN (65536) (by decide) (by omega) : ¬ (c < (65536 : Int32)))) ?_
  refine Eq.trans (if_pos (own_gtY (1114111) (by decide) (by omega) : ((1114111 : Int32) < c))) ?_
  rfl
theorem own_same_2_13 (c : Int32) (h1 : 1114112 ≤ c.toInt) (h2 : c.toInt < 2147483648) : own_f2_0 c = 0 := by
  refine Eq.trans (if_neg (own_ltN (0) (by decide) (by omega) : ¬ (c < (0 : Int32)))) ?_
  refine Eq.trans (if_pos (own_gtY (1114111) (by decide) (by omega) : ((1114111 : Int32) < c))) ?_
  rfl
theorem own_same (c : Int32) : own_f1_0 c = own_f2_0 c := by
  have r := rng32 c
  by_cases q0 : c.toInt < 0
  · exact (own_same_1_0 c (by omega) (by omega)).trans (own_same_2_0 c (by omega) (by omega)).symm
  by_cases q1 : c.toInt < 9
  · exact (own_same_1_1 c (by omega) (by omega)).trans (own_same_2_1 c (by omega) (by omega)).symm
  by_cases q2 : c.toInt < 10
  · exact (own_same_1_2 c (by omega) (by omega)).trans (own_same_2_2 c (by omega) (by omega)).symm
  by_cases q3 : c.toInt < 11
  · exact (own_same_1_3 c (by omega) (by omega)).trans (own_same_2_3 c (by omega) (by omega)).symm
  by_cases q4 : c.toInt < 13
  · exact (own_same_1_4 c (by omega) (by omega)).trans (own_same_2_4 c (by omega) (by omega)).symm
  by_cases q5 : c.toInt < 14
  · exact (own_same_1_5 c (by omega) (by omega)).trans (own_same_2_5 c (by omega) (by omega)).symm
  by_cases q6 : c.toInt < 32
  · exact (own_same_1_6 c (by omega) (by omega)).trans (own_same_2_6 c (by omega) (by omega)).symm
  by_cases q7 : c.toInt < 55296
  · exact (own_same_1_7 c (by omega) (by omega)).trans (own_same_2_7 c (by omega) (by omega)).symm
  by_cases q8 : c.toInt < 57344
  · exact (own_same_1_8 c (by omega) (by omega)).trans (own_same_2_8 c (by omega) (by omega)).symm
  by_cases q9 : c.toInt < 65534
  · exact (own_same_1_9 c (by omega) (by omega)).trans (own_same_2_9 c (by omega) (by omega)).symm
  by_cases q10 : c.toInt < 65535
  · exact (own_same_1_10 c (by omega) (by omega)).trans (own_same_2_10 c (by omega) (by omega)).symm
  by_cases q11 : c.toInt < 65536
  · exact (own_same_1_11 c (by omega) (by omega)).trans (own_same_2_11 c (by omega) (by omega)).symm
  by_cases q12 : c.toInt < 1114112
  · exact (own_same_1_12 c (by omega) (by omega)).trans (own_same_2_12 c (by omega) (by omega)).symm
  exact (own_same_1_13 c (by omega) (by omega)).trans (own_same_2_13 c (by omega) (by omega)).symm
theorem own_pn0 : plainName "com/example/hollow_tree/hollowtree/xml/XmlCharsIsXmlCharPinLaw" = true := by first | (simp [plainName, overriddenIn]; done) | decide +kernel
theorem own_pd0_0 : parseMethodDescriptor "(I)Z" = some ⟨[.int], some .boolean⟩ := by decide +kernel
theorem own_ef0 (m : MethodId) (x0 : Int32) (x1 : Int32) (x2 : Int32) : entryFrame m #[(.int x0), (.int x1), (.int x2)] maxLocals = mkF m 0 #[.val (.int x0), .val (.int x1), .val (.int x2), .unset, .unset, .unset, .unset, .unset, .unset] [] := by first | (simp [entryFrame, mkF, argsToLocals, Value.category, maxLocals]; done) | rfl
def Q0 (Z : State) (p1 : Int32) (p2 : Int32) (p3 : Int32) (h0 : Heap) (n0 : Nat) (v : Option Value) (h : Heap) (L : List Loc) : Prop := v = some (.int 1) ∧ Fr n0 L
set_option maxRecDepth 65536 in
set_option maxHeartbeats 40000000 in
theorem rm0 (l : Launch) (Z : State) (a0 : Array Value) (hw : ∀ d ∈ tables_1, d.before a0 Z = true) (ws : List Jvm.Cond) (p1 : Int32) (p2 : Int32) (p3 : Int32) (h0 : Heap) (n0 : Nat) (Z0 : n0 ≤ h0.size)  :
    MetFree l x (head1 (Jvm.Cond.code x code maxLocals ret :: ws) room_1) (fun a U => a = #[(.int p1), (.int p2), (.int p3)] ∧ Z.Warmed39 U.vm ∧ U.heap = h0) (fun _ _ _ _ _ => True) (fun _ U o U' => ∃ v L, o = .returned v ∧ Q0 Z p1 p2 p3 h0 n0 v U'.heap L ∧ FrameEnd U o U' L room_1.cells room_1.slots) := by
  refine MetFree.of_bodySF (plainFor_of_name own_pn0) hisR ?_
  intro p e s m args below meth c s₁ Bd hml0 hP hK
  obtain ⟨rfl, hZ, hh⟩ := hP
  have hx := Bd.exec
  have hby := Bd.bytes
  have hml : c.maxLocals = 9 := hml0
  have hown : s.vm.findClass "com/example/hollow_tree/hollowtree/xml/XmlCharsIsXmlCharPinLaw" = some m.cls := findClass_of_methodNamed Bd.named
  have hnm := (name_of_methodNamed Bd.named Bd.method).1
  have hlk := Bd.notSynchronized
  have X0 : Stand p l e room_1 s m #[(.int p1), (.int p2), (.int p3)] below meth c s₁ [] 0 0 := Stand.of_body Bd
  have e0 : s₁.heap = h0 := by rw [← hh, Bd.state]; rfl
  have N0 := Fr.nil n0
  show own_Goes p e below (fun o U' => ∃ v L, o = .returned v ∧ Q0 Z p1 p2 p3 h0 n0 v U'.heap L ∧ FrameEnd s o U' L room_1.cells room_1.slots) s₁ (entryFrame m #[(.int p1), (.int p2), (.int p3)] maxLocals)
  refine own_st (T' := s₁) (g' := mkF m 0 #[.val (.int p1), .val (.int p2), .val (.int p3), .unset, .unset, .unset, .unset, .unset, .unset] []) (fun _ k => castTop (own_ef0 m p1 p2 p3) k) ?_
  refine own_st (T' := s₁) (g' := (mkF m 2 #[.val (.int p1), .val (.int p2), .val (.int p3), .unset, .unset, .unset, .unset, .unset, .unset] [(.int (22 : Int32))])) (fun _ k => XS.bipush (g := (mkF m 0 #[.val (.int p1), .val (.int p2), .val (.int p3), .unset, .unset, .unset, .unset, .unset, .unset] [])) X0.here hx rfl (hb hby at_0) k) ?_
  obtain ⟨T1, h1, k1, X1, e1, E1, A1, st1⟩ := newP X0 hx hZ (hw _ (List.mem_of_getElem? (i := 0) rfl)) e0 (g := (mkF m 2 #[.val (.int p1), .val (.int p2), .val (.int p3), .unset, .unset, .unset, .unset, .unset, .unset] [(.int (22 : Int32))])) rfl (hb hby at_2) rfl (by decide) (cap := 22) (by decide) (by decide) (by decide) (by decide)
  obtain ⟨b1, g1⟩ : ∃ z, z = h0.size := ⟨_, rfl⟩
  rw [← g1] at A1 st1
  have gn_b1 : n0 ≤ b1 := Nat.le_trans Z0 (Nat.le_of_eq g1.symm)
  have Zs1 : n0 ≤ h1.size := Nat.le_trans Z0 E1.1
  have V1 : Arv Z h1 b1 k1 .int (22 : Int32) [(.int (0 : Int32)), (.int (0 : Int32)), (.int (0 : Int32)), (.int (0 : Int32)), (.int (0 : Int32)), (.int (0 : Int32)), (.int (0 : Int32)), (.int (0 : Int32)), (.int (0 : Int32)), (.int (0 : Int32)), (.int (0 : Int32)), (.int (0 : Int32)), (.int (0 : Int32)), (.int (0 : Int32)), (.int (0 : Int32)), (.int (0 : Int32)), (.int (0 : Int32)), (.int (0 : Int32)), (.int (0 : Int32)), (.int (0 : Int32)), (.int (0 : Int32)), (.int (0 : Int32))] (.int (0 : Int32)) := (Arv.new A1 (by decide)).pad (pad_rep [] (.int (0 : Int32)) 22)
  refine own_st (T' := T1) (g' := (mkF m 4 #[.val (.int p1), .val (.int p2), .val (.int p3), .unset, .unset, .unset, .unset, .unset, .unset] [(.ref b1)])) (fun _ k => (st1) _ k) ?_
  refine own_st (T' := T1) (g' := (mkF m 5 #[.val (.int p1), .val (.int p2), .val (.int p3), .unset, .unset, .unset, .unset, .unset, .unset] [(.ref b1), (.ref b1)])) (fun _ k => XS.dup (g := (mkF m 4 #[.val (.int p1), .val (.int p2), .val (.int p3), .unset, .unset, .unset, .unset, .unset, .unset] [(.ref b1)])) X1.here hx rfl (hb hby at_4) rfl rfl k) ?_
  refine own_st (T' := T1) (g' := (mkF m 6 #[.val (.int p1), .val (.int p2), .val (.int p3), .unset, .unset, .unset, .unset, .unset, .unset] [(.int (0 : Int32)), (.ref b1), (.ref b1)])) (fun _ k => XS.iconst (g := (mkF m 5 #[.val (.int p1), .val (.int p2), .val (.int p3), .unset, .unset, .unset, .unset, .unset, .unset] [(.ref b1), (.ref b1)])) X1.here hx rfl (hb hby at_5) k) ?_
  refine own_st (T' := T1) (g' := (mkF m 7 #[.val (.int p1), .val (.int p2), .val (.int p3), .unset, .unset, .unset, .unset, .unset, .unset] [(.int (0 : Int32)), (.int (0 : Int32)), (.ref b1), (.ref b1)])) (fun _ k => XS.iconst (g := (mkF m 6 #[.val (.int p1), .val (.int p2), .val (.int p3), .unset, .unset, .unset, .unset, .unset, .unset] [(.int (0 : Int32)), (.ref b1), (.ref b1)])) X1.here hx rfl (hb hby at_6) k) ?_
  obtain ⟨cl2, Ar2, qk2, Sz2, Nn2, Hs2, Gs2⟩ := V1
  have hin2 : ¬ ((0 : Int32) < 0 ∨ cl2.slots.size ≤ ((0 : Int32)).toNatClampNeg) := inb_of Sz2 ⟨by decide, by decide⟩
  obtain ⟨T2, h2, X2, e2, W2, st2⟩ := stI X1 hx hZ e1 Ar2 (j := (0 : Int32)) hin2 (g := (mkF m 7 #[.val (.int p1), .val (.int p2), .val (.int p3), .unset, .unset, .unset, .unset, .unset, .unset] [(.int (0 : Int32)), (.int (0 : Int32)), (.ref b1), (.ref b1)])) rfl rfl (hb hby at_7)
  have V2 : Arv Z h2 b1 k1 .int (22 : Int32) [(.int (0 : Int32)), (.int (0 : Int32)), (.int (0 : Int32)), (.int (0 : Int32)), (.int (0 : Int32)), (.int (0 : Int32)), (.int (0 : Int32)), (.int (0 : Int32)), (.int (0 : Int32)), (.int (0 : Int32)), (.int (0 : Int32)), (.int (0 : Int32)), (.int (0 : Int32)), (.int (0 : Int32)), (.int (0 : Int32)), (.int (0 : Int32)), (.int (0 : Int32)), (.int (0 : Int32)), (.int (0 : Int32)), (.int (0 : Int32)), (.int (0 : Int32)), (.int (0 : Int32))] (.int (0 : Int32)) := Arv.set Ar2 qk2 Sz2 Nn2 Hs2 Gs2 rfl W2 0 rfl (Nat.le_of_ble_eq_true rfl)
  have Zs2 : n0 ≤ h2.size := Nat.le_trans Zs1 (Keep.of_wr W2).1
  obtain ⟨lc2, X2, N2⟩ := own_loc X2 (Fr.snoc X2 N0 gn_b1)
  refine own_st (T' := T2) (g' := (mkF m 8 #[.val (.int p1), .val (.int p2), .val (.int p3), .unset, .unset, .unset, .unset, .unset, .unset] [(.ref b1)])) (fun _ k => (st2) _ k) ?_
  refine own_st (T' := T2) (g' := (mkF m 9 #[.val (.int p1), .val (.int p2), .val (.int p3), .unset, .unset, .unset, .unset, .unset, .unset] [(.ref b1), (.ref b1)])) (fun _ k => XS.dup (g := (mkF m 8 #[.val (.int p1), .val (.int p2), .val (.int p3), .unset, .unset, .unset, .unset, .unset, .unset] [(.ref b1)])) X2.here hx rfl (hb hby at_8) rfl rfl k) ?_
  refine own_st (T' := T2) (g' := (mkF m 10 #[.val (.int p1), .val (.int p2), .val (.int p3), .unset, .unset, .unset, .unset, .unset, .unset] [(.int (1 : Int32)), (.ref b1), (.ref b1)])) (fun _ k => XS.iconst (g := (mkF m 9 #[.val (.int p1), .val (.int p2), .val (.int p3), .unset, .unset, .unset, .unset, .unset, .unset] [(.ref b1), (.ref b1)])) X2.here hx rfl (hb hby at_9) k) ?_
  refine own_st (T' := T2) (g' := (mkF m 12 #[.val (.int p1), .val (.int p2), .val (.int p3), .unset, .unset, .unset, .unset, .unset, .unset] [(.int (8 : Int32)), (.int (1 : Int32)), (.ref b1), (.ref b1)])) (fun _ k => XS.bipush (g := (mkF m 10 #[.val (.int p1), .val (.int p2), .val (.int p3), .unset, .unset, .unset, .unset, .unset, .unset] [(.int (1 : Int32)), (.ref b1), (.ref b1)])) X2.here hx rfl (hb hby at_10) k) ?_
  obtain ⟨cl3, Ar3, qk3, Sz3, Nn3, Hs3, Gs3⟩ := V2
  have hin3 : ¬ ((1 : Int32) < 0 ∨ cl3.slots.size ≤ ((1 : Int32)).toNatClampNeg) := inb_of Sz3 ⟨by decide, by decide⟩
  obtain ⟨T3, h3, X3, e3, W3, st3⟩ := stI X2 hx hZ e2 Ar3 (j := (1 : Int32)) hin3 (g := (mkF m 12 #[.val (.int p1), .val (.int p2), .val (.int p3), .unset, .unset, .unset, .unset, .unset, .unset] [(.int (8 : Int32)), (.int (1 : Int32)), (.ref b1), (.ref b1)])) rfl rfl (hb hby at_12)
  have V3 : Arv Z h3 b1 k1 .int (22 : Int32) [(.int (0 : Int32)), (.int (8 : Int32)), (.int (0 : Int32)), (.int (0 : Int32)), (.int (0 : Int32)), (.int (0 : Int32)), (.int (0 : Int32)), (.int (0 : Int32)), (.int (0 : Int32)), (.int (0 : Int32)), (.int (0 : Int32)), (.int (0 : Int32)), (.int (0 : Int32)), (.int (0 : Int32)), (.int (0 : Int32)), (.int (0 : Int32)), (.int (0 : Int32)), (.int (0 : Int32)), (.int (0 : Int32)), (.int (0 : Int32)), (.int (0 : Int32)), (.int (0 : Int32))] (.int (0 : Int32)) := Arv.set Ar3 qk3 Sz3 Nn3 Hs3 Gs3 rfl W3 1 rfl (Nat.le_of_ble_eq_true rfl)
  have Zs3 : n0 ≤ h3.size := Nat.le_trans Zs2 (Keep.of_wr W3).1
  obtain ⟨lc3, X3, N3⟩ := own_loc X3 (Fr.snoc X3 N2 gn_b1)
  refine own_st (T' := T3) (g' := (mkF m 13 #[.val (.int p1), .val (.int p2), .val (.int p3), .unset, .unset, .unset, .unset, .unset, .unset] [(.ref b1)])) (fun _ k => (st3) _ k) ?_
  refine own_st (T' := T3) (g' := (mkF m 14 #[.val (.int p1), .val (.int p2), .val (.int p3), .unset, .unset, .unset, .unset, .unset, .unset] [(.ref b1), (.ref b1)])) (fun _ k => XS.dup (g := (mkF m 13 #[.val (.int p1), .val (.int p2), .val (.int p3), .unset, .unset, .unset, .unset, .unset, .unset] [(.ref b1)])) X3.here hx rfl (hb hby at_13) rfl rfl k) ?_
  refine own_st (T' := T3) (g' := (mkF m 15 #[.val (.int p1), .val (.int p2), .val (.int p3), .unset, .unset, .unset, .unset, .unset, .unset] [(.int (2 : Int32)), (.ref b1), (.ref b1)])) (fun _ k => XS.iconst (g := (mkF m 14 #[.val (.int p1), .val (.int p2), .val (.int p3), .unset, .unset, .unset, .unset, .unset, .unset] [(.ref b1), (.ref b1)])) X3.here hx rfl (hb hby at_14) k) ?_
  refine own_st (T' := T3) (g' := (mkF m 17 #[.val (.int p1), .val (.int p2), .val (.int p3), .unset, .unset, .unset, .unset, .unset, .unset] [(.int (9 : Int32)), (.int (2 : Int32)), (.ref b1), (.ref b1)])) (fun _ k => XS.bipush (g := (mkF m 15 #[.val (.int p1), .val (.int p2), .val (.int p3), .unset, .unset, .unset, .unset, .unset, .unset] [(.int (2 : Int32)), (.ref b1), (.ref b1)])) X3.here hx rfl (hb hby at_15) k) ?_
  obtain ⟨cl4, Ar4, qk4, Sz4, Nn4, Hs4, Gs4⟩ := V3
  have hin4 : ¬ ((2 : Int32) < 0 ∨ cl4.slots.size ≤ ((2 : Int32)).toNatClampNeg) := inb_of Sz4 ⟨by decide, by decide⟩
  obtain ⟨T4, h4, X4, e4, W4, st4⟩ := stI X3 hx hZ e3 Ar4 (j := (2 : Int32)) hin4 (g := (mkF m 17 #[.val (.int p1), .val (.int p2), .val (.int p3), .unset, .unset, .unset, .unset, .unset, .unset] [(.int (9 : Int32)), (.int (2 : Int32)), (.ref b1), (.ref b1)])) rfl rfl (hb hby at_17)
  have V4 : Arv Z h4 b1 k1 .int (22 : Int32) [(.int (0 : Int32)), (.int (8 : Int32)), (.int (9 : Int32)), (.int (0 : Int32)), (.int (0 : Int32)), (.int (0 : Int32)), (.int (0 : Int32)), (.int (0 : Int32)), (.int (0 : Int32)), (.int (0 : Int32)), (.int (0 : Int32)), (.int (0 : Int32)), (.int (0 : Int32)), (.int (0 : Int32)), (.int (0 : Int32)), (.int (0 : Int32)), (.int (0 : Int32)), (.int (0 : Int32)), (.int (0 : Int32)), (.int (0 : Int32)), (.int (0 : Int32)), (.int (0 : Int32))] (.int (0 : Int32)) := Arv.set Ar4 qk4 Sz4 Nn4 Hs4 Gs4 rfl W4 2 rfl (Nat.le_of_ble_eq_true rfl)
  have Zs4 : n0 ≤ h4.size := Nat.le_trans Zs3 (Keep.of_wr W4).1
  obtain ⟨lc4, X4, N4⟩ := own_loc X4 (Fr.snoc X4 N3 gn_b1)
  refine own_st (T' := T4) (g' := (mkF m 18 #[.val (.int p1), .val (.int p2), .val (.int p3), .unset, .unset, .unset, .unset, .unset, .unset] [(.ref b1)])) (fun _ k => (st4) _ k) ?_
  refine own_st (T' := T4) (g' := (mkF m 19 #[.val (.int p1), .val (.int p2), .val (.int p3), .unset, .unset, .unset, .unset, .unset, .unset] [(.ref b1), (.ref b1)])) (fun _ k => XS.dup (g := (mkF m 18 #[.val (.int p1), .val (.int p2), .val (.int p3), .unset, .unset, .unset, .unset, .unset, .unset] [(.ref b1)])) X4.here hx rfl (hb hby at_18) rfl rfl k) ?_
  refine own_st (T' := T4) (g' := (mkF m 20 #[.val (.int p1), .val (.int p2), .val (.int p3), .unset, .unset, .unset, .unset, .unset, .unset] [(.int (3 : Int32)), (.ref b1), (.ref b1)])) (fun _ k => XS.iconst (g := (mkF m 19 #[.val (.int p1), .val (.int p2), .val (.int p3), .unset, .unset, .unset, .unset, .unset, .unset] [(.ref b1), (.ref b1)])) X4.here hx rfl (hb hby at_19) k) ?_
  refine own_st (T' := T4) (g' := (mkF m 22 #[.val (.int p1), .val (.int p2), .val (.int p3), .unset, .unset, .unset, .unset, .unset, .unset] [(.int (10 : Int32)), (.int (3 : Int32)), (.ref b1), (.ref b1)])) (fun _ k => XS.bipush (g := (mkF m 20 #[.val (.int p1), .val (.int p2), .val (.int p3), .unset, .unset, .unset, .unset, .unset, .unset] [(.int (3 : Int32)), (.ref b1), (.ref b1)])) X4.here hx rfl (hb hby at_20) k) ?_
  obtain ⟨cl5, Ar5, qk5, Sz5, Nn5, Hs5, Gs5⟩ := V4
  have hin5 : ¬ ((3 : Int32) < 0 ∨ cl5.slots.size ≤ ((3 : Int32)).toNatClampNeg) := inb_of Sz5 ⟨by decide, by decide⟩
  obtain ⟨T5, h5, X5, e5, W5, st5⟩ := stI X4 hx hZ e4 Ar5 (j := (3 : Int32)) hin5 (g := (mkF m 22 #[.val (.int p1), .val (.int p2), .val (.int p3), .unset, .unset, .unset, .unset, .unset, .unset] [(.int (10 : Int32)), (.int (3 : Int32)), (.ref b1), (.ref b1)])) rfl rfl (hb hby at_22)
  have V5 : Arv Z h5 b1 k1 .int (22 : Int32) [(.int (0 : Int32)), (.int (8 : Int32)), (.int (9 : Int32)), (.int (10 : Int32)), (.int (0 : Int32)), (.int (0 : Int32)), (.int (0 : Int32)), (.int (0 : Int32)), (.int (0 : Int32)), (.int (0 : Int32)), (.int (0 : Int32)), (.int (0 : Int32)), (.int (0 : Int32)), (.int (0 : Int32)), (.int (0 : Int32)), (.int (0 : Int32)), (.int (0 : Int32)), (.int (0 : Int32)), (.int (0 : Int32)), (.int (0 : Int32)), (.int (0 : Int32)), (.int (0 : Int32))] (.int (0 : Int32)) := Arv.set Ar5 qk5 Sz5 Nn5 Hs5 Gs5 rfl W5 3 rfl (Nat.le_of_ble_eq_true rfl)
  have Zs5 : n0 ≤ h5.size := Nat.le_trans Zs4 (Keep.of_wr W5).1
  obtain ⟨lc5, X5, N5⟩ := own_loc X5 (Fr.snoc X5 N4 gn_b1)
  refine own_st (T' := T5) (g' := (mkF m 23 #[.val (.int p1), .val (.int p2), .val (.int p3), .unset, .unset, .unset, .unset, .unset, .unset] [(.ref b1)])) (fun _ k => (st5) _ k) ?_
  refine own_st (T' := T5) (g' := (mkF m 24 #[.val (.int p1), .val (.int p2), .val (.int p3), .unset, .unset, .unset, .unset, .unset, .unset] [(.ref b1), (.ref b1)])) (fun _ k => XS.dup (g := (mkF m 23 #[.val (.int p1), .val (.int p2), .val (.int p3), .unset, .unset, .unset, .unset, .unset, .unset] [(.ref b1)])) X5.here hx rfl (hb hby at_23) rfl rfl k) ?_
  refine own_st (T' := T5) (g' := (mkF m 25 #[.val (.int p1), .val (.int p2), .val (.int p3), .unset, .unset, .unset, .unset, .unset, .unset] [(.int (4 : Int32)), (.ref b1), (.ref b1)])) (fun _ k => XS.iconst (g := (mkF m 24 #[.val (.int p1), .val (.int p2), .val (.int p3), .unset, .unset, .unset, .unset, .unset, .unset] [(.ref b1), (.ref b1)])) X5.here hx rfl (hb hby at_24) k) ?_
  refine own_st (T' := T5) (g' := (mkF m 27 #[.val (.int p1), .val (.int p2), .val (.int p3), .unset, .unset, .unset, .unset, .unset, .unset] [(.int (11 : Int32)), (.int (4 : Int32)), (.ref b1), (.ref b1)])) (fun _ k => XS.bipush (g := (mkF m 25 #[.val (.int p1), .val (.int p2), .val (.int p3), .unset, .unset, .unset, .unset, .unset, .unset] [(.int (4 : Int32)), (.ref b1), (.ref b1)])) X5.here hx rfl (hb hby at_25) k) ?_
  obtain ⟨cl6, Ar6, qk6, Sz6, Nn6, Hs6, Gs6⟩ := V5
  have hin6 : ¬ ((4 : Int32) < 0 ∨ cl6.slots.size ≤ ((4 : Int32)).toNatClampNeg) := inb_of Sz6 ⟨by decide, by decide⟩
  obtain ⟨T6, h6, X6, e6, W6, st6⟩ := stI X5 hx hZ e5 Ar6 (j := (4 : Int32)) hin6 (g := (mkF m 27 #[.val (.int p1), .val (.int p2), .val (.int p3), .unset, .unset, .unset, .unset, .unset, .unset] [(.int (11 : Int32)), (.int (4 : Int32)), (.ref b1), (.ref b1)])) rfl rfl (hb hby at_27)
  have V6 : Arv Z h6 b1 k1 .int (22 : Int32) [(.int (0 : Int32)), (.int (8 : Int32)), (.int (9 : Int32)), (.int (10 : Int32)), (.int (11 : Int32)), (.int (0 : Int32)), (.int (0 : Int32)), (.int (0 : Int32)), (.int (0 : Int32)), (.int (0 : Int32)), (.int (0 : Int32)), (.int (0 : Int32)), (.int (0 : Int32)), (.int (0 : Int32)), (.int (0 : Int32)), (.int (0 : Int32)), (.int (0 : Int32)), (.int (0 : Int32)), (.int (0 : Int32)), (.int (0 : Int32)), (.int (0 : Int32)), (.int (0 : Int32))] (.int (0 : Int32)) := Arv.set Ar6 qk6 Sz6 Nn6 Hs6 Gs6 rfl W6 4 rfl (Nat.le_of_ble_eq_true rfl)
  have Zs6 : n0 ≤ h6.size := Nat.le_trans Zs5 (Keep.of_wr W6).1
  obtain ⟨lc6, X6, N6⟩ := own_loc X6 (Fr.snoc X6 N5 gn_b1)
  refine own_st (T' := T6) (g' := (mkF m 28 #[.val (.int p1), .val (.int p2), .val (.int p3), .unset, .unset, .unset, .unset, .unset, .unset] [(.ref b1)])) (fun _ k => (st6) _ k) ?_
  refine own_st (T' := T6) (g' := (mkF m 29 #[.val (.int p1), .val (.int p2), .val (.int p3), .unset, .unset, .unset, .unset, .unset, .unset] [(.ref b1), (.ref b1)])) (fun _ k => XS.dup (g := (mkF m 28 #[.val (.int p1), .val (.int p2), .val (.int p3), .unset, .unset, .unset, .unset, .unset, .unset] [(.ref b1)])) X6.here hx rfl (hb hby at_28) rfl rfl k) ?_
  refine own_st (T' := T6) (g' := (mkF m 30 #[.val (.int p1), .val (.int p2), .val (.int p3), .unset, .unset, .unset, .unset, .unset, .unset] [(.int (5 : Int32)), (.ref b1), (.ref b1)])) (fun _ k => XS.iconst (g := (mkF m 29 #[.val (.int p1), .val (.int p2), .val (.int p3), .unset, .unset, .unset, .unset, .unset, .unset] [(.ref b1), (.ref b1)])) X6.here hx rfl (hb hby at_29) k) ?_
  refine own_st (T' := T6) (g' := (mkF m 32 #[.val (.int p1), .val (.int p2), .val (.int p3), .unset, .unset, .unset, .unset, .unset, .unset] [(.int (12 : Int32)), (.int (5 : Int32)), (.ref b1), (.ref b1)])) (fun _ k => XS.bipush (g := (mkF m 30 #[.val (.int p1), .val (.int p2), .val (.int p3), .unset, .unset, .unset, .unset, .unset, .unset] [(.int (5 : Int32)), (.ref b1), (.ref b1)])) X6.here hx rfl (hb hby at_30) k) ?_
  obtain ⟨cl7, Ar7, qk7, Sz7, Nn7, Hs7, Gs7⟩ := V6
  have hin7 : ¬ ((5 : Int32) < 0 ∨ cl7.slots.size ≤ ((5 : Int32)).toNatClampNeg) := inb_of Sz7 ⟨by decide, by decide⟩
  obtain ⟨T7, h7, X7, e7, W7, st7⟩ := stI X6 hx hZ e6 Ar7 (j := (5 : Int32)) hin7 (g := (mkF m 32 #[.val (.int p1), .val (.int p2), .val (.int p3), .unset, .unset, .unset, .unset, .unset, .unset] [(.int (12 : Int32)), (.int (5 : Int32)), (.ref b1), (.ref b1)])) rfl rfl (hb hby at_32)
  have V7 : Arv Z h7 b1 k1 .int (22 : Int32) [(.int (0 : Int32)), (.int (8 : Int32)), (.int (9 : Int32)), (.int (10 : Int32)), (.int (11 : Int32)), (.int (12 : Int32)), (.int (0 : Int32)), (.int (0 : Int32)), (.int (0 : Int32)), (.int (0 : Int32)), (.int (0 : Int32)), (.int (0 : Int32)), (.int (0 : Int32)), (.int (0 : Int32)), (.int (0 : Int32)), (.int (0 : Int32)), (.int (0 : Int32)), (.int (0 : Int32)), (.int (0 : Int32)), (.int (0 : Int32)), (.int (0 : Int32)), (.int (0 : Int32))] (.int (0 : Int32)) := Arv.set Ar7 qk7 Sz7 Nn7 Hs7 Gs7 rfl W7 5 rfl (Nat.le_of_ble_eq_true rfl)
  have Zs7 : n0 ≤ h7.size := Nat.le_trans Zs6 (Keep.of_wr W7).1
  obtain ⟨lc7, X7, N7⟩ := own_loc X7 (Fr.snoc X7 N6 gn_b1)
  refine own_st (T' := T7) (g' := (mkF m 33 #[.val (.int p1), .val (.int p2), .val (.int p3), .unset, .unset, .unset, .unset, .unset, .unset] [(.ref b1)])) (fun _ k => (st7) _ k) ?_
  refine own_st (T' := T7) (g' := (mkF m 34 #[.val (.int p1), .val (.int p2), .val (.int p3), .unset, .unset, .unset, .unset, .unset, .unset] [(.ref b1), (.ref b1)])) (fun _ k => XS.dup (g := (mkF m 33 #[.val (.int p1), .val (.int p2), .val (.int p3), .unset, .unset, .unset, .unset, .unset, .unset] [(.ref b1)])) X7.here hx rfl (hb hby at_33) rfl rfl k) ?_
  refine own_st (T' := T7) (g' := (mkF m 36 #[.val (.int p1), .val (.int p2), .val (.int p3), .unset, .unset, .unset, .unset, .unset, .unset] [(.int (6 : Int32)), (.ref b1), (.ref b1)])) (fun _ k => XS.bipush (g := (mkF m 34 #[.val (.int p1), .val (.int p2), .val (.int p3), .unset, .unset, .unset, .unset, .unset, .unset] [(.ref b1), (.ref b1)])) X7.here hx rfl (hb hby at_34) k) ?_
  refine own_st (T' := T7) (g' := (mkF m 38 #[.val (.int p1), .val (.int p2), .val (.int p3), .unset, .unset, .unset, .unset, .unset, .unset] [(.int (13 : Int32)), (.int (6 : Int32)), (.ref b1), (.ref b1)])) (fun _ k => XS.bipush (g := (mkF m 36 #[.val (.int p1), .val (.int p2), .val (.int p3), .unset, .unset, .unset, .unset, .unset, .unset] [(.int (6 : Int32)), (.ref b1), (.ref b1)])) X7.here hx rfl (hb hby at_36) k) ?_
  obtain ⟨cl8, Ar8, qk8, Sz8, Nn8, Hs8, Gs8⟩ := V7
  have hin8 : ¬ ((6 : Int32) < 0 ∨ cl8.slots.size ≤ ((6 : Int32)).toNatClampNeg) := inb_of Sz8 ⟨by decide, by decide⟩
  obtain ⟨T8, h8, X8, e8, W8, st8⟩ := stI X7 hx hZ e7 Ar8 (j := (6 : Int32)) hin8 (g := (mkF m 38 #[.val (.int p1), .val (.int p2), .val (.int p3), .unset, .unset, .unset, .unset, .unset, .unset] [(.int (13 : Int32)), (.int (6 : Int32)), (.ref b1), (.ref b1)])) rfl rfl (hb hby at_38)
  have V8 : Arv Z h8 b1 k1 .int (22 : Int32) [(.int (0 : Int32)), (.int (8 : Int32)), (.int (9 : Int32)), (.int (10 : Int32)), (.int (11 : Int32)), (.int (12 : Int32)), (.int (13 : Int32)), (.int (0 : Int32)), (.int (0 : Int32)), (.int (0 : Int32)), (.int (0 : Int32)), (.int (0 : Int32)), (.int (0 : Int32)), (.int (0 : Int32)), (.int (0 : Int32)), (.int (0 : Int32)), (.int (0 : Int32)), (.int (0 : Int32)), (.int (0 : Int32)), (.int (0 : Int32)), (.int (0 : Int32)), (.int (0 : Int32))] (.int (0 : Int32)) := Arv.set Ar8 qk8 Sz8 Nn8 Hs8 Gs8 rfl W8 6 rfl (Nat.le_of_ble_eq_true rfl)
  have Zs8 : n0 ≤ h8.size := Nat.le_trans Zs7 (Keep.of_wr W8).1
  obtain ⟨lc8, X8, N8⟩ := own_loc X8 (Fr.snoc X8 N7 gn_b1)
  refine own_st (T' := T8) (g' := (mkF m 39 #[.val (.int p1), .val (.int p2), .val (.int p3), .unset, .unset, .unset, .unset, .unset, .unset] [(.ref b1)])) (fun _ k => (st8) _ k) ?_
  refine own_st (T' := T8) (g' := (mkF m 40 #[.val (.int p1), .val (.int p2), .val (.int p3), .unset, .unset, .unset, .unset, .unset, .unset] [(.ref b1), (.ref b1)])) (fun _ k => XS.dup (g := (mkF m 39 #[.val (.int p1), .val (.int p2), .val (.int p3), .unset, .unset, .unset, .unset, .unset, .unset] [(.ref b1)])) X8.here hx rfl (hb hby at_39) rfl rfl k) ?_
  refine own_st (T' := T8) (g' := (mkF m 42 #[.val (.int p1), .val (.int p2), .val (.int p3), .unset, .unset, .unset, .unset, .unset, .unset] [(.int (7 : Int32)), (.ref b1), (.ref b1)])) (fun _ k => XS.bipush (g := (mkF m 40 #[.val (.int p1), .val (.int p2), .val (.int p3), .unset, .unset, .unset, .unset, .unset, .unset] [(.ref b1), (.ref b1)])) X8.here hx rfl (hb hby at_40) k) ?_
  refine own_st (T' := T8) (g' := (mkF m 44 #[.val (.int p1), .val (.int p2), .val (.int p3), .unset, .unset, .unset, .unset, .unset, .unset] [(.int (14 : Int32)), (.int (7 : Int32)), (.ref b1), (.ref b1)])) (fun _ k => XS.bipush (g := (mkF m 42 #[.val (.int p1), .val (.int p2), .val (.int p3), .unset, .unset, .unset, .unset, .unset, .unset] [(.int (7 : Int32)), (.ref b1), (.ref b1)])) X8.here hx rfl (hb hby at_42) k) ?_
  obtain ⟨cl9, Ar9, qk9, Sz9, Nn9, Hs9, Gs9⟩ := V8
  have hin9 : ¬ ((7 : Int32) < 0 ∨ cl9.slots.size ≤ ((7 : Int32)).toNatClampNeg) := inb_of Sz9 ⟨by decide, by decide⟩
  obtain ⟨T9, h9, X9, e9, W9, st9⟩ := stI X8 hx hZ e8 Ar9 (j := (7 : Int32)) hin9 (g := (mkF m 44 #[.val (.int p1), .val (.int p2), .val (.int p3), .unset, .unset, .unset, .unset, .unset, .unset] [(.int (14 : Int32)), (.int (7 : Int32)), (.ref b1), (.ref b1)])) rfl rfl (hb hby at_44)
  have V9 : Arv Z h9 b1 k1 .int (22 : Int32) [(.int (0 : Int32)), (.int (8 : Int32)), (.int (9 : Int32)), (.int (10 : Int32)), (.int (11 : Int32)), (.int (12 : Int32)), (.int (13 : Int32)), (.int (14 : Int32)), (.int (0 : Int32)), (.int (0 : Int32)), (.int (0 : Int32)), (.int (0 : Int32)), (.int (0 : Int32)), (.int (0 : Int32)), (.int (0 : Int32)), (.int (0 : Int32)), (.int (0 : Int32)), (.int (0 : Int32)), (.int (0 : Int32)), (.int (0 : Int32)), (.int (0 : Int32)), (.int (0 : Int32))] (.int (0 : Int32)) := Arv.set Ar9 qk9 Sz9 Nn9 Hs9 Gs9 rfl W9 7 rfl (Nat.le_of_ble_eq_true rfl)
  have Zs9 : n0 ≤ h9.size := Nat.le_trans Zs8 (Keep.of_wr W9).1
  obtain ⟨lc9, X9, N9⟩ := own_loc X9 (Fr.snoc X9 N8 gn_b1)
  refine own_st (T' := T9) (g' := (mkF m 45 #[.val (.int p1), .val (.int p2), .val (.int p3), .unset, .unset, .unset, .unset, .unset, .unset] [(.ref b1)])) (fun _ k => (st9) _ k) ?_
  refine own_st (T' := T9) (g' := (mkF m 46 #[.val (.int p1), .val (.int p2), .val (.int p3), .unset, .unset, .unset, .unset, .unset, .unset] [(.ref b1), (.ref b1)])) (fun _ k => XS.dup (g := (mkF m 45 #[.val (.int p1), .val (.int p2), .val (.int p3), .unset, .unset, .unset, .unset, .unset, .unset] [(.ref b1)])) X9.here hx rfl (hb hby at_45) rfl rfl k) ?_
  refine own_st (T' := T9) (g' := (mkF m 48 #[.val (.int p1), .val (.int p2), .val (.int p3), .unset, .unset, .unset, .unset, .unset, .unset] [(.int (8 : Int32)), (.ref b1), (.ref b1)])) (fun _ k => XS.bipush (g := (mkF m 46 #[.val (.int p1), .val (.int p2), .val (.int p3), .unset, .unset, .unset, .unset, .unset, .unset] [(.ref b1), (.ref b1)])) X9.here hx rfl (hb hby at_46) k) ?_
  refine own_st (T' := T9) (g' := (mkF m 50 #[.val (.int p1), .val (.int p2), .val (.int p3), .unset, .unset, .unset, .unset, .unset, .unset] [(.int (31 : Int32)), (.int (8 : Int32)), (.ref b1), (.ref b1)])) (fun _ k => XS.bipush (g := (mkF m 48 #[.val (.int p1), .val (.int p2), .val (.int p3), .unset, .unset, .unset, .unset, .unset, .unset] [(.int (8 : Int32)), (.ref b1), (.ref b1)])) X9.here hx rfl (hb hby at_48) k) ?_
  obtain ⟨cl10, Ar10, qk10, Sz10, Nn10, Hs10, Gs10⟩ := V9
  have hin10 : ¬ ((8 : Int32) < 0 ∨ cl10.slots.size ≤ ((8 : Int32)).toNatClampNeg) := inb_of Sz10 ⟨by decide, by decide⟩
  obtain ⟨T10, h10, X10, e10, W10, st10⟩ := stI X9 hx hZ e9 Ar10 (j := (8 : Int32)) hin10 (g := (mkF m 50 #[.val (.int p1), .val (.int p2), .val (.int p3), .unset, .unset, .unset, .unset, .unset, .unset] [(.int (31 : Int32)), (.int (8 : Int32)), (.ref b1), (.ref b1)])) rfl rfl (hb hby at_50)
  have V10 : Arv Z h10 b1 k1 .int (22 : Int32) [(.int (0 : Int32)), (.int (8 : Int32)), (.int (9 : Int32)), (.int (10 : Int32)), (.int (11 : Int32)), (.int (12 : Int32)), (.int (13 : Int32)), (.int (14 : Int32)), (.int (31 : Int32)), (.int (0 : Int32)), (.int (0 : Int32)), (.int (0 : Int32)), (.int (0 : Int32)), (.int (0 : Int32)), (.int (0 : Int32)), (.int (0 : Int32)), (.int (0 : Int32)), (.int (0 : Int32)), (.int (0 : Int32)), (.int (0 : Int32)), (.int (0 : Int32)), (.int (0 : Int32))] (.int (0 : Int32)) := Arv.set Ar10 qk10 Sz10 Nn10 Hs10 Gs10 rfl W10 8 rfl (Nat.le_of_ble_eq_true rfl)
  have Zs10 : n0 ≤ h10.size := Nat.le_trans Zs9 (Keep.of_wr W10).1
  obtain ⟨lc10, X10, N10⟩ := own_loc X10 (Fr.snoc X10 N9 gn_b1)
  refine own_st (T' := T10) (g' := (mkF m 51 #[.val (.int p1), .val (.int p2), .val (.int p3), .unset, .unset, .unset, .unset, .unset, .unset] [(.ref b1)])) (fun _ k => (st10) _ k) ?_
  refine own_st (T' := T10) (g' := (mkF m 52 #[.val (.int p1), .val (.int p2), .val (.int p3), .unset, .unset, .unset, .unset, .unset, .unset] [(.ref b1), (.ref b1)])) (fun _ k => XS.dup (g := (mkF m 51 #[.val (.int p1), .val (.int p2), .val (.int p3), .unset, .unset, .unset, .unset, .unset, .unset] [(.ref b1)])) X10.here hx rfl (hb hby at_51) rfl rfl k) ?_
  refine own_st (T' := T10) (g' := (mkF m 54 #[.val (.int p1), .val (.int p2), .val (.int p3), .unset, .unset, .unset, .unset, .unset, .unset] [(.int (9 : Int32)), (.ref b1), (.ref b1)])) (fun _ k => XS.bipush (g := (mkF m 52 #[.val (.int p1), .val (.int p2), .val (.int p3), .unset, .unset, .unset, .unset, .unset, .unset] [(.ref b1), (.ref b1)])) X10.here hx rfl (hb hby at_52) k) ?_
  refine own_st (T' := T10) (g' := (mkF m 56 #[.val (.int p1), .val (.int p2), .val (.int p3), .unset, .unset, .unset, .unset, .unset, .unset] [(.int (32 : Int32)), (.int (9 : Int32)), (.ref b1), (.ref b1)])) (fun _ k => XS.bipush (g := (mkF m 54 #[.val (.int p1), .val (.int p2), .val (.int p3), .unset, .unset, .unset, .unset, .unset, .unset] [(.int (9 : Int32)), (.ref b1), (.ref b1)])) X10.here hx rfl (hb hby at_54) k) ?_
  obtain ⟨cl11, Ar11, qk11, Sz11, Nn11, Hs11, Gs11⟩ := V10
  have hin11 : ¬ ((9 : Int32) < 0 ∨ cl11.slots.size ≤ ((9 : Int32)).toNatClampNeg) := inb_of Sz11 ⟨by decide, by decide⟩
  obtain ⟨T11, h11, X11, e11, W11, st11⟩ := stI X10 hx hZ e10 Ar11 (j := (9 : Int32)) hin11 (g := (mkF m 56 #[.val (.int p1), .val (.int p2), .val (.int p3), .unset, .unset, .unset, .unset, .unset, .unset] [(.int (32 : Int32)), (.int (9 : Int32)), (.ref b1), (.ref b1)])) rfl rfl (hb hby at_56)
  have V11 : Arv Z h11 b1 k1 .int (22 : Int32) [(.int (0 : Int32)), (.int (8 : Int32)), (.int (9 : Int32)), (.int (10 : Int32)), (.int (11 : Int32)), (.int (12 : Int32)), (.int (13 : Int32)), (.int (14 : Int32)), (.int (31 : Int32)), (.int (32 : Int32)), (.int (0 : Int32)), (.int (0 : Int32)), (.int (0 : Int32)), (.int (0 : Int32)), (.int (0 : Int32)), (.int (0 : Int32)), (.int (0 : Int32)), (.int (0 : Int32)), (.int (0 : Int32)), (.int (0 : Int32)), (.int (0 : Int32)), (.int (0 : Int32))] (.int (0 : Int32)) := Arv.set Ar11 qk11 Sz11 Nn11 Hs11 Gs11 rfl W11 9 rfl (Nat.le_of_ble_eq_true rfl)
  have Zs11 : n0 ≤ h11.size := Nat.le_trans Zs10 (Keep.of_wr W11).1
  obtain ⟨lc11, X11, N11⟩ := own_loc X11 (Fr.snoc X11 N10 gn_b1)
  refine own_st (T' := T11) (g' := (mkF m 57 #[.val (.int p1), .val (.int p2), .val (.int p3), .unset, .unset, .unset, .unset, .unset, .unset] [(.ref b1)])) (fun _ k => (st11) _ k) ?_
  refine own_st (T' := T11) (g' := (mkF m 58 #[.val (.int p1), .val (.int p2), .val (.int p3), .unset, .unset, .unset, .unset, .unset, .unset] [(.ref b1), (.ref b1)])) (fun _ k => XS.dup (g := (mkF m 57 #[.val (.int p1), .val (.int p2), .val (.int p3), .unset, .unset, .unset, .unset, .unset, .unset] [(.ref b1)])) X11.here hx rfl (hb hby at_57) rfl rfl k) ?_
  refine own_st (T' := T11) (g' := (mkF m 60 #[.val (.int p1), .val (.int p2), .val (.int p3), .unset, .unset, .unset, .unset, .unset, .unset] [(.int (10 : Int32)), (.ref b1), (.ref b1)])) (fun _ k => XS.bipush (g := (mkF m 58 #[.val (.int p1), .val (.int p2), .val (.int p3), .unset, .unset, .unset, .unset, .unset, .unset] [(.ref b1), (.ref b1)])) X11.here hx rfl (hb hby at_58) k) ?_
  refine own_st (T' := T11) (g' := (mkF m 62 #[.val (.int p1), .val (.int p2), .val (.int p3), .unset, .unset, .unset, .unset, .unset, .unset] [(.int (55295 : Int32)), (.int (10 : Int32)), (.ref b1), (.ref b1)])) (fun _ k => (X11.ldcInt hx hown (mvT hZ (hw _ (List.mem_of_getElem? (i := 1) rfl))) (g := (mkF m 60 #[.val (.int p1), .val (.int p2), .val (.int p3), .unset, .unset, .unset, .unset, .unset, .unset] [(.int (10 : Int32)), (.ref b1), (.ref b1)])) rfl (hb hby at_60)) _ k) ?_
  obtain ⟨cl12, Ar12, qk12, Sz12, Nn12, Hs12, Gs12⟩ := V11
  have hin12 : ¬ ((10 : Int32) < 0 ∨ cl12.slots.size ≤ ((10 : Int32)).toNatClampNeg) := inb_of Sz12 ⟨by decide, by decide⟩
  obtain ⟨T12, h12, X12, e12, W12, st12⟩ := stI X11 hx hZ e11 Ar12 (j := (10 : Int32)) hin12 (g := (mkF m 62 #[.val (.int p1), .val (.int p2), .val (.int p3), .unset, .unset, .unset, .unset, .unset, .unset] [(.int (55295 : Int32)), (.int (10 : Int32)), (.ref b1), (.ref b1)])) rfl rfl (hb hby at_62)
  have V12 : Arv Z h12 b1 k1 .int (22 : Int32) [(.int (0 : Int32)), (.int (8 : Int32)), (.int (9 : Int32)), (.int (10 : Int32)), (.int (11 : Int32)), (.int (12 : Int32)), (.int (13 : Int32)), (.int (14 : Int32)), (.int (31 : Int32)), (.int (32 : Int32)), (.int (55295 : Int32)), (.int (0 : Int32)), (.int (0 : Int32)), (.int (0 : Int32)), (.int (0 : Int32)), (.int (0 : Int32)), (.int (0 : Int32)), (.int (0 : Int32)), (.int (0 : Int32)), (.int (0 : Int32)), (.int (0 : Int32)), (.int (0 : Int32))] (.int (0 : Int32)) := Arv.set Ar12 qk12 Sz12 Nn12 Hs12 Gs12 rfl W12 10 rfl (Nat.le_of_ble_eq_true rfl)
  have Zs12 : n0 ≤ h12.size := Nat.le_trans Zs11 (Keep.of_wr W12).1
  obtain ⟨lc12, X12, N12⟩ := own_loc X12 (Fr.snoc X12 N11 gn_b1)
  refine own_st (T' := T12) (g' := (mkF m 63 #[.val (.int p1), .val (.int p2), .val (.int p3), .unset, .unset, .unset, .unset, .unset, .unset] [(.ref b1)])) (fun _ k => (st12) _ k) ?_
  refine own_st (T' := T12) (g' := (mkF m 64 #[.val (.int p1), .val (.int p2), .val (.int p3), .unset, .unset, .unset, .unset, .unset, .unset] [(.ref b1), (.ref b1)])) (fun _ k => XS.dup (g := (mkF m 63 #[.val (.int p1), .val (.int p2), .val (.int p3), .unset, .unset, .unset, .unset, .unset, .unset] [(.ref b1)])) X12.here hx rfl (hb hby at_63) rfl rfl k) ?_
  refine own_st (T' := T12) (g' := (mkF m 66 #[.val (.int p1), .val (.int p2), .val (.int p3), .unset, .unset, .unset, .unset, .unset, .unset] [(.int (11 : Int32)), (.ref b1), (.ref b1)])) (fun _ k => XS.bipush (g := (mkF m 64 #[.val (.int p1), .val (.int p2), .val (.int p3), .unset, .unset, .unset, .unset, .unset, .unset] [(.ref b1), (.ref b1)])) X12.here hx rfl (hb hby at_64) k) ?_
  refine own_st (T' := T12) (g' := (mkF m 68 #[.val (.int p1), .val (.int p2), .val (.int p3), .unset, .unset, .unset, .unset, .unset, .unset] [(.int (55296 : Int32)), (.int (11 : Int32)), (.ref b1), (.ref b1)])) (fun _ k => (X12.ldcInt hx hown (mvT hZ (hw _ (List.mem_of_getElem? (i := 2) rfl))) (g := (mkF m 66 #[.val (.int p1), .val (.int p2), .val (.int p3), .unset, .unset, .unset, .unset, .unset, .unset] [(.int (11 : Int32)), (.ref b1), (.ref b1)])) rfl (hb hby at_66)) _ k) ?_
  obtain ⟨cl13, Ar13, qk13, Sz13, Nn13, Hs13, Gs13⟩ := V12
  have hin13 : ¬ ((11 : Int32) < 0 ∨ cl13.slots.size ≤ ((11 : Int32)).toNatClampNeg) := inb_of Sz13 ⟨by decide, by decide⟩
  obtain ⟨T13, h13, X13, e13, W13, st13⟩ := stI X12 hx hZ e12 Ar13 (j := (11 : Int32)) hin13 (g := (mkF m 68 #[.val (.int p1), .val (.int p2), .val (.int p3), .unset, .unset, .unset, .unset, .unset, .unset] [(.int (55296 : Int32)), (.int (11 : Int32)), (.ref b1), (.ref b1)])) rfl rfl (hb hby at_68)
  have V13 : Arv Z h13 b1 k1 .int (22 : Int32) [(.int (0 : Int32)), (.int (8 : Int32)), (.int (9 : Int32)), (.int (10 : Int32)), (.int (11 : Int32)), (.int (12 : Int32)), (.int (13 : Int32)), (.int (14 : Int32)), (.int (31 : Int32)), (.int (32 : Int32)), (.int (55295 : Int32)), (.int (55296 : Int32)), (.int (0 : Int32)), (.int (0 : Int32)), (.int (0 : Int32)), (.int (0 : Int32)), (.int (0 : Int32)), (.int (0 : Int32)), (.int (0 : Int32)), (.int (0 : Int32)), (.int (0 : Int32)), (.int (0 : Int32))] (.int (0 : Int32)) := Arv.set Ar13 qk13 Sz13 Nn13 Hs13 Gs13 rfl W13 11 rfl (Nat.le_of_ble_eq_true rfl)
  have Zs13 : n0 ≤ h13.size := Nat.le_trans Zs12 (Keep.of_wr W13).1
  obtain ⟨lc13, X13, N13⟩ := own_loc X13 (Fr.snoc X13 N12 gn_b1)
  refine own_st (T' := T13) (g' := (mkF m 69 #[.val (.int p1), .val (.int p2), .val (.int p3), .unset, .unset, .unset, .unset, .unset, .unset] [(.ref b1)])) (fun _ k => (st13) _ k) ?_
  refine own_st (T' := T13) (g' := (mkF m 70 #[.val (.int p1), .val (.int p2), .val (.int p3), .unset, .unset, .unset, .unset, .unset, .unset] [(.ref b1), (.ref b1)])) (fun _ k => XS.dup (g := (mkF m 69 #[.val (.int p1), .val (.int p2), .val (.int p3), .unset, .unset, .unset, .unset, .unset, .unset] [(.ref b1)])) X13.here hx rfl (hb hby at_69) rfl rfl k) ?_
  refine own_st (T' := T13) (g' := (mkF m 72 #[.val (.int p1), .val (.int p2), .val (.int p3), .unset, .unset, .unset, .unset, .unset, .unset] [(.int (12 : Int32)), (.ref b1), (.ref b1)])) (fun _ k => XS.bipush (g := (mkF m 70 #[.val (.int p1), .val (.int p2), .val (.int p3), .unset, .unset, .unset, .unset, .unset, .unset] [(.ref b1), (.ref b1)])) X13.here hx rfl (hb hby at_70) k) ?_
  refine own_st (T' := T13) (g' := (mkF m 74 #[.val (.int p1), .val (.int p2), .val (.int p3), .unset, .unset, .unset, .unset, .unset, .unset] [(.int (57343 : Int32)), (.int (12 : Int32)), (.ref b1), (.ref b1)])) (fun _ k => (X13.ldcInt hx hown (mvT hZ (hw _ (List.mem_of_getElem? (i := 3) rfl))) (g := (mkF m 72 #[.val (.int p1), .val (.int p2), .val (.int p3), .unset, .unset, .unset, .unset, .unset, .unset] [(.int (12 : Int32)), (.ref b1), (.ref b1)])) rfl (hb hby at_72)) _ k) ?_
  obtain ⟨cl14, Ar14, qk14, Sz14, Nn14, Hs14, Gs14⟩ := V13
  have hin14 : ¬ ((12 : Int32) < 0 ∨ cl14.slots.size ≤ ((12 : Int32)).toNatClampNeg) := inb_of Sz14 ⟨by decide, by decide⟩
  obtain ⟨T14, h14, X14, e14, W14, st14⟩ := stI X13 hx hZ e13 Ar14 (j := (12 : Int32)) hin14 (g := (mkF m 74 #[.val (.int p1), .val (.int p2), .val (.int p3), .unset, .unset, .unset, .unset, .unset, .unset] [(.int (57343 : Int32)), (.int (12 : Int32)), (.ref b1), (.ref b1)])) rfl rfl (hb hby at_74)
  have V14 : Arv Z h14 b1 k1 .int (22 : Int32) [(.int (0 : Int32)), (.int (8 : Int32)), (.int (9 : Int32)), (.int (10 : Int32)), (.int (11 : Int32)), (.int (12 : Int32)), (.int (13 : Int32)), (.int (14 : Int32)), (.int (31 : Int32)), (.int (32 : Int32)), (.int (55295 : Int32)), (.int (55296 : Int32)), (.int (57343 : Int32)), (.int (0 : Int32)), (.int (0 : Int32)), (.int (0 : Int32)), (.int (0 : Int32)), (.int (0 : Int32)), (.int (0 : Int32)), (.int (0 : Int32)), (.int (0 : Int32)), (.int (0 : Int32))] (.int (0 : Int32)) := Arv.set Ar14 qk14 Sz14 Nn14 Hs14 Gs14 rfl W14 12 rfl (Nat.le_of_ble_eq_true rfl)
  have Zs14 : n0 ≤ h14.size := Nat.le_trans Zs13 (Keep.of_wr W14).1
  obtain ⟨lc14, X14, N14⟩ := own_loc X14 (Fr.snoc X14 N13 gn_b1)
  refine own_st (T' := T14) (g' := (mkF m 75 #[.val (.int p1), .val (.int p2), .val (.int p3), .unset, .unset, .unset, .unset, .unset, .unset] [(.ref b1)])) (fun _ k => (st14) _ k) ?_
  refine own_st (T' := T14) (g' := (mkF m 76 #[.val (.int p1), .val (.int p2), .val (.int p3), .unset, .unset, .unset, .unset, .unset, .unset] [(.ref b1), (.ref b1)])) (fun _ k => XS.dup (g := (mkF m 75 #[.val (.int p1), .val (.int p2), .val (.int p3), .unset, .unset, .unset, .unset, .unset, .unset] [(.ref b1)])) X14.here hx rfl (hb hby at_75) rfl rfl k) ?_
  refine own_st (T' := T14) (g' := (mkF m 78 #[.val (.int p1), .val (.int p2), .val (.int p3), .unset, .unset, .unset, .unset, .unset, .unset] [(.int (13 : Int32)), (.ref b1), (.ref b1)])) (fun _ k => XS.bipush (g := (mkF m 76 #[.val (.int p1), .val (.int p2), .val (.int p3), .unset, .unset, .unset, .unset, .unset, .unset] [(.ref b1), (.ref b1)])) X14.here hx rfl (hb hby at_76) k) ?_
  refine own_st (T' := T14) (g' := (mkF m 80 #[.val (.int p1), .val (.int p2), .val (.int p3), .unset, .unset, .unset, .unset, .unset, .unset] [(.int (57344 : Int32)), (.int (13 : Int32)), (.ref b1), (.ref b1)])) (fun _ k => (X14.ldcInt hx hown (mvT hZ (hw _ (List.mem_of_getElem? (i := 4) rfl))) (g := (mkF m 78 #[.val (.int p1), .val (.int p2), .val (.int p3), .unset, .unset, .unset, .unset, .unset, .unset] [(.int (13 : Int32)), (.ref b1), (.ref b1)])) rfl (hb hby at_78)) _ k) ?_
  obtain ⟨cl15, Ar15, qk15, Sz15, Nn15, Hs15, Gs15⟩ := V14
  have hin15 : ¬ ((13 : Int32) < 0 ∨ cl15.slots.size ≤ ((13 : Int32)).toNatClampNeg) := inb_of Sz15 ⟨by decide, by decide⟩
  obtain ⟨T15, h15, X15, e15, W15, st15⟩ := stI X14 hx hZ e14 Ar15 (j := (13 : Int32)) hin15 (g := (mkF m 80 #[.val (.int p1), .val (.int p2), .val (.int p3), .unset, .unset, .unset, .unset, .unset, .unset] [(.int (57344 : Int32)), (.int (13 : Int32)), (.ref b1), (.ref b1)])) rfl rfl (hb hby at_80)
  have V15 : Arv Z h15 b1 k1 .int (22 : Int32) [(.int (0 : Int32)), (.int (8 : Int32)), (.int (9 : Int32)), (.int (10 : Int32)), (.int (11 : Int32)), (.int (12 : Int32)), (.int (13 : Int32)), (.int (14 : Int32)), (.int (31 : Int32)), (.int (32 : Int32)), (.int (55295 : Int32)), (.int (55296 : Int32)), (.int (57343 : Int32)), (.int (57344 : Int32)), (.int (0 : Int32)), (.int (0 : Int32)), (.int (0 : Int32)), (.int (0 : Int32)), (.int (0 : Int32)), (.int (0 : Int32)), (.int (0 : Int32)), (.int (0 : Int32))] (.int (0 : Int32)) := Arv.set Ar15 qk15 Sz15 Nn15 Hs15 Gs15 rfl W15 13 rfl (Nat.le_of_ble_eq_true rfl)
  have Zs15 : n0 ≤ h15.size := Nat.le_trans Zs14 (Keep.of_wr W15).1
  obtain ⟨lc15, X15, N15⟩ := own_loc X15 (Fr.snoc X15 N14 gn_b1)
  refine own_st (T' := T15) (g' := (mkF m 81 #[.val (.int p1), .val (.int p2), .val (.int p3), .unset, .unset, .unset, .unset, .unset, .unset] [(.ref b1)])) (fun _ k => (st15) _ k) ?_
  refine own_st (T' := T15) (g' := (mkF m 82 #[.val (.int p1), .val (.int p2), .val (.int p3), .unset, .unset, .unset, .unset, .unset, .unset] [(.ref b1), (.ref b1)])) (fun _ k => XS.dup (g := (mkF m 81 #[.val (.int p1), .val (.int p2), .val (.int p3), .unset, .unset, .unset, .unset, .unset, .unset] [(.ref b1)])) X15.here hx rfl (hb hby at_81) rfl rfl k) ?_
  refine own_st (T' := T15) (g' := (mkF m 84 #[.val (.int p1), .val (.int p2), .val (.int p3), .unset, .unset, .unset, .unset, .unset, .unset] [(.int (14 : Int32)), (.ref b1), (.ref b1)])) (fun _ k => XS.bipush (g := (mkF m 82 #[.val (.int p1), .val (.int p2), .val (.int p3), .unset, .unset, .unset, .unset, .unset, .unset] [(.ref b1), (.ref b1)])) X15.here hx rfl (hb hby at_82) k) ?_
  refine own_st (T' := T15) (g' := (mkF m 86 #[.val (.int p1), .val (.int p2), .val (.int p3), .unset, .unset, .unset, .unset, .unset, .unset] [(.int (65533 : Int32)), (.int (14 : Int32)), (.ref b1), (.ref b1)])) (fun _ k => (X15.ldcInt hx hown (mvT hZ (hw _ (List.mem_of_getElem? (i := 5) rfl))) (g := (mkF m 84 #[.val (.int p1), .val (.int p2), .val (.int p3), .unset, .unset, .unset, .unset, .unset, .unset] [(.int (14 : Int32)), (.ref b1), (.ref b1)])) rfl (hb hby at_84)) _ k) ?_
  obtain ⟨cl16, Ar16, qk16, Sz16, Nn16, Hs16, Gs16⟩ := V15
  have hin16 : ¬ ((14 : Int32) < 0 ∨ cl16.slots.size ≤ ((14 : Int32)).toNatClampNeg) := inb_of Sz16 ⟨by decide, by decide⟩
  obtain ⟨T16, h16, X16, e16, W16, st16⟩ := stI X15 hx hZ e15 Ar16 (j := (14 : Int32)) hin16 (g := (mkF m 86 #[.val (.int p1), .val (.int p2), .val (.int p3), .unset, .unset, .unset, .unset, .unset, .unset] [(.int (65533 : Int32)), (.int (14 : Int32)), (.ref b1), (.ref b1)])) rfl rfl (hb hby at_86)
  have V16 : Arv Z h16 b1 k1 .int (22 : Int32) [(.int (0 : Int32)), (.int (8 : Int32)), (.int (9 : Int32)), (.int (10 : Int32)), (.int (11 : Int32)), (.int (12 : Int32)), (.int (13 : Int32)), (.int (14 : Int32)), (.int (31 : Int32)), (.int (32 : Int32)), (.int (55295 : Int32)), (.int (55296 : Int32)), (.int (57343 : Int32)), (.int (57344 : Int32)), (.int (65533 : Int32)), (.int (0 : Int32)), (.int (0 : Int32)), (.int (0 : Int32)), (.int (0 : Int32)), (.int (0 : Int32)), (.int (0 : Int32)), (.int (0 : Int32))] (.int (0 : Int32)) := Arv.set Ar16 qk16 Sz16 Nn16 Hs16 Gs16 rfl W16 14 rfl (Nat.le_of_ble_eq_true rfl)
  have Zs16 : n0 ≤ h16.size := Nat.le_trans Zs15 (Keep.of_wr W16).1
  obtain ⟨lc16, X16, N16⟩ := own_loc X16 (Fr.snoc X16 N15 gn_b1)
  refine own_st (T' := T16) (g' := (mkF m 87 #[.val (.int p1), .val (.int p2), .val (.int p3), .unset, .unset, .unset, .unset, .unset, .unset] [(.ref b1)])) (fun _ k => (st16) _ k) ?_
  refine own_st (T' := T16) (g' := (mkF m 88 #[.val (.int p1), .val (.int p2), .val (.int p3), .unset, .unset, .unset, .unset, .unset, .unset] [(.ref b1), (.ref b1)])) (fun _ k => XS.dup (g := (mkF m 87 #[.val (.int p1), .val (.int p2), .val (.int p3), .unset, .unset, .unset, .unset, .unset, .unset] [(.ref b1)])) X16.here hx rfl (hb hby at_87) rfl rfl k) ?_
  refine own_st (T' := T16) (g' := (mkF m 90 #[.val (.int p1), .val (.int p2), .val (.int p3), .unset, .unset, .unset, .unset, .unset, .unset] [(.int (15 : Int32)), (.ref b1), (.ref b1)])) (fun _ k => XS.bipush (g := (mkF m 88 #[.val (.int p1), .val (.int p2), .val (.int p3), .unset, .unset, .unset, .unset, .unset, .unset] [(.ref b1), (.ref b1)])) X16.here hx rfl (hb hby at_88) k) ?_
  refine own_st (T' := T16) (g' := (mkF m 92 #[.val (.int p1), .val (.int p2), .val (.int p3), .unset, .unset, .unset, .unset, .unset, .unset] [(.int (65534 : Int32)), (.int (15 : Int32)), (.ref b1), (.ref b1)])) (fun _ k => (X16.ldcInt hx hown (mvT hZ (hw _ (List.mem_of_getElem? (i := 6) rfl))) (g := (mkF m 90 #[.val (.int p1), .val (.int p2), .val (.int p3), .unset, .unset, .unset, .unset, .unset, .unset] [(.int (15 : Int32)), (.ref b1), (.ref b1)])) rfl (hb hby at_90)) _ k) ?_
  obtain ⟨cl17, Ar17, qk17, Sz17, Nn17, Hs17, Gs17⟩ := V16
  have hin17 : ¬ ((15 : Int32) < 0 ∨ cl17.slots.size ≤ ((15 : Int32)).toNatClampNeg) := inb_of Sz17 ⟨by decide, by decide⟩
  obtain ⟨T17, h17, X17, e17, W17, st17⟩ := stI X16 hx hZ e16 Ar17 (j := (15 : Int32)) hin17 (g := (mkF m 92 #[.val (.int p1), .val (.int p2), .val (.int p3), .unset, .unset, .unset, .unset, .unset, .unset] [(.int (65534 : Int32)), (.int (15 : Int32)), (.ref b1), (.ref b1)])) rfl rfl (hb hby at_92)
  have V17 : Arv Z h17 b1 k1 .int (22 : Int32) [(.int (0 : Int32)), (.int (8 : Int32)), (.int (9 : Int32)), (.int (10 : Int32)), (.int (11 : Int32)), (.int (12 : Int32)), (.int (13 : Int32)), (.int (14 : Int32)), (.int (31 : Int32)), (.int (32 : Int32)), (.int (55295 : Int32)), (.int (55296 : Int32)), (.int (57343 : Int32)), (.int (57344 : Int32)), (.int (65533 : Int32)), (.int (65534 : Int32)), (.int (0 : Int32)), (.int (0 : Int32)), (.int (0 : Int32)), (.int (0 : Int32)), (.int (0 : Int32)), (.int (0 : Int32))] (.int (0 : Int32)) := Arv.set Ar17 qk17 Sz17 Nn17 Hs17 Gs17 rfl W17 15 rfl (Nat.le_of_ble_eq_true rfl)
  have Zs17 : n0 ≤ h17.size := Nat.le_trans Zs16 (Keep.of_wr W17).1
  obtain ⟨lc17, X17, N17⟩ := own_loc X17 (Fr.snoc X17 N16 gn_b1)
  refine own_st (T' := T17) (g' := (mkF m 93 #[.val (.int p1), .val (.int p2), .val (.int p3), .unset, .unset, .unset, .unset, .unset, .unset] [(.ref b1)])) (fun _ k => (st17) _ k) ?_
  refine own_st (T' := T17) (g' := (mkF m 94 #[.val (.int p1), .val (.int p2), .val (.int p3), .unset, .unset, .unset, .unset, .unset, .unset] [(.ref b1), (.ref b1)])) (fun _ k => XS.dup (g := (mkF m 93 #[.val (.int p1), .val (.int p2), .val (.int p3), .unset, .unset, .unset, .unset, .unset, .unset] [(.ref b1)])) X17.here hx rfl (hb hby at_93) rfl rfl k) ?_
  refine own_st (T' := T17) (g' := (mkF m 96 #[.val (.int p1), .val (.int p2), .val (.int p3), .unset, .unset, .unset, .unset, .unset, .unset] [(.int (16 : Int32)), (.ref b1), (.ref b1)])) (fun _ k => XS.bipush (g := (mkF m 94 #[.val (.int p1), .val (.int p2), .val (.int p3), .unset, .unset, .unset, .unset, .unset, .unset] [(.ref b1), (.ref b1)])) X17.here hx rfl (hb hby at_94) k) ?_
  refine own_st (T' := T17) (g' := (mkF m 98 #[.val (.int p1), .val (.int p2), .val (.int p3), .unset, .unset, .unset, .unset, .unset, .unset] [(.int (65535 : Int32)), (.int (16 : Int32)), (.ref b1), (.ref b1)])) (fun _ k => (X17.ldcInt hx hown (mvT hZ (hw _ (List.mem_of_getElem? (i := 7) rfl))) (g := (mkF m 96 #[.val (.int p1), .val (.int p2), .val (.int p3), .unset, .unset, .unset, .unset, .unset, .unset] [(.int (16 : Int32)), (.ref b1), (.ref b1)])) rfl (hb hby at_96)) _ k) ?_
  obtain ⟨cl18, Ar18, qk18, Sz18, Nn18, Hs18, Gs18⟩ := V17
  have hin18 : ¬ ((16 : Int32) < 0 ∨ cl18.slots.size ≤ ((16 : Int32)).toNatClampNeg) := inb_of Sz18 ⟨by decide, by decide⟩
  obtain ⟨T18, h18, X18, e18, W18, st18⟩ := stI X17 hx hZ e17 Ar18 (j := (16 : Int32)) hin18 (g := (mkF m 98 #[.val (.int p1), .val (.int p2), .val (.int p3), .unset, .unset, .unset, .unset, .unset, .unset] [(.int (65535 : Int32)), (.int (16 : Int32)), (.ref b1), (.ref b1)])) rfl rfl (hb hby at_98)
  have V18 : Arv Z h18 b1 k1 .int (22 : Int32) [(.int (0 : Int32)), (.int (8 : Int32)), (.int (9 : Int32)), (.int (10 : Int32)), (.int (11 : Int32)), (.int (12 : Int32)), (.int (13 : Int32)), (.int (14 : Int32)), (.int (31 : Int32)), (.int (32 : Int32)), (.int (55295 : Int32)), (.int (55296 : Int32)), (.int (57343 : Int32)), (.int (57344 : Int32)), (.int (65533 : Int32)), (.int (65534 : Int32)), (.int (65535 : Int32)), (.int (0 : Int32)), (.int (0 : Int32)), (.int (0 : Int32)), (.int (0 : Int32)), (.int (0 : Int32))] (.int (0 : Int32)) := Arv.set Ar18 qk18 Sz18 Nn18 Hs18 Gs18 rfl W18 16 rfl (Nat.le_of_ble_eq_true rfl)
  have Zs18 : n0 ≤ h18.size := Nat.le_trans Zs17 (Keep.of_wr W18).1
  obtain ⟨lc18, X18, N18⟩ := own_loc X18 (Fr.snoc X18 N17 gn_b1)
  refine own_st (T' := T18) (g' := (mkF m 99 #[.val (.int p1), .val (.int p2), .val (.int p3), .unset, .unset, .unset, .unset, .unset, .unset] [(.ref b1)])) (fun _ k => (st18) _ k) ?_
  refine own_st (T' := T18) (g' := (mkF m 100 #[.val (.int p1), .val (.int p2), .val (.int p3), .unset, .unset, .unset, .unset, .unset, .unset] [(.ref b1), (.ref b1)])) (fun _ k => XS.dup (g := (mkF m 99 #[.val (.int p1), .val (.int p2), .val (.int p3), .unset, .unset, .unset, .unset, .unset, .unset] [(.ref b1)])) X18.here hx rfl (hb hby at_99) rfl rfl k) ?_
  refine own_st (T' := T18) (g' := (mkF m 102 #[.val (.int p1), .val (.int p2), .val (.int p3), .unset, .unset, .unset, .unset, .unset, .unset] [(.int (17 : Int32)), (.ref b1), (.ref b1)])) (fun _ k => XS.bipush (g := (mkF m 100 #[.val (.int p1), .val (.int p2), .val (.int p3), .unset, .unset, .unset, .unset, .unset, .unset] [(.ref b1), (.ref b1)])) X18.here hx rfl (hb hby at_100) k) ?_
  refine own_st (T' := T18) (g' := (mkF m 104 #[.val (.int p1), .val (.int p2), .val (.int p3), .unset, .unset, .unset, .unset, .unset, .unset] [(.int (65536 : Int32)), (.int (17 : Int32)), (.ref b1), (.ref b1)])) (fun _ k => (X18.ldcInt hx hown (mvT hZ (hw _ (List.mem_of_getElem? (i := 8) rfl))) (g := (mkF m 102 #[.val (.int p1), .val (.int p2), .val (.int p3), .unset, .unset, .unset, .unset, .unset, .unset] [(.int (17 : Int32)), (.ref b1), (.ref b1)])) rfl (hb hby at_102)) _ k) ?_
  obtain ⟨cl19, Ar19, qk19, Sz19, Nn19, Hs19, Gs19⟩ := V18
  have hin19 : ¬ ((17 : Int32) < 0 ∨ cl19.slots.size ≤ ((17 : Int32)).toNatClampNeg) := inb_of Sz19 ⟨by decide, by decide⟩
  obtain ⟨T19, h19, X19, e19, W19, st19⟩ := stI X18 hx hZ e18 Ar19 (j := (17 : Int32)) hin19 (g := (mkF m 104 #[.val (.int p1), .val (.int p2), .val (.int p3), .unset, .unset, .unset, .unset, .unset, .unset] [(.int (65536 : Int32)), (.int (17 : Int32)), (.ref b1), (.ref b1)])) rfl rfl (hb hby at_104)
  have V19 : Arv Z h19 b1 k1 .int (22 : Int32) [(.int (0 : Int32)), (.int (8 : Int32)), (.int (9 : Int32)), (.int (10 : Int32)), (.int (11 : Int32)), (.int (12 : Int32)), (.int (13 : Int32)), (.int (14 : Int32)), (.int (31 : Int32)), (.int (32 : Int32)), (.int (55295 : Int32)), (.int (55296 : Int32)), (.int (57343 : Int32)), (.int (57344 : Int32)), (.int (65533 : Int32)), (.int (65534 : Int32)), (.int (65535 : Int32)), (.int (65536 : Int32)), (.int (0 : Int32)), (.int (0 : Int32)), (.int (0 : Int32)), (.int (0 : Int32))] (.int (0 : Int32)) := Arv.set Ar19 qk19 Sz19 Nn19 Hs19 Gs19 rfl W19 17 rfl (Nat.le_of_ble_eq_true rfl)
  have Zs19 : n0 ≤ h19.size := Nat.le_trans Zs18 (Keep.of_wr W19).1
  obtain ⟨lc19, X19, N19⟩ := own_loc X19 (Fr.snoc X19 N18 gn_b1)
  refine own_st (T' := T19) (g' := (mkF m 105 #[.val (.int p1), .val (.int p2), .val (.int p3), .unset, .unset, .unset, .unset, .unset, .unset] [(.ref b1)])) (fun _ k => (st19) _ k) ?_
  refine own_st (T' := T19) (g' := (mkF m 106 #[.val (.int p1), .val (.int p2), .val (.int p3), .unset, .unset, .unset, .unset, .unset, .unset] [(.ref b1), (.ref b1)])) (fun _ k => XS.dup (g := (mkF m 105 #[.val (.int p1), .val (.int p2), .val (.int p3), .unset, .unset, .unset, .unset, .unset, .unset] [(.ref b1)])) X19.here hx rfl (hb hby at_105) rfl rfl k) ?_
  refine own_st (T' := T19) (g' := (mkF m 108 #[.val (.int p1), .val (.int p2), .val (.int p3), .unset, .unset, .unset, .unset, .unset, .unset] [(.int (18 : Int32)), (.ref b1), (.ref b1)])) (fun _ k => XS.bipush (g := (mkF m 106 #[.val (.int p1), .val (.int p2), .val (.int p3), .unset, .unset, .unset, .unset, .unset, .unset] [(.ref b1), (.ref b1)])) X19.here hx rfl (hb hby at_106) k) ?_
  refine own_st (T' := T19) (g' := (mkF m 110 #[.val (.int p1), .val (.int p2), .val (.int p3), .unset, .unset, .unset, .unset, .unset, .unset] [(.int (1114111 : Int32)), (.int (18 : Int32)), (.ref b1), (.ref b1)])) (fun _ k => (X19.ldcInt hx hown (mvT hZ (hw _ (List.mem_of_getElem? (i := 9) rfl))) (g := (mkF m 108 #[.val (.int p1), .val (.int p2), .val (.int p3), .unset, .unset, .unset, .unset, .unset, .unset] [(.int (18 : Int32)), (.ref b1), (.ref b1)])) rfl (hb hby at_108)) _ k) ?_
  obtain ⟨cl20, Ar20, qk20, Sz20, Nn20, Hs20, Gs20⟩ := V19
  have hin20 : ¬ ((18 : Int32) < 0 ∨ cl20.slots.size ≤ ((18 : Int32)).toNatClampNeg) := inb_of Sz20 ⟨by decide, by decide⟩
  obtain ⟨T20, h20, X20, e20, W20, st20⟩ := stI X19 hx hZ e19 Ar20 (j := (18 : Int32)) hin20 (g := (mkF m 110 #[.val (.int p1), .val (.int p2), .val (.int p3), .unset, .unset, .unset, .unset, .unset, .unset] [(.int (1114111 : Int32)), (.int (18 : Int32)), (.ref b1), (.ref b1)])) rfl rfl (hb hby at_110)
  have V20 : Arv Z h20 b1 k1 .int (22 : Int32) [(.int (0 : Int32)), (.int (8 : Int32)), (.int (9 : Int32)), (.int (10 : Int32)), (.int (11 : Int32)), (.int (12 : Int32)), (.int (13 : Int32)), (.int (14 : Int32)), (.int (31 : Int32)), (.int (32 : Int32)), (.int (55295 : Int32)), (.int (55296 : Int32)), (.int (57343 : Int32)), (.int (57344 : Int32)), (.int (65533 : Int32)), (.int (65534 : Int32)), (.int (65535 : Int32)), (.int (65536 : Int32)), (.int (1114111 : Int32)), (.int (0 : Int32)), (.int (0 : Int32)), (.int (0 : Int32))] (.int (0 : Int32)) := Arv.set Ar20 qk20 Sz20 Nn20 Hs20 Gs20 rfl W20 18 rfl (Nat.le_of_ble_eq_true rfl)
  have Zs20 : n0 ≤ h20.size := Nat.le_trans Zs19 (Keep.of_wr W20).1
  obtain ⟨lc20, X20, N20⟩ := own_loc X20 (Fr.snoc X20 N19 gn_b1)
  refine own_st (T' := T20) (g' := (mkF m 111 #[.val (.int p1), .val (.int p2), .val (.int p3), .unset, .unset, .unset, .unset, .unset, .unset] [(.ref b1)])) (fun _ k => (st20) _ k) ?_
  refine own_st (T' := T20) (g' := (mkF m 112 #[.val (.int p1), .val (.int p2), .val (.int p3), .unset, .unset, .unset, .unset, .unset, .unset] [(.ref b1), (.ref b1)])) (fun _ k => XS.dup (g := (mkF m 111 #[.val (.int p1), .val (.int p2), .val (.int p3), .unset, .unset, .unset, .unset, .unset, .unset] [(.ref b1)])) X20.here hx rfl (hb hby at_111) rfl rfl k) ?_
  refine own_st (T' := T20) (g' := (mkF m 114 #[.val (.int p1), .val (.int p2), .val (.int p3), .unset, .unset, .unset, .unset, .unset, .unset] [(.int (19 : Int32)), (.ref b1), (.ref b1)])) (fun _ k => XS.bipush (g := (mkF m 112 #[.val (.int p1), .val (.int p2), .val (.int p3), .unset, .unset, .unset, .unset, .unset, .unset] [(.ref b1), (.ref b1)])) X20.here hx rfl (hb hby at_112) k) ?_
  refine own_st (T' := T20) (g' := (mkF m 116 #[.val (.int p1), .val (.int p2), .val (.int p3), .unset, .unset, .unset, .unset, .unset, .unset] [(.int (1114112 : Int32)), (.int (19 : Int32)), (.ref b1), (.ref b1)])) (fun _ k => (X20.ldcInt hx hown (mvT hZ (hw _ (List.mem_of_getElem? (i := 10) rfl))) (g := (mkF m 114 #[.val (.int p1), .val (.int p2), .val (.int p3), .unset, .unset, .unset, .unset, .unset, .unset] [(.int (19 : Int32)), (.ref b1), (.ref b1)])) rfl (hb hby at_114)) _ k) ?_
  obtain ⟨cl21, Ar21, qk21, Sz21, Nn21, Hs21, Gs21⟩ := V20
  have hin21 : ¬ ((19 : Int32) < 0 ∨ cl21.slots.size ≤ ((19 : Int32)).toNatClampNeg) := inb_of Sz21 ⟨by decide, by decide⟩
  obtain ⟨T21, h21, X21, e21, W21, st21⟩ := stI X20 hx hZ e20 Ar21 (j := (19 : Int32)) hin21 (g := (mkF m 116 #[.val (.int p1), .val (.int p2), .val (.int p3), .unset, .unset, .unset, .unset, .unset, .unset] [(.int (1114112 : Int32)), (.int (19 : Int32)), (.ref b1), (.ref b1)])) rfl rfl (hb hby at_116)
  have V21 : Arv Z h21 b1 k1 .int (22 : Int32) [(.int (0 : Int32)), (.int (8 : Int32)), (.int (9 : Int32)), (.int (10 : Int32)), (.int (11 : Int32)), (.int (12 : Int32)), (.int (13 : Int32)), (.int (14 : Int32)), (.int (31 : Int32)), (.int (32 : Int32)), (.int (55295 : Int32)), (.int (55296 : Int32)), (.int (57343 : Int32)), (.int (57344 : Int32)), (.int (65533 : Int32)), (.int (65534 : Int32)), (.int (65535 : Int32)), (.int (65536 : Int32)), (.int (1114111 : Int32)), (.int (1114112 : Int32)), (.int (0 : Int32)), (.int (0 : Int32))] (.int (0 : Int32)) := Arv.set Ar21 qk21 Sz21 Nn21 Hs21 Gs21 rfl W21 19 rfl (Nat.le_of_ble_eq_true rfl)
  have Zs21 : n0 ≤ h21.size := Nat.le_trans Zs20 (Keep.of_wr W21).1
  obtain ⟨lc21, X21, N21⟩ := own_loc X21 (Fr.snoc X21 N20 gn_b1)
  refine own_st (T' := T21) (g' := (mkF m 117 #[.val (.int p1), .val (.int p2), .val (.int p3), .unset, .unset, .unset, .unset, .unset, .unset] [(.ref b1)])) (fun _ k => (st21) _ k) ?_
  refine own_st (T' := T21) (g' := (mkF m 118 #[.val (.int p1), .val (.int p2), .val (.int p3), .unset, .unset, .unset, .unset, .unset, .unset] [(.ref b1), (.ref b1)])) (fun _ k => XS.dup (g := (mkF m 117 #[.val (.int p1), .val (.int p2), .val (.int p3), .unset, .unset, .unset, .unset, .unset, .unset] [(.ref b1)])) X21.here hx rfl (hb hby at_117) rfl rfl k) ?_
  refine own_st (T' := T21) (g' := (mkF m 120 #[.val (.int p1), .val (.int p2), .val (.int p3), .unset, .unset, .unset, .unset, .unset, .unset] [(.int (20 : Int32)), (.ref b1), (.ref b1)])) (fun _ k => XS.bipush (g := (mkF m 118 #[.val (.int p1), .val (.int p2), .val (.int p3), .unset, .unset, .unset, .unset, .unset, .unset] [(.ref b1), (.ref b1)])) X21.here hx rfl (hb hby at_118) k) ?_
  refine own_st (T' := T21) (g' := (mkF m 122 #[.val (.int p1), .val (.int p2), .val (.int p3), .unset, .unset, .unset, .unset, .unset, .unset] [(.int (-2147483648 : Int32)), (.int (20 : Int32)), (.ref b1), (.ref b1)])) (fun _ k => (X21.ldcInt hx hown (mvT hZ (hw _ (List.mem_of_getElem? (i := 11) rfl))) (g := (mkF m 120 #[.val (.int p1), .val (.int p2), .val (.int p3), .unset, .unset, .unset, .unset, .unset, .unset] [(.int (20 : Int32)), (.ref b1), (.ref b1)])) rfl (hb hby at_120)) _ k) ?_
  obtain ⟨cl22, Ar22, qk22, Sz22, Nn22, Hs22, Gs22⟩ := V21
  have hin22 : ¬ ((20 : Int32) < 0 ∨ cl22.slots.size ≤ ((20 : Int32)).toNatClampNeg) := inb_of Sz22 ⟨by decide, by decide⟩
  obtain ⟨T22, h22, X22, e22, W22, st22⟩ := stI X21 hx hZ e21 Ar22 (j := (20 : Int32)) hin22 (g := (mkF m 122 #[.val (.int p1), .val (.int p2), .val (.int p3), .unset, .unset, .unset, .unset, .unset, .unset] [(.int (-2147483648 : Int32)), (.int (20 : Int32)), (.ref b1), (.ref b1)])) rfl rfl (hb hby at_122)
  have V22 : Arv Z h22 b1 k1 .int (22 : Int32) [(.int (0 : Int32)), (.int (8 : Int32)), (.int (9 : Int32)), (.int (10 : Int32)), (.int (11 : Int32)), (.int (12 : Int32)), (.int (13 : Int32)), (.int (14 : Int32)), (.int (31 : Int32)), (.int (32 : Int32)), (.int (55295 : Int32)), (.int (55296 : Int32)), (.int (57343 : Int32)), (.int (57344 : Int32)), (.int (65533 : Int32)), (.int (65534 : Int32)), (.int (65535 : Int32)), (.int (65536 : Int32)), (.int (1114111 : Int32)), (.int (1114112 : Int32)), (.int (-2147483648 : Int32)), (.int (0 : Int32))] (.int (0 : Int32)) := Arv.set Ar22 qk22 Sz22 Nn22 Hs22 Gs22 rfl W22 20 rfl (Nat.le_of_ble_eq_true rfl)
  have Zs22 : n0 ≤ h22.size := Nat.le_trans Zs21 (Keep.of_wr W22).1
  obtain ⟨lc22, X22, N22⟩ := own_loc X22 (Fr.snoc X22 N21 gn_b1)
  refine own_st (T' := T22) (g' := (mkF m 123 #[.val (.int p1), .val (.int p2), .val (.int p3), .unset, .unset, .unset, .unset, .unset, .unset] [(.ref b1)])) (fun _ k => (st22) _ k) ?_
  refine own_st (T' := T22) (g' := (mkF m 124 #[.val (.int p1), .val (.int p2), .val (.int p3), .unset, .unset, .unset, .unset, .unset, .unset] [(.ref b1), (.ref b1)])) (fun _ k => XS.dup (g := (mkF m 123 #[.val (.int p1), .val (.int p2), .val (.int p3), .unset, .unset, .unset, .unset, .unset, .unset] [(.ref b1)])) X22.here hx rfl (hb hby at_123) rfl rfl k) ?_
  refine own_st (T' := T22) (g' := (mkF m 126 #[.val (.int p1), .val (.int p2), .val (.int p3), .unset, .unset, .unset, .unset, .unset, .unset] [(.int (21 : Int32)), (.ref b1), (.ref b1)])) (fun _ k => XS.bipush (g := (mkF m 124 #[.val (.int p1), .val (.int p2), .val (.int p3), .unset, .unset, .unset, .unset, .unset, .unset] [(.ref b1), (.ref b1)])) X22.here hx rfl (hb hby at_124) k) ?_
  refine own_st (T' := T22) (g' := (mkF m 128 #[.val (.int p1), .val (.int p2), .val (.int p3), .unset, .unset, .unset, .unset, .unset, .unset] [(.int (2147483647 : Int32)), (.int (21 : Int32)), (.ref b1), (.ref b1)])) (fun _ k => (X22.ldcInt hx hown (mvT hZ (hw _ (List.mem_of_getElem? (i := 12) rfl))) (g := (mkF m 126 #[.val (.int p1), .val (.int p2), .val (.int p3), .unset, .unset, .unset, .unset, .unset, .unset] [(.int (21 : Int32)), (.ref b1), (.ref b1)])) rfl (hb hby at_126)) _ k) ?_
  obtain ⟨cl23, Ar23, qk23, Sz23, Nn23, Hs23, Gs23⟩ := V22
  have hin23 : ¬ ((21 : Int32) < 0 ∨ cl23.slots.size ≤ ((21 : Int32)).toNatClampNeg) := inb_of Sz23 ⟨by decide, by decide⟩
  obtain ⟨T23, h23, X23, e23, W23, st23⟩ := stI X22 hx hZ e22 Ar23 (j := (21 : Int32)) hin23 (g := (mkF m 128 #[.val (.int p1), .val (.int p2), .val (.int p3), .unset, .unset, .unset, .unset, .unset, .unset] [(.int (2147483647 : Int32)), (.int (21 : Int32)), (.ref b1), (.ref b1)])) rfl rfl (hb hby at_128)
  have V23 : Arv Z h23 b1 k1 .int (22 : Int32) [(.int (0 : Int32)), (.int (8 : Int32)), (.int (9 : Int32)), (.int (10 : Int32)), (.int (11 : Int32)), (.int (12 : Int32)), (.int (13 : Int32)), (.int (14 : Int32)), (.int (31 : Int32)), (.int (32 : Int32)), (.int (55295 : Int32)), (.int (55296 : Int32)), (.int (57343 : Int32)), (.int (57344 : Int32)), (.int (65533 : Int32)), (.int (65534 : Int32)), (.int (65535 : Int32)), (.int (65536 : Int32)), (.int (1114111 : Int32)), (.int (1114112 : Int32)), (.int (-2147483648 : Int32)), (.int (2147483647 : Int32))] (.int (0 : Int32)) := Arv.set Ar23 qk23 Sz23 Nn23 Hs23 Gs23 rfl W23 21 rfl (Nat.le_of_ble_eq_true rfl)
  have Zs23 : n0 ≤ h23.size := Nat.le_trans Zs22 (Keep.of_wr W23).1
  obtain ⟨lc23, X23, N23⟩ := own_loc X23 (Fr.snoc X23 N22 gn_b1)
  refine own_st (T' := T23) (g' := (mkF m 129 #[.val (.int p1), .val (.int p2), .val (.int p3), .unset, .unset, .unset, .unset, .unset, .unset] [(.ref b1)])) (fun _ k => (st23) _ k) ?_
  refine own_st (T' := T23) (g' := (mkF m 130 #[.val (.int p1), .val (.int p2), .val (.int p3), .val (.ref b1), .unset, .unset, .unset, .unset, .unset] [])) (fun _ k => Jvm.Free.XS.astoreN (g := (mkF m 129 #[.val (.int p1), .val (.int p2), .val (.int p3), .unset, .unset, .unset, .unset, .unset, .unset] [(.ref b1)])) X23.here hx rfl (hb hby at_129) rfl rfl (l' := #[.val (.int p1), .val (.int p2), .val (.int p3), .val (.ref b1), .unset, .unset, .unset, .unset, .unset]) rfl k) ?_
  refine own_st (T' := T23) (g' := (mkF m 131 #[.val (.int p1), .val (.int p2), .val (.int p3), .val (.ref b1), .unset, .unset, .unset, .unset, .unset] [(.int p2)])) (fun _ k => Jvm.Free.XS.iloadN (g := (mkF m 130 #[.val (.int p1), .val (.int p2), .val (.int p3), .val (.ref b1), .unset, .unset, .unset, .unset, .unset] [])) X23.here hx rfl (hb hby at_130) rfl k) ?_
  refine own_st (T' := T23) (g' := (mkF m 133 #[.val (.int p1), .val (.int p2), .val (.int p3), .val (.ref b1), .unset, .unset, .unset, .unset, .unset] [(.int (2147483647 : Int32)), (.int p2)])) (fun _ k => (X23.ldcInt hx hown (mvT hZ (hw _ (List.mem_of_getElem? (i := 12) rfl))) (g := (mkF m 131 #[.val (.int p1), .val (.int p2), .val (.int p3), .val (.ref b1), .unset, .unset, .unset, .unset, .unset] [(.int p2)])) rfl (hb hby at_131)) _ k) ?_
  refine own_st (T' := T23) (g' := (mkF m 134 #[.val (.int p1), .val (.int p2), .val (.int p3), .val (.ref b1), .unset, .unset, .unset, .unset, .unset] [(.int (p2 &&& (2147483647 : Int32)))])) (fun _ k => Jvm.Free.XS.iand (g := (mkF m 133 #[.val (.int p1), .val (.int p2), .val (.int p3), .val (.ref b1), .unset, .unset, .unset, .unset, .unset] [(.int (2147483647 : Int32)), (.int p2)])) X23.here hx rfl (hb hby at_133) rfl k) ?_
  refine own_st (T' := T23) (g' := (mkF m 135 #[.val (.int p1), .val (.int p2), .val (.int p3), .val (.ref b1), .unset, .unset, .unset, .unset, .unset] [(.ref b1), (.int (p2 &&& (2147483647 : Int32)))])) (fun _ k => Jvm.Free.XS.aloadN (g := (mkF m 134 #[.val (.int p1), .val (.int p2), .val (.int p3), .val (.ref b1), .unset, .unset, .unset, .unset, .unset] [(.int (p2 &&& (2147483647 : Int32)))])) X23.here hx rfl (hb hby at_134) rfl rfl k) ?_
  obtain ⟨cl24, Ar24, -, Sz24, Nn24, -, -⟩ := id V23
  have al24 := X23.arraylength hx (by rw [e23]; exact Ar24.1) (State.isArrayOf_alike hZ.alike Ar24.2.1) (g := (mkF m 135 #[.val (.int p1), .val (.int p2), .val (.int p3), .val (.ref b1), .unset, .unset, .unset, .unset, .unset] [(.ref b1), (.int (p2 &&& (2147483647 : Int32)))])) rfl rfl (hb hby at_135)
  rw [len_of Sz24 Nn24] at al24
  refine own_st (T' := T23) (g' := (mkF m 136 #[.val (.int p1), .val (.int p2), .val (.int p3), .val (.ref b1), .unset, .unset, .unset, .unset, .unset] [(.int (22 : Int32)), (.int (p2 &&& (2147483647 : Int32)))])) (fun _ k => (al24) _ k) ?_
  refine own_st (T' := T23) (g' := (mkF m 137 #[.val (.int p1), .val (.int p2), .val (.int p3), .val (.ref b1), .unset, .unset, .unset, .unset, .unset] [(.int ((p2 &&& (2147483647 : Int32)) - ((p2 &&& (2147483647 : Int32)) / (22 : Int32)) * (22 : Int32)))])) (fun _ k => XS.irem (g := (mkF m 136 #[.val (.int p1), .val (.int p2), .val (.int p3), .val (.ref b1), .unset, .unset, .unset, .unset, .unset] [(.int (22 : Int32)), (.int (p2 &&& (2147483647 : Int32)))])) X23.here hx rfl (hb hby at_136) rfl (by decide) k) ?_
  refine own_st (T' := T23) (g' := (mkF m 139 #[.val (.int p1), .val (.int p2), .val (.int p3), .val (.ref b1), .val (.int ((p2 &&& (2147483647 : Int32)) - ((p2 &&& (2147483647 : Int32)) / (22 : Int32)) * (22 : Int32))), .unset, .unset, .unset, .unset] [])) (fun _ k => Jvm.Free.XS.istore (g := (mkF m 137 #[.val (.int p1), .val (.int p2), .val (.int p3), .val (.ref b1), .unset, .unset, .unset, .unset, .unset] [(.int ((p2 &&& (2147483647 : Int32)) - ((p2 &&& (2147483647 : Int32)) / (22 : Int32)) * (22 : Int32)))])) X23.here hx rfl (hb hby at_137) rfl (l' := #[.val (.int p1), .val (.int p2), .val (.int p3), .val (.ref b1), .val (.int ((p2 &&& (2147483647 : Int32)) - ((p2 &&& (2147483647 : Int32)) / (22 : Int32)) * (22 : Int32))), .unset, .unset, .unset, .unset]) rfl k) ?_
  refine own_st (T' := T23) (g' := (mkF m 140 #[.val (.int p1), .val (.int p2), .val (.int p3), .val (.ref b1), .val (.int ((p2 &&& (2147483647 : Int32)) - ((p2 &&& (2147483647 : Int32)) / (22 : Int32)) * (22 : Int32))), .unset, .unset, .unset, .unset] [(.int p3)])) (fun _ k => Jvm.Free.XS.iloadN (g := (mkF m 139 #[.val (.int p1), .val (.int p2), .val (.int p3), .val (.ref b1), .val (.int ((p2 &&& (2147483647 : Int32)) - ((p2 &&& (2147483647 : Int32)) / (22 : Int32)) * (22 : Int32))), .unset, .unset, .unset, .unset] [])) X23.here hx rfl (hb hby at_139) rfl k) ?_
  refine own_st (T' := T23) (g' := (mkF m 142 #[.val (.int p1), .val (.int p2), .val (.int p3), .val (.ref b1), .val (.int ((p2 &&& (2147483647 : Int32)) - ((p2 &&& (2147483647 : Int32)) / (22 : Int32)) * (22 : Int32))), .unset, .unset, .unset, .unset] [(.int (2147483647 : Int32)), (.int p3)])) (fun _ k => (X23.ldcInt hx hown (mvT hZ (hw _ (List.mem_of_getElem? (i := 12) rfl))) (g := (mkF m 140 #[.val (.int p1), .val (.int p2), .val (.int p3), .val (.ref b1), .val (.int ((p2 &&& (2147483647 : Int32)) - ((p2 &&& (2147483647 : Int32)) / (22 : Int32)) * (22 : Int32))), .unset, .unset, .unset, .unset] [(.int p3)])) rfl (hb hby at_140)) _ k) ?_
  refine own_st (T' := T23) (g' := (mkF m 143 #[.val (.int p1), .val (.int p2), .val (.int p3), .val (.ref b1), .val (.int ((p2 &&& (2147483647 : Int32)) - ((p2 &&& (2147483647 : Int32)) / (22 : Int32)) * (22 : Int32))), .unset, .unset, .unset, .unset] [(.int (p3 &&& (2147483647 : Int32)))])) (fun _ k => Jvm.Free.XS.iand (g := (mkF m 142 #[.val (.int p1), .val (.int p2), .val (.int p3), .val (.ref b1), .val (.int ((p2 &&& (2147483647 : Int32)) - ((p2 &&& (2147483647 : Int32)) / (22 : Int32)) * (22 : Int32))), .unset, .unset, .unset, .unset] [(.int (2147483647 : Int32)), (.int p3)])) X23.here hx rfl (hb hby at_142) rfl k) ?_
  refine own_st (T' := T23) (g' := (mkF m 144 #[.val (.int p1), .val (.int p2), .val (.int p3), .val (.ref b1), .val (.int ((p2 &&& (2147483647 : Int32)) - ((p2 &&& (2147483647 : Int32)) / (22 : Int32)) * (22 : Int32))), .unset, .unset, .unset, .unset] [(.int (3 : Int32)), (.int (p3 &&& (2147483647 : Int32)))])) (fun _ k => XS.iconst (g := (mkF m 143 #[.val (.int p1), .val (.int p2), .val (.int p3), .val (.ref b1), .val (.int ((p2 &&& (2147483647 : Int32)) - ((p2 &&& (2147483647 : Int32)) / (22 : Int32)) * (22 : Int32))), .unset, .unset, .unset, .unset] [(.int (p3 &&& (2147483647 : Int32)))])) X23.here hx rfl (hb hby at_143) k) ?_
  refine own_st (T' := T23) (g' := (mkF m 145 #[.val (.int p1), .val (.int p2), .val (.int p3), .val (.ref b1), .val (.int ((p2 &&& (2147483647 : Int32)) - ((p2 &&& (2147483647 : Int32)) / (22 : Int32)) * (22 : Int32))), .unset, .unset, .unset, .unset] [(.int ((p3 &&& (2147483647 : Int32)) - ((p3 &&& (2147483647 : Int32)) / (3 : Int32)) * (3 : Int32)))])) (fun _ k => XS.irem (g := (mkF m 144 #[.val (.int p1), .val (.int p2), .val (.int p3), .val (.ref b1), .val (.int ((p2 &&& (2147483647 : Int32)) - ((p2 &&& (2147483647 : Int32)) / (22 : Int32)) * (22 : Int32))), .unset, .unset, .unset, .unset] [(.int (3 : Int32)), (.int (p3 &&& (2147483647 : Int32)))])) X23.here hx rfl (hb hby at_144) rfl (by decide) k) ?_
  refine own_st (T' := T23) (g' := (mkF m 146 #[.val (.int p1), .val (.int p2), .val (.int p3), .val (.ref b1), .val (.int ((p2 &&& (2147483647 : Int32)) - ((p2 &&& (2147483647 : Int32)) / (22 : Int32)) * (22 : Int32))), .unset, .unset, .unset, .unset] [(.int (1 : Int32)), (.int ((p3 &&& (2147483647 : Int32)) - ((p3 &&& (2147483647 : Int32)) / (3 : Int32)) * (3 : Int32)))])) (fun _ k => XS.iconst (g := (mkF m 145 #[.val (.int p1), .val (.int p2), .val (.int p3), .val (.ref b1), .val (.int ((p2 &&& (2147483647 : Int32)) - ((p2 &&& (2147483647 : Int32)) / (22 : Int32)) * (22 : Int32))), .unset, .unset, .unset, .unset] [(.int ((p3 &&& (2147483647 : Int32)) - ((p3 &&& (2147483647 : Int32)) / (3 : Int32)) * (3 : Int32)))])) X23.here hx rfl (hb hby at_145) k) ?_
  refine own_st (T' := T23) (g' := (mkF m 147 #[.val (.int p1), .val (.int p2), .val (.int p3), .val (.ref b1), .val (.int ((p2 &&& (2147483647 : Int32)) - ((p2 &&& (2147483647 : Int32)) / (22 : Int32)) * (22 : Int32))), .unset, .unset, .unset, .unset] [(.int (((p3 &&& (2147483647 : Int32)) - ((p3 &&& (2147483647 : Int32)) / (3 : Int32)) * (3 : Int32)) - (1 : Int32)))])) (fun _ k => Jvm.Free.XS.isub (g := (mkF m 146 #[.val (.int p1), .val (.int p2), .val (.int p3), .val (.ref b1), .val (.int ((p2 &&& (2147483647 : Int32)) - ((p2 &&& (2147483647 : Int32)) / (22 : Int32)) * (22 : Int32))), .unset, .unset, .unset, .unset] [(.int (1 : Int32)), (.int ((p3 &&& (2147483647 : Int32)) - ((p3 &&& (2147483647 : Int32)) / (3 : Int32)) * (3 : Int32)))])) X23.here hx rfl (hb hby at_146) rfl k) ?_
  refine own_st (T' := T23) (g' := (mkF m 149 #[.val (.int p1), .val (.int p2), .val (.int p3), .val (.ref b1), .val (.int ((p2 &&& (2147483647 : Int32)) - ((p2 &&& (2147483647 : Int32)) / (22 : Int32)) * (22 : Int32))), .val (.int (((p3 &&& (2147483647 : Int32)) - ((p3 &&& (2147483647 : Int32)) / (3 : Int32)) * (3 : Int32)) - (1 : Int32))), .unset, .unset, .unset] [])) (fun _ k => Jvm.Free.XS.istore (g := (mkF m 147 #[.val (.int p1), .val (.int p2), .val (.int p3), .val (.ref b1), .val (.int ((p2 &&& (2147483647 : Int32)) - ((p2 &&& (2147483647 : Int32)) / (22 : Int32)) * (22 : Int32))), .unset, .unset, .unset, .unset] [(.int (((p3 &&& (2147483647 : Int32)) - ((p3 &&& (2147483647 : Int32)) / (3 : Int32)) * (3 : Int32)) - (1 : Int32)))])) X23.here hx rfl (hb hby at_147) rfl (l' := #[.val (.int p1), .val (.int p2), .val (.int p3), .val (.ref b1), .val (.int ((p2 &&& (2147483647 : Int32)) - ((p2 &&& (2147483647 : Int32)) / (22 : Int32)) * (22 : Int32))), .val (.int (((p3 &&& (2147483647 : Int32)) - ((p3 &&& (2147483647 : Int32)) / (3 : Int32)) * (3 : Int32)) - (1 : Int32))), .unset, .unset, .unset]) rfl k) ?_
  refine own_st (T' := T23) (g' := (mkF m 150 #[.val (.int p1), .val (.int p2), .val (.int p3), .val (.ref b1), .val (.int ((p2 &&& (2147483647 : Int32)) - ((p2 &&& (2147483647 : Int32)) / (22 : Int32)) * (22 : Int32))), .val (.int (((p3 &&& (2147483647 : Int32)) - ((p3 &&& (2147483647 : Int32)) / (3 : Int32)) * (3 : Int32)) - (1 : Int32))), .unset, .unset, .unset] [(.ref b1)])) (fun _ k => Jvm.Free.XS.aloadN (g := (mkF m 149 #[.val (.int p1), .val (.int p2), .val (.int p3), .val (.ref b1), .val (.int ((p2 &&& (2147483647 : Int32)) - ((p2 &&& (2147483647 : Int32)) / (22 : Int32)) * (22 : Int32))), .val (.int (((p3 &&& (2147483647 : Int32)) - ((p3 &&& (2147483647 : Int32)) / (3 : Int32)) * (3 : Int32)) - (1 : Int32))), .unset, .unset, .unset] [])) X23.here hx rfl (hb hby at_149) rfl rfl k) ?_
  refine own_st (T' := T23) (g' := (mkF m 152 #[.val (.int p1), .val (.int p2), .val (.int p3), .val (.ref b1), .val (.int ((p2 &&& (2147483647 : Int32)) - ((p2 &&& (2147483647 : Int32)) / (22 : Int32)) * (22 : Int32))), .val (.int (((p3 &&& (2147483647 : Int32)) - ((p3 &&& (2147483647 : Int32)) / (3 : Int32)) * (3 : Int32)) - (1 : Int32))), .unset, .unset, .unset] [(.int ((p2 &&& (2147483647 : Int32)) - ((p2 &&& (2147483647 : Int32)) / (22 : Int32)) * (22 : Int32))), (.ref b1)])) (fun _ k => Jvm.Free.XS.iload (g := (mkF m 150 #[.val (.int p1), .val (.int p2), .val (.int p3), .val (.ref b1), .val (.int ((p2 &&& (2147483647 : Int32)) - ((p2 &&& (2147483647 : Int32)) / (22 : Int32)) * (22 : Int32))), .val (.int (((p3 &&& (2147483647 : Int32)) - ((p3 &&& (2147483647 : Int32)) / (3 : Int32)) * (3 : Int32)) - (1 : Int32))), .unset, .unset, .unset] [(.ref b1)])) X23.here hx rfl (hb hby at_150) rfl k) ?_
  obtain ⟨cl25, Ar25, -, Sz25, Nn25, Hs25, Gs25⟩ := id V23
  obtain ⟨w25, hw25⟩ : ∃ w, w = ([(0 : Int32), (8 : Int32), (9 : Int32), (10 : Int32), (11 : Int32), (12 : Int32), (13 : Int32), (14 : Int32), (31 : Int32), (32 : Int32), (55295 : Int32), (55296 : Int32), (57343 : Int32), (57344 : Int32), (65533 : Int32), (65534 : Int32), (65535 : Int32), (65536 : Int32), (1114111 : Int32), (1114112 : Int32), (-2147483648 : Int32), (2147483647 : Int32)] : List Int32).getD (((p2 &&& (2147483647 : Int32)) - ((p2 &&& (2147483647 : Int32)) / (22 : Int32)) * (22 : Int32))).toNatClampNeg 0 := ⟨_, rfl⟩
  have hin25 : ¬ (((p2 &&& (2147483647 : Int32)) - ((p2 &&& (2147483647 : Int32)) / (22 : Int32)) * (22 : Int32)) < 0 ∨ cl25.slots.size ≤ (((p2 &&& (2147483647 : Int32)) - ((p2 &&& (2147483647 : Int32)) / (22 : Int32)) * (22 : Int32))).toNatClampNeg) := inb_of Sz25 (own_in _ _ (own_rem _ _ (own_and _) (by decide)).2.1 (own_rem _ _ (own_and _) (by decide)).2.2)
  have hat25 : cl25.slots[(((p2 &&& (2147483647 : Int32)) - ((p2 &&& (2147483647 : Int32)) / (22 : Int32)) * (22 : Int32))).toNatClampNeg]? = some (.int w25) := Has.at Hs25 hin25 ((own_getD [(0 : Int32), (8 : Int32), (9 : Int32), (10 : Int32), (11 : Int32), (12 : Int32), (13 : Int32), (14 : Int32), (31 : Int32), (32 : Int32), (55295 : Int32), (55296 : Int32), (57343 : Int32), (57344 : Int32), (65533 : Int32), (65534 : Int32), (65535 : Int32), (65536 : Int32), (1114111 : Int32), (1114112 : Int32), (-2147483648 : Int32), (2147483647 : Int32)] _).trans (congrArg Value.int hw25.symm))
  refine own_st (T' := T23) (g' := (mkF m 153 #[.val (.int p1), .val (.int p2), .val (.int p3), .val (.ref b1), .val (.int ((p2 &&& (2147483647 : Int32)) - ((p2 &&& (2147483647 : Int32)) / (22 : Int32)) * (22 : Int32))), .val (.int (((p3 &&& (2147483647 : Int32)) - ((p3 &&& (2147483647 : Int32)) / (3 : Int32)) * (3 : Int32)) - (1 : Int32))), .unset, .unset, .unset] [(.int w25)])) (fun _ k => (X23.iaload hx (j := ((p2 &&& (2147483647 : Int32)) - ((p2 &&& (2147483647 : Int32)) / (22 : Int32)) * (22 : Int32))) (v := (.int w25)) (by rw [e23]; exact Ar25.1) (State.isArrayOf_alike hZ.alike Ar25.2.1) Ar25.2.2 hin25 hat25 (g := (mkF m 152 #[.val (.int p1), .val (.int p2), .val (.int p3), .val (.ref b1), .val (.int ((p2 &&& (2147483647 : Int32)) - ((p2 &&& (2147483647 : Int32)) / (22 : Int32)) * (22 : Int32))), .val (.int (((p3 &&& (2147483647 : Int32)) - ((p3 &&& (2147483647 : Int32)) / (3 : Int32)) * (3 : Int32)) - (1 : Int32))), .unset, .unset, .unset] [(.int ((p2 &&& (2147483647 : Int32)) - ((p2 &&& (2147483647 : Int32)) / (22 : Int32)) * (22 : Int32))), (.ref b1)])) rfl rfl (hb hby at_152)) _ k) ?_
  refine own_st (T' := T23) (g' := (mkF m 155 #[.val (.int p1), .val (.int p2), .val (.int p3), .val (.ref b1), .val (.int ((p2 &&& (2147483647 : Int32)) - ((p2 &&& (2147483647 : Int32)) / (22 : Int32)) * (22 : Int32))), .val (.int (((p3 &&& (2147483647 : Int32)) - ((p3 &&& (2147483647 : Int32)) / (3 : Int32)) * (3 : Int32)) - (1 : Int32))), .unset, .unset, .unset] [(.int (((p3 &&& (2147483647 : Int32)) - ((p3 &&& (2147483647 : Int32)) / (3 : Int32)) * (3 : Int32)) - (1 : Int32))), (.int w25)])) (fun _ k => Jvm.Free.XS.iload (g := (mkF m 153 #[.val (.int p1), .val (.int p2), .val (.int p3), .val (.ref b1), .val (.int ((p2 &&& (2147483647 : Int32)) - ((p2 &&& (2147483647 : Int32)) / (22 : Int32)) * (22 : Int32))), .val (.int (((p3 &&& (2147483647 : Int32)) - ((p3 &&& (2147483647 : Int32)) / (3 : Int32)) * (3 : Int32)) - (1 : Int32))), .unset, .unset, .unset] [(.int w25)])) X23.here hx rfl (hb hby at_153) rfl k) ?_
  refine own_st (T' := T23) (g' := (mkF m 156 #[.val (.int p1), .val (.int p2), .val (.int p3), .val (.ref b1), .val (.int ((p2 &&& (2147483647 : Int32)) - ((p2 &&& (2147483647 : Int32)) / (22 : Int32)) * (22 : Int32))), .val (.int (((p3 &&& (2147483647 : Int32)) - ((p3 &&& (2147483647 : Int32)) / (3 : Int32)) * (3 : Int32)) - (1 : Int32))), .unset, .unset, .unset] [(.int (w25 + (((p3 &&& (2147483647 : Int32)) - ((p3 &&& (2147483647 : Int32)) / (3 : Int32)) * (3 : Int32)) - (1 : Int32))))])) (fun _ k => Jvm.Free.XS.iadd (g := (mkF m 155 #[.val (.int p1), .val (.int p2), .val (.int p3), .val (.ref b1), .val (.int ((p2 &&& (2147483647 : Int32)) - ((p2 &&& (2147483647 : Int32)) / (22 : Int32)) * (22 : Int32))), .val (.int (((p3 &&& (2147483647 : Int32)) - ((p3 &&& (2147483647 : Int32)) / (3 : Int32)) * (3 : Int32)) - (1 : Int32))), .unset, .unset, .unset] [(.int (((p3 &&& (2147483647 : Int32)) - ((p3 &&& (2147483647 : Int32)) / (3 : Int32)) * (3 : Int32)) - (1 : Int32))), (.int w25)])) X23.here hx rfl (hb hby at_155) rfl k) ?_
  refine own_st (T' := T23) (g' := (mkF m 158 #[.val (.int p1), .val (.int p2), .val (.int p3), .val (.ref b1), .val (.int ((p2 &&& (2147483647 : Int32)) - ((p2 &&& (2147483647 : Int32)) / (22 : Int32)) * (22 : Int32))), .val (.int (((p3 &&& (2147483647 : Int32)) - ((p3 &&& (2147483647 : Int32)) / (3 : Int32)) * (3 : Int32)) - (1 : Int32))), .val (.int (w25 + (((p3 &&& (2147483647 : Int32)) - ((p3 &&& (2147483647 : Int32)) / (3 : Int32)) * (3 : Int32)) - (1 : Int32)))), .unset, .unset] [])) (fun _ k => Jvm.Free.XS.istore (g := (mkF m 156 #[.val (.int p1), .val (.int p2), .val (.int p3), .val (.ref b1), .val (.int ((p2 &&& (2147483647 : Int32)) - ((p2 &&& (2147483647 : Int32)) / (22 : Int32)) * (22 : Int32))), .val (.int (((p3 &&& (2147483647 : Int32)) - ((p3 &&& (2147483647 : Int32)) / (3 : Int32)) * (3 : Int32)) - (1 : Int32))), .unset, .unset, .unset] [(.int (w25 + (((p3 &&& (2147483647 : Int32)) - ((p3 &&& (2147483647 : Int32)) / (3 : Int32)) * (3 : Int32)) - (1 : Int32))))])) X23.here hx rfl (hb hby at_156) rfl (l' := #[.val (.int p1), .val (.int p2), .val (.int p3), .val (.ref b1), .val (.int ((p2 &&& (2147483647 : Int32)) - ((p2 &&& (2147483647 : Int32)) / (22 : Int32)) * (22 : Int32))), .val (.int (((p3 &&& (2147483647 : Int32)) - ((p3 &&& (2147483647 : Int32)) / (3 : Int32)) * (3 : Int32)) - (1 : Int32))), .val (.int (w25 + (((p3 &&& (2147483647 : Int32)) - ((p3 &&& (2147483647 : Int32)) / (3 : Int32)) * (3 : Int32)) - (1 : Int32)))), .unset, .unset]) rfl k) ?_
  refine own_st (T' := T23) (g' := (mkF m 159 #[.val (.int p1), .val (.int p2), .val (.int p3), .val (.ref b1), .val (.int ((p2 &&& (2147483647 : Int32)) - ((p2 &&& (2147483647 : Int32)) / (22 : Int32)) * (22 : Int32))), .val (.int (((p3 &&& (2147483647 : Int32)) - ((p3 &&& (2147483647 : Int32)) / (3 : Int32)) * (3 : Int32)) - (1 : Int32))), .val (.int (w25 + (((p3 &&& (2147483647 : Int32)) - ((p3 &&& (2147483647 : Int32)) / (3 : Int32)) * (3 : Int32)) - (1 : Int32)))), .unset, .unset] [(.int p1)])) (fun _ k => Jvm.Free.XS.iloadN (g := (mkF m 158 #[.val (.int p1), .val (.int p2), .val (.int p3), .val (.ref b1), .val (.int ((p2 &&& (2147483647 : Int32)) - ((p2 &&& (2147483647 : Int32)) / (22 : Int32)) * (22 : Int32))), .val (.int (((p3 &&& (2147483647 : Int32)) - ((p3 &&& (2147483647 : Int32)) / (3 : Int32)) * (3 : Int32)) - (1 : Int32))), .val (.int (w25 + (((p3 &&& (2147483647 : Int32)) - ((p3 &&& (2147483647 : Int32)) / (3 : Int32)) * (3 : Int32)) - (1 : Int32)))), .unset, .unset] [])) X23.here hx rfl (hb hby at_158) rfl k) ?_
  obtain ⟨v26, T26, L26, X26, hQ26, st26⟩ := own_packS (Jvm.LawKit.callS X23 hx (y := (⟨"com/example/hollow_tree/hollowtree/xml/XmlChars", "isXmlChar", "(I)Z"⟩ : MethodName)) hown (mvT hZ (hw _ (List.mem_of_getElem? (i := 13) rfl))) (mvT hZ (hw _ (List.mem_of_getElem? (i := 14) rfl))) (mvT hZ (hw _ (List.mem_of_getElem? (i := 15) rfl))) (mvT hZ (hw _ (List.mem_of_getElem? (i := 16) rfl))) (by decide) (backOf (W := 0) (rm1 l Z a0 hw [] p1 h23 n0 Zs23 ) hZ (hw _ (List.mem_of_getElem? (i := 16) rfl)) (hw _ (List.mem_of_getElem? (i := 15) rfl)) (by decide) (by decide)) (g := (mkF m 159 #[.val (.int p1), .val (.int p2), .val (.int p3), .val (.ref b1), .val (.int ((p2 &&& (2147483647 : Int32)) - ((p2 &&& (2147483647 : Int32)) / (22 : Int32)) * (22 : Int32))), .val (.int (((p3 &&& (2147483647 : Int32)) - ((p3 &&& (2147483647 : Int32)) / (3 : Int32)) * (3 : Int32)) - (1 : Int32))), .val (.int (w25 + (((p3 &&& (2147483647 : Int32)) - ((p3 &&& (2147483647 : Int32)) / (3 : Int32)) * (3 : Int32)) - (1 : Int32)))), .unset, .unset] [(.int p1)])) rfl (by rw [hml]; rfl) (argsL := [(.int p1)]) (rest := []) (lenOf own_pd0_0 rfl) rfl (by show 2 * 0 + _ ≤ _; exact Nat.le_of_eq rfl) (hb hby at_159) (fun _ _ => ⟨rfl, e23, (by decide : 1 + 0 ≤ _), (by decide : 22 + 0 ≤ _)⟩))
  obtain ⟨rfl, N26q, e26⟩ := hQ26
  obtain ⟨lc26, X26, N26⟩ := own_loc X26 (Fr.app N23 N26q)
  refine own_st (T' := T26) (g' := (mkF m 162 #[.val (.int p1), .val (.int p2), .val (.int p3), .val (.ref b1), .val (.int ((p2 &&& (2147483647 : Int32)) - ((p2 &&& (2147483647 : Int32)) / (22 : Int32)) * (22 : Int32))), .val (.int (((p3 &&& (2147483647 : Int32)) - ((p3 &&& (2147483647 : Int32)) / (3 : Int32)) * (3 : Int32)) - (1 : Int32))), .val (.int (w25 + (((p3 &&& (2147483647 : Int32)) - ((p3 &&& (2147483647 : Int32)) / (3 : Int32)) * (3 : Int32)) - (1 : Int32)))), .unset, .unset] [(.int (own_f1_0 p1))])) (fun _ k => (st26) _ k) ?_
  refine own_st (T' := T26) (g' := (mkF m 163 #[.val (.int p1), .val (.int p2), .val (.int p3), .val (.ref b1), .val (.int ((p2 &&& (2147483647 : Int32)) - ((p2 &&& (2147483647 : Int32)) / (22 : Int32)) * (22 : Int32))), .val (.int (((p3 &&& (2147483647 : Int32)) - ((p3 &&& (2147483647 : Int32)) / (3 : Int32)) * (3 : Int32)) - (1 : Int32))), .val (.int (w25 + (((p3 &&& (2147483647 : Int32)) - ((p3 &&& (2147483647 : Int32)) / (3 : Int32)) * (3 : Int32)) - (1 : Int32)))), .unset, .unset] [(.int p1), (.int (own_f1_0 p1))])) (fun _ k => Jvm.Free.XS.iloadN (g := (mkF m 162 #[.val (.int p1), .val (.int p2), .val (.int p3), .val (.ref b1), .val (.int ((p2 &&& (2147483647 : Int32)) - ((p2 &&& (2147483647 : Int32)) / (22 : Int32)) * (22 : Int32))), .val (.int (((p3 &&& (2147483647 : Int32)) - ((p3 &&& (2147483647 : Int32)) / (3 : Int32)) * (3 : Int32)) - (1 : Int32))), .val (.int (w25 + (((p3 &&& (2147483647 : Int32)) - ((p3 &&& (2147483647 : Int32)) / (3 : Int32)) * (3 : Int32)) - (1 : Int32)))), .unset, .unset] [(.int (own_f1_0 p1))])) X26.here hx rfl (hb hby at_162) rfl k) ?_
  obtain ⟨v27, T27, L27, X27, hQ27, st27⟩ := own_packS (Jvm.LawKit.callS X26 hx (y := (⟨"com/example/hollow_tree/hollowtree/xml/XmlCharsIsXmlCharPinLaw", "ref", "(I)Z"⟩ : MethodName)) hown (mvT hZ (hw _ (List.mem_of_getElem? (i := 19) rfl))) (mvT hZ (hw _ (List.mem_of_getElem? (i := 20) rfl))) (mvT hZ (hw _ (List.mem_of_getElem? (i := 21) rfl))) (mvT hZ (hw _ (List.mem_of_getElem? (i := 22) rfl))) (by decide) (backOf (W := 1) (rm2 l Z a0 hw [] p1 h23 n0 Zs23 ) hZ (hw _ (List.mem_of_getElem? (i := 22) rfl)) (hw _ (List.mem_of_getElem? (i := 21) rfl)) (by decide) (by decide)) (g := (mkF m 163 #[.val (.int p1), .val (.int p2), .val (.int p3), .val (.ref b1), .val (.int ((p2 &&& (2147483647 : Int32)) - ((p2 &&& (2147483647 : Int32)) / (22 : Int32)) * (22 : Int32))), .val (.int (((p3 &&& (2147483647 : Int32)) - ((p3 &&& (2147483647 : Int32)) / (3 : Int32)) * (3 : Int32)) - (1 : Int32))), .val (.int (w25 + (((p3 &&& (2147483647 : Int32)) - ((p3 &&& (2147483647 : Int32)) / (3 : Int32)) * (3 : Int32)) - (1 : Int32)))), .unset, .unset] [(.int p1), (.int (own_f1_0 p1))])) rfl (by rw [hml]; rfl) (argsL := [(.int p1)]) (rest := [(.int (own_f1_0 p1))]) (lenOf own_pd0_0 rfl) rfl (by show 2 * 0 + _ ≤ _; exact Nat.le_of_eq rfl) (hb hby at_163) (fun _ _ => ⟨rfl, e26, (by decide : 1 + 0 ≤ _), (by decide : 22 + 0 ≤ _)⟩))
  obtain ⟨rfl, N27q, e27⟩ := hQ27
  obtain ⟨lc27, X27, N27⟩ := own_loc X27 (Fr.app N26 N27q)
  refine own_st (T' := T27) (g' := (mkF m 166 #[.val (.int p1), .val (.int p2), .val (.int p3), .val (.ref b1), .val (.int ((p2 &&& (2147483647 : Int32)) - ((p2 &&& (2147483647 : Int32)) / (22 : Int32)) * (22 : Int32))), .val (.int (((p3 &&& (2147483647 : Int32)) - ((p3 &&& (2147483647 : Int32)) / (3 : Int32)) * (3 : Int32)) - (1 : Int32))), .val (.int (w25 + (((p3 &&& (2147483647 : Int32)) - ((p3 &&& (2147483647 : Int32)) / (3 : Int32)) * (3 : Int32)) - (1 : Int32)))), .unset, .unset] [(.int (own_f2_0 p1)), (.int (own_f1_0 p1))])) (fun _ k => (st27) _ k) ?_
  refine own_st (T' := T27) (g' := (mkF m 169 #[.val (.int p1), .val (.int p2), .val (.int p3), .val (.ref b1), .val (.int ((p2 &&& (2147483647 : Int32)) - ((p2 &&& (2147483647 : Int32)) / (22 : Int32)) * (22 : Int32))), .val (.int (((p3 &&& (2147483647 : Int32)) - ((p3 &&& (2147483647 : Int32)) / (3 : Int32)) * (3 : Int32)) - (1 : Int32))), .val (.int (w25 + (((p3 &&& (2147483647 : Int32)) - ((p3 &&& (2147483647 : Int32)) / (3 : Int32)) * (3 : Int32)) - (1 : Int32)))), .unset, .unset] [])) (fun _ k => XS.icmpNo (g := (mkF m 166 #[.val (.int p1), .val (.int p2), .val (.int p3), .val (.ref b1), .val (.int ((p2 &&& (2147483647 : Int32)) - ((p2 &&& (2147483647 : Int32)) / (22 : Int32)) * (22 : Int32))), .val (.int (((p3 &&& (2147483647 : Int32)) - ((p3 &&& (2147483647 : Int32)) / (3 : Int32)) * (3 : Int32)) - (1 : Int32))), .val (.int (w25 + (((p3 &&& (2147483647 : Int32)) - ((p3 &&& (2147483647 : Int32)) / (3 : Int32)) * (3 : Int32)) - (1 : Int32)))), .unset, .unset] [(.int (own_f2_0 p1)), (.int (own_f1_0 p1))])) X27.here hx rfl (hb hby at_166) rfl (teq (own_same p1)).2 k) ?_
  refine own_st (T' := T27) (g' := (mkF m 170 #[.val (.int p1), .val (.int p2), .val (.int p3), .val (.ref b1), .val (.int ((p2 &&& (2147483647 : Int32)) - ((p2 &&& (2147483647 : Int32)) / (22 : Int32)) * (22 : Int32))), .val (.int (((p3 &&& (2147483647 : Int32)) - ((p3 &&& (2147483647 : Int32)) / (3 : Int32)) * (3 : Int32)) - (1 : Int32))), .val (.int (w25 + (((p3 &&& (2147483647 : Int32)) - ((p3 &&& (2147483647 : Int32)) / (3 : Int32)) * (3 : Int32)) - (1 : Int32)))), .unset, .unset] [(.int (1 : Int32))])) (fun _ k => XS.iconst (g := (mkF m 169 #[.val (.int p1), .val (.int p2), .val (.int p3), .val (.ref b1), .val (.int ((p2 &&& (2147483647 : Int32)) - ((p2 &&& (2147483647 : Int32)) / (22 : Int32)) * (22 : Int32))), .val (.int (((p3 &&& (2147483647 : Int32)) - ((p3 &&& (2147483647 : Int32)) / (3 : Int32)) * (3 : Int32)) - (1 : Int32))), .val (.int (w25 + (((p3 &&& (2147483647 : Int32)) - ((p3 &&& (2147483647 : Int32)) / (3 : Int32)) * (3 : Int32)) - (1 : Int32)))), .unset, .unset] [])) X27.here hx rfl (hb hby at_169) k) ?_
  refine own_st (T' := T27) (g' := (mkF m 174 #[.val (.int p1), .val (.int p2), .val (.int p3), .val (.ref b1), .val (.int ((p2 &&& (2147483647 : Int32)) - ((p2 &&& (2147483647 : Int32)) / (22 : Int32)) * (22 : Int32))), .val (.int (((p3 &&& (2147483647 : Int32)) - ((p3 &&& (2147483647 : Int32)) / (3 : Int32)) * (3 : Int32)) - (1 : Int32))), .val (.int (w25 + (((p3 &&& (2147483647 : Int32)) - ((p3 &&& (2147483647 : Int32)) / (3 : Int32)) * (3 : Int32)) - (1 : Int32)))), .unset, .unset] [(.int (1 : Int32))])) (fun _ k => XS.goto (g := (mkF m 170 #[.val (.int p1), .val (.int p2), .val (.int p3), .val (.ref b1), .val (.int ((p2 &&& (2147483647 : Int32)) - ((p2 &&& (2147483647 : Int32)) / (22 : Int32)) * (22 : Int32))), .val (.int (((p3 &&& (2147483647 : Int32)) - ((p3 &&& (2147483647 : Int32)) / (3 : Int32)) * (3 : Int32)) - (1 : Int32))), .val (.int (w25 + (((p3 &&& (2147483647 : Int32)) - ((p3 &&& (2147483647 : Int32)) / (3 : Int32)) * (3 : Int32)) - (1 : Int32)))), .unset, .unset] [(.int (1 : Int32))])) X27.here hx rfl (pc0 := 170) (pc' := 174) rfl (hb hby at_170) (by decide) (by decide) k) ?_
  refine own_st (T' := T27) (g' := (mkF m 176 #[.val (.int p1), .val (.int p2), .val (.int p3), .val (.ref b1), .val (.int ((p2 &&& (2147483647 : Int32)) - ((p2 &&& (2147483647 : Int32)) / (22 : Int32)) * (22 : Int32))), .val (.int (((p3 &&& (2147483647 : Int32)) - ((p3 &&& (2147483647 : Int32)) / (3 : Int32)) * (3 : Int32)) - (1 : Int32))), .val (.int (w25 + (((p3 &&& (2147483647 : Int32)) - ((p3 &&& (2147483647 : Int32)) / (3 : Int32)) * (3 : Int32)) - (1 : Int32)))), .val (.int (1 : Int32)), .unset] [])) (fun _ k => Jvm.Free.XS.istore (g := (mkF m 174 #[.val (.int p1), .val (.int p2), .val (.int p3), .val (.ref b1), .val (.int ((p2 &&& (2147483647 : Int32)) - ((p2 &&& (2147483647 : Int32)) / (22 : Int32)) * (22 : Int32))), .val (.int (((p3 &&& (2147483647 : Int32)) - ((p3 &&& (2147483647 : Int32)) / (3 : Int32)) * (3 : Int32)) - (1 : Int32))), .val (.int (w25 + (((p3 &&& (2147483647 : Int32)) - ((p3 &&& (2147483647 : Int32)) / (3 : Int32)) * (3 : Int32)) - (1 : Int32)))), .unset, .unset] [(.int (1 : Int32))])) X27.here hx rfl (hb hby at_174) rfl (l' := #[.val (.int p1), .val (.int p2), .val (.int p3), .val (.ref b1), .val (.int ((p2 &&& (2147483647 : Int32)) - ((p2 &&& (2147483647 : Int32)) / (22 : Int32)) * (22 : Int32))), .val (.int (((p3 &&& (2147483647 : Int32)) - ((p3 &&& (2147483647 : Int32)) / (3 : Int32)) * (3 : Int32)) - (1 : Int32))), .val (.int (w25 + (((p3 &&& (2147483647 : Int32)) - ((p3 &&& (2147483647 : Int32)) / (3 : Int32)) * (3 : Int32)) - (1 : Int32)))), .val (.int (1 : Int32)), .unset]) rfl k) ?_
  refine own_st (T' := T27) (g' := (mkF m 178 #[.val (.int p1), .val (.int p2), .val (.int p3), .val (.ref b1), .val (.int ((p2 &&& (2147483647 : Int32)) - ((p2 &&& (2147483647 : Int32)) / (22 : Int32)) * (22 : Int32))), .val (.int (((p3 &&& (2147483647 : Int32)) - ((p3 &&& (2147483647 : Int32)) / (3 : Int32)) * (3 : Int32)) - (1 : Int32))), .val (.int (w25 + (((p3 &&& (2147483647 : Int32)) - ((p3 &&& (2147483647 : Int32)) / (3 : Int32)) * (3 : Int32)) - (1 : Int32)))), .val (.int (1 : Int32)), .unset] [(.int (w25 + (((p3 &&& (2147483647 : Int32)) - ((p3 &&& (2147483647 : Int32)) / (3 : Int32)) * (3 : Int32)) - (1 : Int32))))])) (fun _ k => Jvm.Free.XS.iload (g := (mkF m 176 #[.val (.int p1), .val (.int p2), .val (.int p3), .val (.ref b1), .val (.int ((p2 &&& (2147483647 : Int32)) - ((p2 &&& (2147483647 : Int32)) / (22 : Int32)) * (22 : Int32))), .val (.int (((p3 &&& (2147483647 : Int32)) - ((p3 &&& (2147483647 : Int32)) / (3 : Int32)) * (3 : Int32)) - (1 : Int32))), .val (.int (w25 + (((p3 &&& (2147483647 : Int32)) - ((p3 &&& (2147483647 : Int32)) / (3 : Int32)) * (3 : Int32)) - (1 : Int32)))), .val (.int (1 : Int32)), .unset] [])) X27.here hx rfl (hb hby at_176) rfl k) ?_
  obtain ⟨v28, T28, L28, X28, hQ28, st28⟩ := own_packS (Jvm.LawKit.callS X27 hx (y := (⟨"com/example/hollow_tree/hollowtree/xml/XmlChars", "isXmlChar", "(I)Z"⟩ : MethodName)) hown (mvT hZ (hw _ (List.mem_of_getElem? (i := 13) rfl))) (mvT hZ (hw _ (List.mem_of_getElem? (i := 14) rfl))) (mvT hZ (hw _ (List.mem_of_getElem? (i := 15) rfl))) (mvT hZ (hw _ (List.mem_of_getElem? (i := 16) rfl))) (by decide) (backOf (W := 0) (rm1 l Z a0 hw [] (w25 + (((p3 &&& (2147483647 : Int32)) - ((p3 &&& (2147483647 : Int32)) / (3 : Int32)) * (3 : Int32)) - (1 : Int32))) h23 n0 Zs23 ) hZ (hw _ (List.mem_of_getElem? (i := 16) rfl)) (hw _ (List.mem_of_getElem? (i := 15) rfl)) (by decide) (by decide)) (g := (mkF m 178 #[.val (.int p1), .val (.int p2), .val (.int p3), .val (.ref b1), .val (.int ((p2 &&& (2147483647 : Int32)) - ((p2 &&& (2147483647 : Int32)) / (22 : Int32)) * (22 : Int32))), .val (.int (((p3 &&& (2147483647 : Int32)) - ((p3 &&& (2147483647 : Int32)) / (3 : Int32)) * (3 : Int32)) - (1 : Int32))), .val (.int (w25 + (((p3 &&& (2147483647 : Int32)) - ((p3 &&& (2147483647 : Int32)) / (3 : Int32)) * (3 : Int32)) - (1 : Int32)))), .val (.int (1 : Int32)), .unset] [(.int (w25 + (((p3 &&& (2147483647 : Int32)) - ((p3 &&& (2147483647 : Int32)) / (3 : Int32)) * (3 : Int32)) - (1 : Int32))))])) rfl (by rw [hml]; rfl) (argsL := [(.int (w25 + (((p3 &&& (2147483647 : Int32)) - ((p3 &&& (2147483647 : Int32)) / (3 : Int32)) * (3 : Int32)) - (1 : Int32))))]) (rest := []) (lenOf own_pd0_0 rfl) rfl (by show 2 * 0 + _ ≤ _; exact Nat.le_of_eq rfl) (hb hby at_178) (fun _ _ => ⟨rfl, e27, (by decide : 1 + 0 ≤ _), (by decide : 22 + 0 ≤ _)⟩))
  obtain ⟨rfl, N28q, e28⟩ := hQ28
  obtain ⟨lc28, X28, N28⟩ := own_loc X28 (Fr.app N27 N28q)
  refine own_st (T' := T28) (g' := (mkF m 181 #[.val (.int p1), .val (.int p2), .val (.int p3), .val (.ref b1), .val (.int ((p2 &&& (2147483647 : Int32)) - ((p2 &&& (2147483647 : Int32)) / (22 : Int32)) * (22 : Int32))), .val (.int (((p3 &&& (2147483647 : Int32)) - ((p3 &&& (2147483647 : Int32)) / (3 : Int32)) * (3 : Int32)) - (1 : Int32))), .val (.int (w25 + (((p3 &&& (2147483647 : Int32)) - ((p3 &&& (2147483647 : Int32)) / (3 : Int32)) * (3 : Int32)) - (1 : Int32)))), .val (.int (1 : Int32)), .unset] [(.int (own_f1_0 (w25 + (((p3 &&& (2147483647 : Int32)) - ((p3 &&& (2147483647 : Int32)) / (3 : Int32)) * (3 : Int32)) - (1 : Int32)))))])) (fun _ k => (st28) _ k) ?_
  refine own_st (T' := T28) (g' := (mkF m 183 #[.val (.int p1), .val (.int p2), .val (.int p3), .val (.ref b1), .val (.int ((p2 &&& (2147483647 : Int32)) - ((p2 &&& (2147483647 : Int32)) / (22 : Int32)) * (22 : Int32))), .val (.int (((p3 &&& (2147483647 : Int32)) - ((p3 &&& (2147483647 : Int32)) / (3 : Int32)) * (3 : Int32)) - (1 : Int32))), .val (.int (w25 + (((p3 &&& (2147483647 : Int32)) - ((p3 &&& (2147483647 : Int32)) / (3 : Int32)) * (3 : Int32)) - (1 : Int32)))), .val (.int (1 : Int32)), .unset] [(.int (w25 + (((p3 &&& (2147483647 : Int32)) - ((p3 &&& (2147483647 : Int32)) / (3 : Int32)) * (3 : Int32)) - (1 : Int32)))), (.int (own_f1_0 (w25 + (((p3 &&& (2147483647 : Int32)) - ((p3 &&& (2147483647 : Int32)) / (3 : Int32)) * (3 : Int32)) - (1 : Int32)))))])) (fun _ k => Jvm.Free.XS.iload (g := (mkF m 181 #[.val (.int p1), .val (.int p2), .val (.int p3), .val (.ref b1), .val (.int ((p2 &&& (2147483647 : Int32)) - ((p2 &&& (2147483647 : Int32)) / (22 : Int32)) * (22 : Int32))), .val (.int (((p3 &&& (2147483647 : Int32)) - ((p3 &&& (2147483647 : Int32)) / (3 : Int32)) * (3 : Int32)) - (1 : Int32))), .val (.int (w25 + (((p3 &&& (2147483647 : Int32)) - ((p3 &&& (2147483647 : Int32)) / (3 : Int32)) * (3 : Int32)) - (1 : Int32)))), .val (.int (1 : Int32)), .unset] [(.int (own_f1_0 (w25 + (((p3 &&& (2147483647 : Int32)) - ((p3 &&& (2147483647 : Int32)) / (3 : Int32)) * (3 : Int32)) - (1 : Int32)))))])) X28.here hx rfl (hb hby at_181) rfl k) ?_
  obtain ⟨v29, T29, L29, X29, hQ29, st29⟩ := own_packS (Jvm.LawKit.callS X28 hx (y := (⟨"com/example/hollow_tree/hollowtree/xml/XmlCharsIsXmlCharPinLaw", "ref", "(I)Z"⟩ : MethodName)) hown (mvT hZ (hw _ (List.mem_of_getElem? (i := 19) rfl))) (mvT hZ (hw _ (List.mem_of_getElem? (i := 20) rfl))) (mvT hZ (hw _ (List.mem_of_getElem? (i := 21) rfl))) (mvT hZ (hw _ (List.mem_of_getElem? (i := 22) rfl))) (by decide) (backOf (W := 1) (rm2 l Z a0 hw [] (w25 + (((p3 &&& (2147483647 : Int32)) - ((p3 &&& (2147483647 : Int32)) / (3 : Int32)) * (3 : Int32)) - (1 : Int32))) h23 n0 Zs23 ) hZ (hw _ (List.mem_of_getElem? (i := 22) rfl)) (hw _ (List.mem_of_getElem? (i := 21) rfl)) (by decide) (by decide)) (g := (mkF m 183 #[.val (.int p1), .val (.int p2), .val (.int p3), .val (.ref b1), .val (.int ((p2 &&& (2147483647 : Int32)) - ((p2 &&& (2147483647 : Int32)) / (22 : Int32)) * (22 : Int32))), .val (.int (((p3 &&& (2147483647 : Int32)) - ((p3 &&& (2147483647 : Int32)) / (3 : Int32)) * (3 : Int32)) - (1 : Int32))), .val (.int (w25 + (((p3 &&& (2147483647 : Int32)) - ((p3 &&& (2147483647 : Int32)) / (3 : Int32)) * (3 : Int32)) - (1 : Int32)))), .val (.int (1 : Int32)), .unset] [(.int (w25 + (((p3 &&& (2147483647 : Int32)) - ((p3 &&& (2147483647 : Int32)) / (3 : Int32)) * (3 : Int32)) - (1 : Int32)))), (.int (own_f1_0 (w25 + (((p3 &&& (2147483647 : Int32)) - ((p3 &&& (2147483647 : Int32)) / (3 : Int32)) * (3 : Int32)) - (1 : Int32)))))])) rfl (by rw [hml]; rfl) (argsL := [(.int (w25 + (((p3 &&& (2147483647 : Int32)) - ((p3 &&& (2147483647 : Int32)) / (3 : Int32)) * (3 : Int32)) - (1 : Int32))))]) (rest := [(.int (own_f1_0 (w25 + (((p3 &&& (2147483647 : Int32)) - ((p3 &&& (2147483647 : Int32)) / (3 : Int32)) * (3 : Int32)) - (1 : Int32)))))]) (lenOf own_pd0_0 rfl) rfl (by show 2 * 0 + _ ≤ _; exact Nat.le_of_eq rfl) (hb hby at_183) (fun _ _ => ⟨rfl, e28, (by decide : 1 + 0 ≤ _), (by decide : 22 + 0 ≤ _)⟩))
  obtain ⟨rfl, N29q, e29⟩ := hQ29
  obtain ⟨lc29, X29, N29⟩ := own_loc X29 (Fr.app N28 N29q)
  refine own_st (T' := T29) (g' := (mkF m 186 #[.val (.int p1), .val (.int p2), .val (.int p3), .val (.ref b1), .val (.int ((p2 &&& (2147483647 : Int32)) - ((p2 &&& (2147483647 : Int32)) / (22 : Int32)) * (22 : Int32))), .val (.int (((p3 &&& (2147483647 : Int32)) - ((p3 &&& (2147483647 : Int32)) / (3 : Int32)) * (3 : Int32)) - (1 : Int32))), .val (.int (w25 + (((p3 &&& (2147483647 : Int32)) - ((p3 &&& (2147483647 : Int32)) / (3 : Int32)) * (3 : Int32)) - (1 : Int32)))), .val (.int (1 : Int32)), .unset] [(.int (own_f2_0 (w25 + (((p3 &&& (2147483647 : Int32)) - ((p3 &&& (2147483647 : Int32)) / (3 : Int32)) * (3 : Int32)) - (1 : Int32))))), (.int (own_f1_0 (w25 + (((p3 &&& (2147483647 : Int32)) - ((p3 &&& (2147483647 : Int32)) / (3 : Int32)) * (3 : Int32)) - (1 : Int32)))))])) (fun _ k => (st29) _ k) ?_
  refine own_st (T' := T29) (g' := (mkF m 189 #[.val (.int p1), .val (.int p2), .val (.int p3), .val (.ref b1), .val (.int ((p2 &&& (2147483647 : Int32)) - ((p2 &&& (2147483647 : Int32)) / (22 : Int32)) * (22 : Int32))), .val (.int (((p3 &&& (2147483647 : Int32)) - ((p3 &&& (2147483647 : Int32)) / (3 : Int32)) * (3 : Int32)) - (1 : Int32))), .val (.int (w25 + (((p3 &&& (2147483647 : Int32)) - ((p3 &&& (2147483647 : Int32)) / (3 : Int32)) * (3 : Int32)) - (1 : Int32)))), .val (.int (1 : Int32)), .unset] [])) (fun _ k => XS.icmpNo (g := (mkF m 186 #[.val (.int p1), .val (.int p2), .val (.int p3), .val (.ref b1), .val (.int ((p2 &&& (2147483647 : Int32)) - ((p2 &&& (2147483647 : Int32)) / (22 : Int32)) * (22 : Int32))), .val (.int (((p3 &&& (2147483647 : Int32)) - ((p3 &&& (2147483647 : Int32)) / (3 : Int32)) * (3 : Int32)) - (1 : Int32))), .val (.int (w25 + (((p3 &&& (2147483647 : Int32)) - ((p3 &&& (2147483647 : Int32)) / (3 : Int32)) * (3 : Int32)) - (1 : Int32)))), .val (.int (1 : Int32)), .unset] [(.int (own_f2_0 (w25 + (((p3 &&& (2147483647 : Int32)) - ((p3 &&& (2147483647 : Int32)) / (3 : Int32)) * (3 : Int32)) - (1 : Int32))))), (.int (own_f1_0 (w25 + (((p3 &&& (2147483647 : Int32)) - ((p3 &&& (2147483647 : Int32)) / (3 : Int32)) * (3 : Int32)) - (1 : Int32)))))])) X29.here hx rfl (hb hby at_186) rfl (teq (own_same (w25 + (((p3 &&& (2147483647 : Int32)) - ((p3 &&& (2147483647 : Int32)) / (3 : Int32)) * (3 : Int32)) - (1 : Int32))))).2 k) ?_
  refine own_st (T' := T29) (g' := (mkF m 190 #[.val (.int p1), .val (.int p2), .val (.int p3), .val (.ref b1), .val (.int ((p2 &&& (2147483647 : Int32)) - ((p2 &&& (2147483647 : Int32)) / (22 : Int32)) * (22 : Int32))), .val (.int (((p3 &&& (2147483647 : Int32)) - ((p3 &&& (2147483647 : Int32)) / (3 : Int32)) * (3 : Int32)) - (1 : Int32))), .val (.int (w25 + (((p3 &&& (2147483647 : Int32)) - ((p3 &&& (2147483647 : Int32)) / (3 : Int32)) * (3 : Int32)) - (1 : Int32)))), .val (.int (1 : Int32)), .unset] [(.int (1 : Int32))])) (fun _ k => XS.iconst (g := (mkF m 189 #[.val (.int p1), .val (.int p2), .val (.int p3), .val (.ref b1), .val (.int ((p2 &&& (2147483647 : Int32)) - ((p2 &&& (2147483647 : Int32)) / (22 : Int32)) * (22 : Int32))), .val (.int (((p3 &&& (2147483647 : Int32)) - ((p3 &&& (2147483647 : Int32)) / (3 : Int32)) * (3 : Int32)) - (1 : Int32))), .val (.int (w25 + (((p3 &&& (2147483647 : Int32)) - ((p3 &&& (2147483647 : Int32)) / (3 : Int32)) * (3 : Int32)) - (1 : Int32)))), .val (.int (1 : Int32)), .unset] [])) X29.here hx rfl (hb hby at_189) k) ?_
  refine own_st (T' := T29) (g' := (mkF m 194 #[.val (.int p1), .val (.int p2), .val (.int p3), .val (.ref b1), .val (.int ((p2 &&& (2147483647 : Int32)) - ((p2 &&& (2147483647 : Int32)) / (22 : Int32)) * (22 : Int32))), .val (.int (((p3 &&& (2147483647 : Int32)) - ((p3 &&& (2147483647 : Int32)) / (3 : Int32)) * (3 : Int32)) - (1 : Int32))), .val (.int (w25 + (((p3 &&& (2147483647 : Int32)) - ((p3 &&& (2147483647 : Int32)) / (3 : Int32)) * (3 : Int32)) - (1 : Int32)))), .val (.int (1 : Int32)), .unset] [(.int (1 : Int32))])) (fun _ k => XS.goto (g := (mkF m 190 #[.val (.int p1), .val (.int p2), .val (.int p3), .val (.ref b1), .val (.int ((p2 &&& (2147483647 : Int32)) - ((p2 &&& (2147483647 : Int32)) / (22 : Int32)) * (22 : Int32))), .val (.int (((p3 &&& (2147483647 : Int32)) - ((p3 &&& (2147483647 : Int32)) / (3 : Int32)) * (3 : Int32)) - (1 : Int32))), .val (.int (w25 + (((p3 &&& (2147483647 : Int32)) - ((p3 &&& (2147483647 : Int32)) / (3 : Int32)) * (3 : Int32)) - (1 : Int32)))), .val (.int (1 : Int32)), .unset] [(.int (1 : Int32))])) X29.here hx rfl (pc0 := 190) (pc' := 194) rfl (hb hby at_190) (by decide) (by decide) k) ?_
  refine own_st (T' := T29) (g' := (mkF m 196 #[.val (.int p1), .val (.int p2), .val (.int p3), .val (.ref b1), .val (.int ((p2 &&& (2147483647 : Int32)) - ((p2 &&& (2147483647 : Int32)) / (22 : Int32)) * (22 : Int32))), .val (.int (((p3 &&& (2147483647 : Int32)) - ((p3 &&& (2147483647 : Int32)) / (3 : Int32)) * (3 : Int32)) - (1 : Int32))), .val (.int (w25 + (((p3 &&& (2147483647 : Int32)) - ((p3 &&& (2147483647 : Int32)) / (3 : Int32)) * (3 : Int32)) - (1 : Int32)))), .val (.int (1 : Int32)), .val (.int (1 : Int32))] [])) (fun _ k => Jvm.Free.XS.istore (g := (mkF m 194 #[.val (.int p1), .val (.int p2), .val (.int p3), .val (.ref b1), .val (.int ((p2 &&& (2147483647 : Int32)) - ((p2 &&& (2147483647 : Int32)) / (22 : Int32)) * (22 : Int32))), .val (.int (((p3 &&& (2147483647 : Int32)) - ((p3 &&& (2147483647 : Int32)) / (3 : Int32)) * (3 : Int32)) - (1 : Int32))), .val (.int (w25 + (((p3 &&& (2147483647 : Int32)) - ((p3 &&& (2147483647 : Int32)) / (3 : Int32)) * (3 : Int32)) - (1 : Int32)))), .val (.int (1 : Int32)), .unset] [(.int (1 : Int32))])) X29.here hx rfl (hb hby at_194) rfl (l' := #[.val (.int p1), .val (.int p2), .val (.int p3), .val (.ref b1), .val (.int ((p2 &&& (2147483647 : Int32)) - ((p2 &&& (2147483647 : Int32)) / (22 : Int32)) * (22 : Int32))), .val (.int (((p3 &&& (2147483647 : Int32)) - ((p3 &&& (2147483647 : Int32)) / (3 : Int32)) * (3 : Int32)) - (1 : Int32))), .val (.int (w25 + (((p3 &&& (2147483647 : Int32)) - ((p3 &&& (2147483647 : Int32)) / (3 : Int32)) * (3 : Int32)) - (1 : Int32)))), .val (.int (1 : Int32)), .val (.int (1 : Int32))]) rfl k) ?_
  refine own_st (T' := T29) (g' := (mkF m 198 #[.val (.int p1), .val (.int p2), .val (.int p3), .val (.ref b1), .val (.int ((p2 &&& (2147483647 : Int32)) - ((p2 &&& (2147483647 : Int32)) / (22 : Int32)) * (22 : Int32))), .val (.int (((p3 &&& (2147483647 : Int32)) - ((p3 &&& (2147483647 : Int32)) / (3 : Int32)) * (3 : Int32)) - (1 : Int32))), .val (.int (w25 + (((p3 &&& (2147483647 : Int32)) - ((p3 &&& (2147483647 : Int32)) / (3 : Int32)) * (3 : Int32)) - (1 : Int32)))), .val (.int (1 : Int32)), .val (.int (1 : Int32))] [(.int (1 : Int32))])) (fun _ k => Jvm.Free.XS.iload (g := (mkF m 196 #[.val (.int p1), .val (.int p2), .val (.int p3), .val (.ref b1), .val (.int ((p2 &&& (2147483647 : Int32)) - ((p2 &&& (2147483647 : Int32)) / (22 : Int32)) * (22 : Int32))), .val (.int (((p3 &&& (2147483647 : Int32)) - ((p3 &&& (2147483647 : Int32)) / (3 : Int32)) * (3 : Int32)) - (1 : Int32))), .val (.int (w25 + (((p3 &&& (2147483647 : Int32)) - ((p3 &&& (2147483647 : Int32)) / (3 : Int32)) * (3 : Int32)) - (1 : Int32)))), .val (.int (1 : Int32)), .val (.int (1 : Int32))] [])) X29.here hx rfl (hb hby at_196) rfl k) ?_
  refine own_st (T' := T29) (g' := (mkF m 201 #[.val (.int p1), .val (.int p2), .val (.int p3), .val (.ref b1), .val (.int ((p2 &&& (2147483647 : Int32)) - ((p2 &&& (2147483647 : Int32)) / (22 : Int32)) * (22 : Int32))), .val (.int (((p3 &&& (2147483647 : Int32)) - ((p3 &&& (2147483647 : Int32)) / (3 : Int32)) * (3 : Int32)) - (1 : Int32))), .val (.int (w25 + (((p3 &&& (2147483647 : Int32)) - ((p3 &&& (2147483647 : Int32)) / (3 : Int32)) * (3 : Int32)) - (1 : Int32)))), .val (.int (1 : Int32)), .val (.int (1 : Int32))] [])) (fun _ k => XS.ifNo (g := (mkF m 198 #[.val (.int p1), .val (.int p2), .val (.int p3), .val (.ref b1), .val (.int ((p2 &&& (2147483647 : Int32)) - ((p2 &&& (2147483647 : Int32)) / (22 : Int32)) * (22 : Int32))), .val (.int (((p3 &&& (2147483647 : Int32)) - ((p3 &&& (2147483647 : Int32)) / (3 : Int32)) * (3 : Int32)) - (1 : Int32))), .val (.int (w25 + (((p3 &&& (2147483647 : Int32)) - ((p3 &&& (2147483647 : Int32)) / (3 : Int32)) * (3 : Int32)) - (1 : Int32)))), .val (.int (1 : Int32)), .val (.int (1 : Int32))] [(.int (1 : Int32))])) X29.here hx rfl (hb hby at_198) rfl ((if0 _ _).trans (feq (by decide : ¬ ((1 : Int32) = (0 : Int32)))).1) k) ?_
  refine own_st (T' := T29) (g' := (mkF m 203 #[.val (.int p1), .val (.int p2), .val (.int p3), .val (.ref b1), .val (.int ((p2 &&& (2147483647 : Int32)) - ((p2 &&& (2147483647 : Int32)) / (22 : Int32)) * (22 : Int32))), .val (.int (((p3 &&& (2147483647 : Int32)) - ((p3 &&& (2147483647 : Int32)) / (3 : Int32)) * (3 : Int32)) - (1 : Int32))), .val (.int (w25 + (((p3 &&& (2147483647 : Int32)) - ((p3 &&& (2147483647 : Int32)) / (3 : Int32)) * (3 : Int32)) - (1 : Int32)))), .val (.int (1 : Int32)), .val (.int (1 : Int32))] [(.int (1 : Int32))])) (fun _ k => Jvm.Free.XS.iload (g := (mkF m 201 #[.val (.int p1), .val (.int p2), .val (.int p3), .val (.ref b1), .val (.int ((p2 &&& (2147483647 : Int32)) - ((p2 &&& (2147483647 : Int32)) / (22 : Int32)) * (22 : Int32))), .val (.int (((p3 &&& (2147483647 : Int32)) - ((p3 &&& (2147483647 : Int32)) / (3 : Int32)) * (3 : Int32)) - (1 : Int32))), .val (.int (w25 + (((p3 &&& (2147483647 : Int32)) - ((p3 &&& (2147483647 : Int32)) / (3 : Int32)) * (3 : Int32)) - (1 : Int32)))), .val (.int (1 : Int32)), .val (.int (1 : Int32))] [])) X29.here hx rfl (hb hby at_201) rfl k) ?_
  refine own_st (T' := T29) (g' := (mkF m 206 #[.val (.int p1), .val (.int p2), .val (.int p3), .val (.ref b1), .val (.int ((p2 &&& (2147483647 : Int32)) - ((p2 &&& (2147483647 : Int32)) / (22 : Int32)) * (22 : Int32))), .val (.int (((p3 &&& (2147483647 : Int32)) - ((p3 &&& (2147483647 : Int32)) / (3 : Int32)) * (3 : Int32)) - (1 : Int32))), .val (.int (w25 + (((p3 &&& (2147483647 : Int32)) - ((p3 &&& (2147483647 : Int32)) / (3 : Int32)) * (3 : Int32)) - (1 : Int32)))), .val (.int (1 : Int32)), .val (.int (1 : Int32))] [])) (fun _ k => XS.ifNo (g := (mkF m 203 #[.val (.int p1), .val (.int p2), .val (.int p3), .val (.ref b1), .val (.int ((p2 &&& (2147483647 : Int32)) - ((p2 &&& (2147483647 : Int32)) / (22 : Int32)) * (22 : Int32))), .val (.int (((p3 &&& (2147483647 : Int32)) - ((p3 &&& (2147483647 : Int32)) / (3 : Int32)) * (3 : Int32)) - (1 : Int32))), .val (.int (w25 + (((p3 &&& (2147483647 : Int32)) - ((p3 &&& (2147483647 : Int32)) / (3 : Int32)) * (3 : Int32)) - (1 : Int32)))), .val (.int (1 : Int32)), .val (.int (1 : Int32))] [(.int (1 : Int32))])) X29.here hx rfl (hb hby at_203) rfl ((if0 _ _).trans (feq (by decide : ¬ ((1 : Int32) = (0 : Int32)))).1) k) ?_
  refine own_st (T' := T29) (g' := (mkF m 207 #[.val (.int p1), .val (.int p2), .val (.int p3), .val (.ref b1), .val (.int ((p2 &&& (2147483647 : Int32)) - ((p2 &&& (2147483647 : Int32)) / (22 : Int32)) * (22 : Int32))), .val (.int (((p3 &&& (2147483647 : Int32)) - ((p3 &&& (2147483647 : Int32)) / (3 : Int32)) * (3 : Int32)) - (1 : Int32))), .val (.int (w25 + (((p3 &&& (2147483647 : Int32)) - ((p3 &&& (2147483647 : Int32)) / (3 : Int32)) * (3 : Int32)) - (1 : Int32)))), .val (.int (1 : Int32)), .val (.int (1 : Int32))] [(.int (1 : Int32))])) (fun _ k => XS.iconst (g := (mkF m 206 #[.val (.int p1), .val (.int p2), .val (.int p3), .val (.ref b1), .val (.int ((p2 &&& (2147483647 : Int32)) - ((p2 &&& (2147483647 : Int32)) / (22 : Int32)) * (22 : Int32))), .val (.int (((p3 &&& (2147483647 : Int32)) - ((p3 &&& (2147483647 : Int32)) / (3 : Int32)) * (3 : Int32)) - (1 : Int32))), .val (.int (w25 + (((p3 &&& (2147483647 : Int32)) - ((p3 &&& (2147483647 : Int32)) / (3 : Int32)) * (3 : Int32)) - (1 : Int32)))), .val (.int (1 : Int32)), .val (.int (1 : Int32))] [])) X29.here hx rfl (hb hby at_206) k) ?_
  refine own_st (T' := T29) (g' := (mkF m 211 #[.val (.int p1), .val (.int p2), .val (.int p3), .val (.ref b1), .val (.int ((p2 &&& (2147483647 : Int32)) - ((p2 &&& (2147483647 : Int32)) / (22 : Int32)) * (22 : Int32))), .val (.int (((p3 &&& (2147483647 : Int32)) - ((p3 &&& (2147483647 : Int32)) / (3 : Int32)) * (3 : Int32)) - (1 : Int32))), .val (.int (w25 + (((p3 &&& (2147483647 : Int32)) - ((p3 &&& (2147483647 : Int32)) / (3 : Int32)) * (3 : Int32)) - (1 : Int32)))), .val (.int (1 : Int32)), .val (.int (1 : Int32))] [(.int (1 : Int32))])) (fun _ k => XS.goto (g := (mkF m 207 #[.val (.int p1), .val (.int p2), .val (.int p3), .val (.ref b1), .val (.int ((p2 &&& (2147483647 : Int32)) - ((p2 &&& (2147483647 : Int32)) / (22 : Int32)) * (22 : Int32))), .val (.int (((p3 &&& (2147483647 : Int32)) - ((p3 &&& (2147483647 : Int32)) / (3 : Int32)) * (3 : Int32)) - (1 : Int32))), .val (.int (w25 + (((p3 &&& (2147483647 : Int32)) - ((p3 &&& (2147483647 : Int32)) / (3 : Int32)) * (3 : Int32)) - (1 : Int32)))), .val (.int (1 : Int32)), .val (.int (1 : Int32))] [(.int (1 : Int32))])) X29.here hx rfl (pc0 := 207) (pc' := 211) rfl (hb hby at_207) (by decide) (by decide) k) ?_
  exact own_end (Q := Q0 Z p1 p2 p3 h0 n0) (v := some (.int (nar .boolean (1 : Int32)))) X29 (fun h => by rw [Bd.returns] at h; cases h) (fun fs hr => retN X29 hx (t := .boolean) Bd.returns (by simp) (hb hby at_211) hr) (⟨rfl, N29⟩) (by decide) (by decide)
set_option maxRecDepth 65536 in
set_option maxHeartbeats 40000000 in
theorem comes_1 {Post : Tables → Env → Array Value → State → Outcome → State → Prop} (hpost : ∀ tb e args s v u, (limb_1_1.after args s (.returned v) u = true ∧ limb_1_2.after args s (.returned v) u = true ∧ True) → FrameEnd s (.returned v) u (Jvm.fieldLocs frame_1_writes args s ++ Jvm.arrayLocs frame_1_arrays args s ++ Jvm.staticLocs frame_1_statics s) 16 128 → Post tb e args s (.returned v) u) :
    ArmFor flags0 classFile x code maxLocals ret World_1 tables_1 room_1 Calls_1 rest_1 Pre_1 Post := by
  intro l hfl _ _ p e ha hc hk s m args below hf hA hF happ hP
  obtain ⟨hcalls, hrest, hpre⟩ := hP
  obtain ⟨-, -, -, hnamed, -, -, -, hat⟩ := (Spec.applies_iff hf).mp happ
  obtain ⟨hg, hn⟩ := and_e (Cond.before_iff.mp (show (Jvm.Cond.and given_1 narrow_1).before args s = true from hpre))
  obtain ⟨hcount, hg0⟩ := and_e hg
  obtain ⟨ga0, hg1⟩ := and_e hg0
  obtain ⟨ga1, hg2⟩ := and_e hg1
  obtain ⟨w0, w1, w2, rfl⟩ : ∃ w0 w1 w2 : Value, args = #[w0, w1, w2] := by
    have hs : args.size = 3 := by simpa [Cond.value, given_1] using hcount
    obtain ⟨L⟩ := args
    match L, hs with
    | [w0, w1, w2], _ => exact ⟨w0, w1, w2, rfl⟩
  have hw := fun d (hd : d ∈ tables_1) => atoms_spec (ws := Jvm.Cond.code x code maxLocals ret :: tables_1) hat d (List.mem_cons_of_mem _ hd)
  obtain ⟨i0, ei0⟩ := is_v ga0
  obtain rfl : w0 = (.int i0) := Option.some.inj ei0
  obtain ⟨i1, ei1⟩ := is_v ga1
  obtain rfl : w1 = (.int i1) := Option.some.inj ei1
  obtain ⟨i2, ei2⟩ := is_v hg2
  obtain rfl : w2 = (.int i2) := Option.some.inj ei2
  obtain ⟨n, o, h1, h2, h3, _, L, rfl, ⟨rfl, N⟩, hq⟩ := rm0 l s _ hw tables_1 i0 i1 i2 s.heap s.heap.size (Nat.le_refl _)  p e ha hc hk s m _ below hf ((Spec.applies_iff_loose hf).mp happ).1 ⟨rfl, State.Warmed39.refl s, rfl⟩ trivial
  refine ⟨n, _, h1, h2, h3, hpost _ _ _ _ _ _ ⟨Cond.after_iff.mpr rfl, Cond.after_iff.mpr (eq_i res_at (Term.int_eval (1)) rfl), trivial⟩ ⟨hq.1, hq.2.1, (hq.2.2.sift fun y hy => Or.inr (N y hy)).mono (by decide) (by decide)⟩⟩
theorem main_1_1 : Claimed_1_1 := comes_1 fun _ _ _ _ _ _ h hF => ⟨h.1, hF⟩
theorem main_1_2 : Claimed_1_2 := comes_1 fun _ _ _ _ _ _ h hF => ⟨h.2.1, hF⟩
end Jvm.Pilot.@@N@@
namespace Jvm.Pilot.@@N@@
open Jvm Jvm.ClassFile Sem Op Lib Jvm.Free Jvm.Stand Jvm.Pilot.@@N@@.Jvm.D
/-! MADE BY PROGRAM (witnessworld.py) out of the Statement's table words and the real class files: 9 classes; the members and pool entries that the words name. The judged class is class 1, her method 2. -/
namespace start1
open Jvm.ClassFile
def u (s : String) : CpInfo := .utf8 (stringToUtf16 s)
/-- a pool by its gaps: so many unusable entries, then the entry; so many at the end -/
def gap : Nat → List CpInfo → List CpInfo
  | 0, r => r
  | n + 1, r => .unusable :: gap n r
def poolList (es : List (Nat × CpInfo)) (last : Nat) : List CpInfo := es.foldr (fun e r => gap e.1 (e.2 :: r)) (gap last [])
def pool (es : List (Nat × CpInfo)) (last : Nat) : Array CpInfo := ⟨poolList es last⟩
def fileOf (pool : Array CpInfo) (this : Nat) (attrs : Array Attribute := #[]) (ms : Array MethodInfo := #[]) (fl : Nat := 33) (sup : Nat := 0) (ifs : Array Nat := #[]) (fds : Array FieldInfo := #[]) : ClassFile where
  minorVersion := 0
  majorVersion := 65
  constantPool := pool
  accessFlags := fl
  thisClass := this
  superClass := sup
  interfaces := ifs
  fields := fds
  methods := ms
  attributes := attrs
def plain (name : String) (sup : Option ClassId) : Class where
  name := name
  kind := .ordinary
  loader := none
  accessFlags := 33
  super := sup
  interfaces := #[]
  cf := none
  fields := #[]
  methods := #[]
  instanceTypes := #[]
  staticTypes := #[]
  resolved := #[]
  callSites := []
  init := .initialized
  statics := none
  mirror := none

def pool0 : Array CpInfo := pool [(5, u "<init>"), (0, u "()V"), (1, .class_ 10), (1, u "java/lang/Object")] 113

def k0m0 : Method := { name := "<init>", desc := "()V", sig := { parameters := [], returnType := none }, accessFlags := 1, code := none }
/-- java/lang/Object -/
def k0 : Class := { plain "java/lang/Object" none with
  accessFlags := 33
  interfaces := #[]
  cf := some (fileOf pool0 8 #[] #[{ accessFlags := 1, nameIndex := 5, descriptorIndex := 6, attributes := #[] }] 33 0 #[] #[])
  fields := #[]
  methods := #[k0m0]
  instanceTypes := #[]
  staticTypes := #[]
  resolved := Array.replicate 124 none
  statics := none }

def pool1 : Array CpInfo := pool [(2, .class_ 4), (1, u "java/lang/Object"), (0, u "<init>"), (0, u "()V"), (0, .integer 1114111), (0, .integer 55296), (0, .integer 57343), (0, .integer 65534), (0, .integer 65535), (0, .integer 55295), (0, .integer 57344), (0, .integer 65533), (0, .integer 65536), (0, .integer 1114112), (2, .integer 2147483648), (0, .integer 2147483647), (0, .methodref 22 23), (0, .class_ 24), (0, .nameAndType 25 26), (0, u "com/example/hollow_tree/hollowtree/xml/XmlChars"), (0, u "isXmlChar"), (0, u "(I)Z"), (0, .methodref 28 29), (0, .class_ 30), (0, .nameAndType 31 26), (0, u "com/example/hollow_tree/hollowtree/xml/XmlCharsIsXmlCharPinLaw"), (0, u "ref"), (3, u "law"), (0, u "(III)Z")] 4

def k1m0 : Method := { name := "<init>", desc := "()V", sig := { parameters := [], returnType := none }, accessFlags := 2, code := none }
def k1c1 : Code := { maxStack := 2, maxLocals := 1, code := method_2_code, exceptionTable := #[], attributes := #[] }
def k1m1 : Method := { name := "ref", desc := "(I)Z", sig := { parameters := [.int], returnType := some .boolean }, accessFlags := 10, code := some k1c1 }
def k1c2 : Code := { maxStack := 4, maxLocals := 9, code := code, exceptionTable := #[], attributes := #[] }
def k1m2 : Method := { name := "law", desc := "(III)Z", sig := { parameters := [.int, .int, .int], returnType := some .boolean }, accessFlags := 9, code := some k1c2 }
/-- com/example/hollow_tree/hollowtree/xml/XmlCharsIsXmlCharPinLaw -/
def k1 : Class := { plain "com/example/hollow_tree/hollowtree/xml/XmlCharsIsXmlCharPinLaw" (some 0) with
  accessFlags := 49
  interfaces := #[]
  cf := some (fileOf pool1 28 #[] #[{ accessFlags := 2, nameIndex := 5, descriptorIndex := 6, attributes := #[] }, { accessFlags := 10, nameIndex := 31, descriptorIndex := 26, attributes := #[] }, { accessFlags := 9, nameIndex := 35, descriptorIndex := 36, attributes := #[] }] 49 2 #[] #[])
  fields := #[]
  methods := #[k1m0, k1m1, k1m2]
  instanceTypes := #[]
  staticTypes := #[]
  resolved := Array.replicate 41 none
  statics := none }

def pool2 : Array CpInfo := pool [(2, .class_ 4), (1, u "java/lang/Object"), (0, u "<init>"), (0, u "()V"), (0, .integer 55295), (3, .integer 65533), (0, .integer 65536), (2, .class_ 17), (1, u "com/example/hollow_tree/hollowtree/xml/XmlChars"), (1, u "(I)Z"), (0, .integer 57344), (0, .integer 1114111), (5, u "isXmlChar")] 2

def k2m0 : Method := { name := "<init>", desc := "()V", sig := { parameters := [], returnType := none }, accessFlags := 2, code := none }
def k2c1 : Code := { maxStack := 2, maxLocals := 1, code := prog_315_method_5_code, exceptionTable := #[], attributes := #[] }
def k2m1 : Method := { name := "isXmlChar", desc := "(I)Z", sig := { parameters := [.int], returnType := some .boolean }, accessFlags := 9, code := some k2c1 }
/-- com/example/hollow_tree/hollowtree/xml/XmlChars -/
def k2 : Class := { plain "com/example/hollow_tree/hollowtree/xml/XmlChars" (some 0) with
  accessFlags := 33
  interfaces := #[]
  cf := some (fileOf pool2 15 #[] #[{ accessFlags := 2, nameIndex := 5, descriptorIndex := 6, attributes := #[] }, { accessFlags := 9, nameIndex := 27, descriptorIndex := 19, attributes := #[] }] 33 2 #[] #[])
  fields := #[]
  methods := #[k2m0, k2m1]
  instanceTypes := #[]
  staticTypes := #[]
  resolved := Array.replicate 30 none
  statics := none }

def pool3 : Array CpInfo := pool [(1, u "java/lang/Cloneable"), (0, .class_ 1), (0, u "java/lang/Object"), (0, .class_ 3)] 3

/-- java/lang/Cloneable -/
def k3 : Class := { plain "java/lang/Cloneable" (some 0) with
  accessFlags := 1537
  interfaces := #[]
  cf := some (fileOf pool3 2 #[] #[] 1537 4 #[] #[])
  fields := #[]
  methods := #[]
  instanceTypes := #[]
  staticTypes := #[]
  resolved := Array.replicate 8 none
  statics := none }

def pool4 : Array CpInfo := pool [(1, u "java/io/Serializable"), (0, .class_ 1), (0, u "java/lang/Object"), (0, .class_ 3)] 3

/-- java/io/Serializable -/
def k4 : Class := { plain "java/io/Serializable" (some 0) with
  accessFlags := 1537
  interfaces := #[]
  cf := some (fileOf pool4 2 #[] #[] 1537 4 #[] #[])
  fields := #[]
  methods := #[]
  instanceTypes := #[]
  staticTypes := #[]
  resolved := Array.replicate 8 none
  statics := none }

/-- the primitive byte -/
def k5 : Class := { plain "byte" none with kind := .primitive 'B', accessFlags := 0x411 }
/-- [B -/
def k6 : Class := { plain "[B" (some 0) with kind := .array 5 .byte, interfaces := #[3, 4], accessFlags := 1041 }

/-- the primitive int -/
def k7 : Class := { plain "int" none with kind := .primitive 'I', accessFlags := 0x411 }
/-- [I -/
def k8 : Class := { plain "[I" (some 0) with kind := .array 7 .int, interfaces := #[3, 4], accessFlags := 1041 }

def heap : Heap := #[]
def classes : Array Class := #[k0, k1, k2, k3, k4, k5, k6, k7, k8]
def interned : List (Array UInt16 × Addr) := []
def slotsUsed : Nat := 0
def theMethod : MethodId := ⟨1, 2⟩
def args0 : Array Value := #[.int 0, .int 3, .int 2]
def aboutOver (below : List Frame) : State where
  vm := { classes := classes, interned := interned.toArray }
  heap := heap
  slotsUsed := slotsUsed
  threads := #[{ frames := .invoking theMethod args0 :: below }]
def below0 : List Frame := [.native { method := ⟨0, 0⟩, args := #[] }]
def about1 : State := aboutOver below0
def p0 : Program := .bare "" "" ""
def e0 : Env := launch0.env 0 0 0
theorem w_frames : about1.frames = Frame.invoking theMethod args0 :: below0 := rfl
set_option maxRecDepth 65536 in
theorem w_args : argsFit about1.vm theMethod args0 = true := by decide +kernel
set_option maxRecDepth 65536 in
theorem w_heap : heapFits about1 = true := by decide +kernel
set_option maxRecDepth 65536 in
theorem w_runnable : about1.curStatus? = some .runnable := by decide +kernel
set_option maxRecDepth 65536 in
theorem w_alone : about1.alone = true := by decide +kernel
set_option maxRecDepth 65536 in
theorem w_named : about1.methodNamed? x = some theMethod := by decide +kernel
set_option maxRecDepth 65536 in
theorem w_hears : about1.hears theMethod below0 = true := by decide +kernel
set_option maxRecDepth 65536 in
theorem w_ripe : about1.ripe theMethod args0 below0 = true := by decide +kernel
theorem w_running : about1.status = .running := rfl
set_option maxRecDepth 65536 in
theorem w_room : about1.hasRoom e0.platform room_1 = true :=
  launch0.hasRoom_least _ room_1 (by decide +kernel) (by decide +kernel) (by decide +kernel) (by decide +kernel) (by decide +kernel) (by decide +kernel)
theorem allAtoms_all (ts : List Jvm.Cond) (a : Array Jvm.Value) (st : Jvm.State) : (allAtoms ts).before a st = ts.all (fun c => c.before a st) := by
  induction ts with
  | nil => rfl
  | cons c t ih =>
    show (Jvm.Cond.and c (allAtoms t)).before a st = _
    rw [Jvm.Cond.before_and, ih, List.all_cons]
def words1 : List Jvm.Cond := Jvm.Cond.code x code maxLocals ret :: tables_1
/-- a 'code' word, met by the world's own term for the bytes: nothing is compared byte by byte -/
theorem code_word {y : MethodName} {bytes : ByteArray} {mx : Nat} {rt : Option FieldType} {a : Array Value} {s : State} {m : MethodId} {meth : Method} {c : Code} (h1 : s.methodNamed? y = some m) (h2 : s.vm.method? m = some meth) (h3 : meth.code = some c) (h4 : c.code = bytes)
    (h5 : (c.maxLocals == mx && c.exceptionTable.isEmpty && decide (c.maxStack ≤ mostOperands) && decide (meth.sig.returnType = rt) && !meth.locks && decide (parseMethodDescriptor y.desc = some meth.sig)) = true) : (Jvm.Cond.code y bytes mx rt).before a s = true := by
  simp only [Bool.and_eq_true, beq_iff_eq, Bool.not_eq_true', decide_eq_true_eq] at h5
  obtain ⟨⟨⟨⟨⟨g1, g2⟩, g3⟩, g4⟩, g5⟩, g6⟩ := h5
  simp [Cond.before, Cond.holds, Cond.value, h1, h2, h3, h4, g1, g2, g3, g4, g5, g6]
def isCode : Jvm.Cond → Bool
  | .code _ _ _ _ => true
  | _ => false
theorem all_split {L : List Jvm.Cond} {P : Jvm.Cond → Bool} (h1 : L.all (fun c => isCode c || P c) = true) (h2 : ∀ c ∈ L.filter isCode, P c = true) : L.all P = true := by
  refine List.all_eq_true.mpr fun c hc => ?_
  have h := List.all_eq_true.mp h1 c hc
  rcases Bool.eq_false_or_eq_true (isCode c) with hi | hi
  · exact h2 c (List.mem_filter.mpr ⟨hc, hi⟩)
  · simpa [hi] using h
set_option maxRecDepth 65536 in
theorem w_c0 : (Jvm.Cond.code x code maxLocals ret).before args0 about1 = true := code_word (m := ⟨1, 2⟩) (meth := k1m2) (c := k1c2) (by decide +kernel) rfl rfl rfl (by decide +kernel)
set_option maxRecDepth 65536 in
theorem w_c1 : (Jvm.Cond.code ({ cls := "com/example/hollow_tree/hollowtree/xml/XmlChars", name := "isXmlChar", desc := "(I)Z" } : Jvm.MethodName) prog_315_method_5_code (1 : Nat) (Option.some Jvm.ClassFile.FieldType.boolean)).before args0 about1 = true := code_word (m := ⟨2, 1⟩) (meth := k2m1) (c := k2c1) (by decide +kernel) rfl rfl rfl (by decide +kernel)
set_option maxRecDepth 65536 in
theorem w_c2 : (Jvm.Cond.code ({ cls := "com/example/hollow_tree/hollowtree/xml/XmlCharsIsXmlCharPinLaw", name := "ref", desc := "(I)Z" } : Jvm.MethodName) method_2_code (1 : Nat) (Option.some Jvm.ClassFile.FieldType.boolean)).before args0 about1 = true := code_word (m := ⟨1, 1⟩) (meth := k1m1) (c := k1c1) (by decide +kernel) rfl rfl rfl (by decide +kernel)
def codes1 : List Jvm.Cond := [Jvm.Cond.code x code maxLocals ret, Jvm.Cond.code ({ cls := "com/example/hollow_tree/hollowtree/xml/XmlChars", name := "isXmlChar", desc := "(I)Z" } : Jvm.MethodName) prog_315_method_5_code (1 : Nat) (Option.some Jvm.ClassFile.FieldType.boolean), Jvm.Cond.code ({ cls := "com/example/hollow_tree/hollowtree/xml/XmlCharsIsXmlCharPinLaw", name := "ref", desc := "(I)Z" } : Jvm.MethodName) method_2_code (1 : Nat) (Option.some Jvm.ClassFile.FieldType.boolean)]
set_option maxRecDepth 65536 in
theorem codes_eq : words1.filter isCode = codes1 := rfl
theorem w_codes : ∀ c ∈ words1.filter isCode, c.before args0 about1 = true := by
  rw [codes_eq]
  intro c hc
  simp only [codes1, List.mem_cons, List.not_mem_nil, or_false] at hc
  rcases hc with rfl | rfl | rfl
  · exact w_c0
  · exact w_c1
  · exact w_c2
set_option maxRecDepth 65536 in
theorem w_t1 : (words1.take 24).all (fun c => isCode c || c.before args0 about1) = true := by decide +kernel
set_option maxRecDepth 65536 in
theorem w_t2 : (words1.drop 24).all (fun c => isCode c || c.before args0 about1) = true := by decide +kernel
theorem w_tables : (allAtoms (Jvm.Cond.code x code maxLocals ret :: tables_1)).before args0 about1 = true := by
  rw [allAtoms_all]
  show words1.all (fun c => c.before args0 about1) = true
  refine all_split ?_ w_codes
  rw [← List.take_append_drop 24 words1, List.all_append, w_t1, w_t2]
  rfl
set_option maxRecDepth 65536 in
theorem w_case : (Jvm.Cond.and given_1 narrow_1).before args0 about1 = true := by decide +kernel
theorem w_applies : (headSpec (Jvm.Cond.code x code maxLocals ret :: tables_1) room_1).applies x e0.platform about1 = true :=
  (Spec.applies_iff w_frames).mpr ⟨w_running, w_runnable, w_alone, w_named, w_hears, w_ripe, w_room, w_tables⟩
theorem atStart : AtStart classFile x code maxLocals ret World_1 tables_1 room_1 Calls_1 rest_1 Pre_1 launch0 p0 e0 about1 theMethod args0 below0 :=
  ⟨lists_1, trivial, launch0.admits_env _ _ _, launch0.least_env, fairChoices_fair.cas, fairChoices_fair.clock, w_frames, w_args, w_heap, w_applies, trivial, trivial, w_case⟩
end start1
theorem witness_1 : WitnessClaimed_1 := ⟨start1.p0, start1.e0, start1.about1, start1.theMethod, start1.args0, start1.below0, start1.atStart⟩
end Jvm.Pilot.@@N@@
