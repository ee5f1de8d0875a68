import JvmDerived
import JvmDerived.Pilot.@@N@@Statement
import JvmDerived.Pilot.@@N@@Code
set_option linter.unusedVariables false
set_option linter.unusedSimpArgs false
namespace Jvm.RoadKit
open Sem ClassFile Op Lib Jvm.Stand Jvm.Free Jvm.LawKit
section New
variable {p : Program} {l : Launch} {e : Env} {R : Room} {s : State} {m : MethodId} {args : Array Value} {below : List Frame} {meth : Method} {c : Code} {T : State} {locs : List Loc} {cells slots : Nat}
theorem retI (X : Stand p l e R s m args below meth c T locs cells slots) (hx : p.tables.exec = Jvm.exec) {pc : Nat} {Ls : Array Slot} {z : Int32} {rest : List Value} (hret : meth.sig.returnType = some .int) (hd : decode c.code pc = .ok (.ireturn, 1)) {fs : List Frame}
    (hl : ∀ (f : JFrame) (acts : List Action), f.method = m → f.locked = none → f.entered = [] → (doReturn e (T.setTop f) acts (some (.int z))).1 = T.setFrames fs) : Steps p.tables e below (T.setTop (mkF m pc Ls (.int z :: rest))) (T.setFrames fs) := by
  have hm' : T.vm.method? m = some meth := X.method'
  have hn : narrow .int (.int z) = .int z := rfl
  show Steps p.tables e below (T.setTop { method := m, pc := pc, locals := Ls, stack := _ :: rest, locked := none }) _
  jvm_step X.here [X.here.top, hx, hd, hm', hret, hn]
  first | (intro acts; rw [hl _ acts rfl rfl rfl]) | rw [hl _ _ rfl rfl rfl]
  exact Steps.refl _
end New
end Jvm.RoadKit
namespace Jvm.Pilot.@@N@@
open Jvm Jvm.ClassFile Sem Op Lib Jvm.Free Jvm.Stand Jvm.LawKit Jvm.RoadKit Bundle Jvm.Pilot.@@N@@.Jvm.D
/-- from the frame g on the run comes to an end that Q says -/
def own_Goes (p : Program) (e : Env) (below : List Frame) (Q : Outcome → State → Prop) (T : State) (g : JFrame) : Prop :=
  ∃ s₂ o, Steps p.tables e below (T.setTop g) s₂ ∧ s₂.status = .running ∧ Ended s₂ below o ∧ Q o s₂
theorem own_st {p : Program} {e : Env} {below : List Frame} {Q : Outcome → State → Prop} {T T' : State} {g g' : JFrame}
    (h : ∀ t, Steps p.tables e below (T'.setTop g') t → Steps p.tables e below (T.setTop g) t) (k : own_Goes p e below Q T' g') : own_Goes p e below Q T g := by
  obtain ⟨s₂, o, h1, h2⟩ := k
  exact ⟨s₂, o, h _ h1, h2⟩
theorem own_end {p : Program} {l : Launch} {e : Env} {R : Room} {s : State} {m : MethodId} {args : Array Value} {below : List Frame} {meth : Method} {c : Code} {T : State} {locs : List Loc} {cells slots : Nat} {C S : Nat} {Q : Option Value → Heap → List Loc → Prop} {g : JFrame} {v : Option Value}
    (X : Stand p l e R s m args below meth c T locs cells slots) (hv : meth.sig.returnType = none → v = none)
    (hret : ∀ fs, (∀ (f : JFrame) (acts : List Action), f.method = m → f.locked = none → f.entered = [] → (doReturn e (T.setTop f) acts v).1 = T.setFrames fs) → Steps p.tables e below (T.setTop g) (T.setFrames fs))
    (hQ : Q v T.heap locs) (hC : cells ≤ C) (hS : slots ≤ S) (hlocks : meth.locks = false := by first | assumption) :
    own_Goes p e below (fun o U' => ∃ v L, o = .returned v ∧ Q v U'.heap L ∧ FrameEnd s o U' L C S) T g := by
  obtain ⟨fs, hr, hrun, hended, hW, hsame⟩ := X.leave (v := v) hv hlocks
  exact ⟨_, _, hret fs hr, hrun, hended, _, _, rfl, hQ, ⟨_, rfl⟩, hW, hsame.mono hC hS⟩
theorem own_selP {s : State} {args : Array Value} {y : MethodName} {n : Nat} (wi : (Cond.instantiable y.cls n).before args s = true) (hpriv : s.PrivateAt y) (hinst : (Cond.instanceMethod y).before args s = true)
    (hy : y.cls ≠ "java/lang/invoke/MethodHandle" ∧ y.cls ≠ "java/lang/invoke/VarHandle") : (Cond.selects y.cls y y).before args s = true := by
  obtain ⟨c, k, hc, hk, -, hi, -, -⟩ := Cond.instantiable_spec wi
  exact Jvm.Stand.selects_self_of_private hc hk (Bool.or_eq_false_iff.mp hi).1 hpriv hinst hy
/-- what a call by a contract leaves, its counters put in -/
theorem own_packS {p : Program} {l : Launch} {e : Env} {R : Room} {s : State} {m : MethodId} {args : Array Value} {below : List Frame} {meth : Method} {c : Code} {T : State} {locs : List Loc} {cells slots rc rs : Nat} {Q : Option Value → Heap → List Loc → Prop} {g : JFrame} {rest : List Value}
    (h : ∃ (v : Option Value) (vm₁ : Vm) (B : Pt), s.WarmedH vm₁ ∧ Stand p l e R s m args below meth c B.U B.locs B.cells B.slots ∧ (∃ L, Q v B.U.heap L ∧ B.locs = locs ++ L ∧ B.cells = cells + rc ∧ B.slots = slots + rs) ∧ ∀ target, Steps p.tables e below (B.U.setTop { g with pc := g.pc + 3, stack := v.toList ++ rest }) target → Steps p.tables e below (T.setTop g) target) :
    ∃ (v : Option Value) (T' : State) (L : List Loc), Stand p l e R s m args below meth c T' (locs ++ L) (cells + rc) (slots + rs) ∧ Q v T'.heap L ∧ ∀ target, Steps p.tables e below (T'.setTop { g with pc := g.pc + 3, stack := v.toList ++ rest }) target → Steps p.tables e below (T.setTop g) target := by
  obtain ⟨v, vm₁, ⟨T', L', k', n'⟩, -, X', ⟨Lc, hq, l, y, z⟩, st⟩ := h
  subst l y z
  exact ⟨v, T', Lc, X', hq, st⟩
theorem own_packV {p : Program} {l : Launch} {e : Env} {R : Room} {s : State} {m : MethodId} {args : Array Value} {below : List Frame} {meth : Method} {c : Code} {T : State} {locs : List Loc} {cells slots rc rs : Nat} {Q : Option Value → Heap → List Loc → Prop} {g : JFrame} {rest : List Value}
    (h : ∃ (v : Option Value) (vm₁ : Vm) (B : Pt), s.WarmedH vm₁ ∧ Stand p l e R s m args below meth c B.U B.locs B.cells B.slots ∧ (∃ L, Q v B.U.heap L ∧ B.locs = locs ++ L ∧ B.cells = cells + rc ∧ B.slots = slots + rs) ∧ Steps p.tables e below (T.setTop g) (B.U.setTop { g with pc := g.pc + 3, stack := v.toList ++ rest })) :
    ∃ (v : Option Value) (T' : State) (L : List Loc), Stand p l e R s m args below meth c T' (locs ++ L) (cells + rc) (slots + rs) ∧ Q v T'.heap L ∧ ∀ target, Steps p.tables e below (T'.setTop { g with pc := g.pc + 3, stack := v.toList ++ rest }) target → Steps p.tables e below (T.setTop g) target := by
  obtain ⟨v, vm₁, ⟨T', L', k', n'⟩, -, X', ⟨Lc, hq, l, y, z⟩, st⟩ := h
  subst l y z
  exact ⟨v, T', Lc, X', hq, fun _ k => st.trans k⟩
/-- the written places, their list forgotten -/
theorem own_loc {p : Program} {l : Launch} {e : Env} {R : Room} {s : State} {m : MethodId} {args : Array Value} {below : List Frame} {meth : Method} {c : Code} {T : State} {locs : List Loc} {cells slots k : Nat}
    (X : Stand p l e R s m args below meth c T locs cells slots) (N : Fr k locs) : ∃ locs', Stand p l e R s m args below meth c T locs' cells slots ∧ Fr k locs' := ⟨_, X, N⟩

theorem own_and (x : Int32) : 0 ≤ (x &&& 2147483647).toInt := by
  have := (c_and x 2147483647 (by decide)).1; exact this
theorem own_rem (x d : Int32) (h0 : 0 ≤ x.toInt) (hd : 0 < d.toInt) : (x - (x / d) * d).toInt = x.toInt % d.toInt ∧ 0 ≤ (x - (x / d) * d).toInt ∧ (x - (x / d) * d).toInt < d.toInt := by
  rw [irem_eq_mod]
  have e := (c_irem x d d.toInt rfl).1 h0
  exact ⟨e, by rw [e]; exact Int.emod_nonneg _ (by omega), by rw [e]; exact Int.emod_lt_of_pos _ hd⟩
theorem own_in (j d : Int32) (h1 : 0 ≤ j.toInt) (h2 : j.toInt < d.toInt) : ¬ j < 0 ∧ j < d := by
  constructor
  · rw [Int32.lt_iff_toInt_lt]; simp; omega
  · rw [Int32.lt_iff_toInt_lt]; exact h2
theorem own_getD (L : List Int32) (k : Nat) : (L.map Value.int).getD k (.int 0) = .int (L.getD k 0) := by
  simp only [List.getD, List.getElem?_map]
  cases L[k]? <;> rfl

theorem d1_0 : decode prog_315_method_3_code 0 = .ok (.iload_n 0, 1) := by decide +kernel
theorem d1_1 : decode prog_315_method_3_code 1 = .ok (.bipush 97, 2) := by decide +kernel
theorem d1_3 : decode prog_315_method_3_code 3 = .ok (.if_icmp .lt 9, 3) := by decide +kernel
theorem d1_6 : decode prog_315_method_3_code 6 = .ok (.iload_n 0, 1) := by decide +kernel
theorem d1_7 : decode prog_315_method_3_code 7 = .ok (.bipush 122, 2) := by decide +kernel
theorem d1_9 : decode prog_315_method_3_code 9 = .ok (.if_icmp .le 182, 3) := by decide +kernel
theorem d1_12 : decode prog_315_method_3_code 12 = .ok (.iload_n 0, 1) := by decide +kernel
theorem d1_13 : decode prog_315_method_3_code 13 = .ok (.bipush 65, 2) := by decide +kernel
theorem d1_15 : decode prog_315_method_3_code 15 = .ok (.if_icmp .lt 9, 3) := by decide +kernel
theorem d1_18 : decode prog_315_method_3_code 18 = .ok (.iload_n 0, 1) := by decide +kernel
theorem d1_19 : decode prog_315_method_3_code 19 = .ok (.bipush 90, 2) := by decide +kernel
theorem d1_21 : decode prog_315_method_3_code 21 = .ok (.if_icmp .le 170, 3) := by decide +kernel
theorem d1_24 : decode prog_315_method_3_code 24 = .ok (.iload_n 0, 1) := by decide +kernel
theorem d1_25 : decode prog_315_method_3_code 25 = .ok (.bipush 95, 2) := by decide +kernel
theorem d1_27 : decode prog_315_method_3_code 27 = .ok (.if_icmp .eq 164, 3) := by decide +kernel
theorem d1_30 : decode prog_315_method_3_code 30 = .ok (.iload_n 0, 1) := by decide +kernel
theorem d1_31 : decode prog_315_method_3_code 31 = .ok (.sipush 192, 3) := by decide +kernel
theorem d1_34 : decode prog_315_method_3_code 34 = .ok (.if_icmp .lt 10, 3) := by decide +kernel
theorem d1_37 : decode prog_315_method_3_code 37 = .ok (.iload_n 0, 1) := by decide +kernel
theorem d1_38 : decode prog_315_method_3_code 38 = .ok (.sipush 214, 3) := by decide +kernel
theorem d1_41 : decode prog_315_method_3_code 41 = .ok (.if_icmp .le 150, 3) := by decide +kernel
theorem d1_44 : decode prog_315_method_3_code 44 = .ok (.iload_n 0, 1) := by decide +kernel
theorem d1_45 : decode prog_315_method_3_code 45 = .ok (.sipush 216, 3) := by decide +kernel
theorem d1_48 : decode prog_315_method_3_code 48 = .ok (.if_icmp .lt 10, 3) := by decide +kernel
theorem d1_51 : decode prog_315_method_3_code 51 = .ok (.iload_n 0, 1) := by decide +kernel
theorem d1_52 : decode prog_315_method_3_code 52 = .ok (.sipush 246, 3) := by decide +kernel
theorem d1_55 : decode prog_315_method_3_code 55 = .ok (.if_icmp .le 136, 3) := by decide +kernel
theorem d1_58 : decode prog_315_method_3_code 58 = .ok (.iload_n 0, 1) := by decide +kernel
theorem d1_59 : decode prog_315_method_3_code 59 = .ok (.sipush 248, 3) := by decide +kernel
theorem d1_62 : decode prog_315_method_3_code 62 = .ok (.if_icmp .lt 10, 3) := by decide +kernel
theorem d1_65 : decode prog_315_method_3_code 65 = .ok (.iload_n 0, 1) := by decide +kernel
theorem d1_66 : decode prog_315_method_3_code 66 = .ok (.sipush 767, 3) := by decide +kernel
theorem d1_69 : decode prog_315_method_3_code 69 = .ok (.if_icmp .le 122, 3) := by decide +kernel
theorem d1_72 : decode prog_315_method_3_code 72 = .ok (.iload_n 0, 1) := by decide +kernel
theorem d1_73 : decode prog_315_method_3_code 73 = .ok (.sipush 880, 3) := by decide +kernel
theorem d1_76 : decode prog_315_method_3_code 76 = .ok (.if_icmp .lt 10, 3) := by decide +kernel
theorem d1_79 : decode prog_315_method_3_code 79 = .ok (.iload_n 0, 1) := by decide +kernel
theorem d1_80 : decode prog_315_method_3_code 80 = .ok (.sipush 893, 3) := by decide +kernel
theorem d1_83 : decode prog_315_method_3_code 83 = .ok (.if_icmp .le 108, 3) := by decide +kernel
theorem d1_86 : decode prog_315_method_3_code 86 = .ok (.iload_n 0, 1) := by decide +kernel
theorem d1_87 : decode prog_315_method_3_code 87 = .ok (.sipush 895, 3) := by decide +kernel
theorem d1_90 : decode prog_315_method_3_code 90 = .ok (.if_icmp .lt 10, 3) := by decide +kernel
theorem d1_93 : decode prog_315_method_3_code 93 = .ok (.iload_n 0, 1) := by decide +kernel
theorem d1_94 : decode prog_315_method_3_code 94 = .ok (.sipush 8191, 3) := by decide +kernel
theorem d1_97 : decode prog_315_method_3_code 97 = .ok (.if_icmp .le 94, 3) := by decide +kernel
theorem d1_100 : decode prog_315_method_3_code 100 = .ok (.iload_n 0, 1) := by decide +kernel
theorem d1_101 : decode prog_315_method_3_code 101 = .ok (.sipush 8204, 3) := by decide +kernel
theorem d1_104 : decode prog_315_method_3_code 104 = .ok (.if_icmp .lt 10, 3) := by decide +kernel
theorem d1_107 : decode prog_315_method_3_code 107 = .ok (.iload_n 0, 1) := by decide +kernel
theorem d1_108 : decode prog_315_method_3_code 108 = .ok (.sipush 8205, 3) := by decide +kernel
theorem d1_111 : decode prog_315_method_3_code 111 = .ok (.if_icmp .le 80, 3) := by decide +kernel
theorem d1_114 : decode prog_315_method_3_code 114 = .ok (.iload_n 0, 1) := by decide +kernel
theorem d1_115 : decode prog_315_method_3_code 115 = .ok (.sipush 8304, 3) := by decide +kernel
theorem d1_118 : decode prog_315_method_3_code 118 = .ok (.if_icmp .lt 10, 3) := by decide +kernel
theorem d1_121 : decode prog_315_method_3_code 121 = .ok (.iload_n 0, 1) := by decide +kernel
theorem d1_122 : decode prog_315_method_3_code 122 = .ok (.sipush 8591, 3) := by decide +kernel
theorem d1_125 : decode prog_315_method_3_code 125 = .ok (.if_icmp .le 66, 3) := by decide +kernel
theorem d1_128 : decode prog_315_method_3_code 128 = .ok (.iload_n 0, 1) := by decide +kernel
theorem d1_129 : decode prog_315_method_3_code 129 = .ok (.sipush 11264, 3) := by decide +kernel
theorem d1_132 : decode prog_315_method_3_code 132 = .ok (.if_icmp .lt 10, 3) := by decide +kernel
theorem d1_135 : decode prog_315_method_3_code 135 = .ok (.iload_n 0, 1) := by decide +kernel
theorem d1_136 : decode prog_315_method_3_code 136 = .ok (.sipush 12271, 3) := by decide +kernel
theorem d1_139 : decode prog_315_method_3_code 139 = .ok (.if_icmp .le 52, 3) := by decide +kernel
theorem d1_142 : decode prog_315_method_3_code 142 = .ok (.iload_n 0, 1) := by decide +kernel
theorem d1_143 : decode prog_315_method_3_code 143 = .ok (.sipush 12289, 3) := by decide +kernel
theorem d1_146 : decode prog_315_method_3_code 146 = .ok (.if_icmp .lt 9, 3) := by decide +kernel
theorem d1_149 : decode prog_315_method_3_code 149 = .ok (.iload_n 0, 1) := by decide +kernel
theorem d1_150 : decode prog_315_method_3_code 150 = .ok (.ldc 7, 2) := by decide +kernel
theorem d1_152 : decode prog_315_method_3_code 152 = .ok (.if_icmp .le 39, 3) := by decide +kernel
theorem d1_155 : decode prog_315_method_3_code 155 = .ok (.iload_n 0, 1) := by decide +kernel
theorem d1_156 : decode prog_315_method_3_code 156 = .ok (.ldc 8, 2) := by decide +kernel
theorem d1_158 : decode prog_315_method_3_code 158 = .ok (.if_icmp .lt 9, 3) := by decide +kernel
theorem d1_161 : decode prog_315_method_3_code 161 = .ok (.iload_n 0, 1) := by decide +kernel
theorem d1_162 : decode prog_315_method_3_code 162 = .ok (.ldc 9, 2) := by decide +kernel
theorem d1_164 : decode prog_315_method_3_code 164 = .ok (.if_icmp .le 27, 3) := by decide +kernel
theorem d1_167 : decode prog_315_method_3_code 167 = .ok (.iload_n 0, 1) := by decide +kernel
theorem d1_168 : decode prog_315_method_3_code 168 = .ok (.ldc 10, 2) := by decide +kernel
theorem d1_170 : decode prog_315_method_3_code 170 = .ok (.if_icmp .lt 9, 3) := by decide +kernel
theorem d1_173 : decode prog_315_method_3_code 173 = .ok (.iload_n 0, 1) := by decide +kernel
theorem d1_174 : decode prog_315_method_3_code 174 = .ok (.ldc 11, 2) := by decide +kernel
theorem d1_176 : decode prog_315_method_3_code 176 = .ok (.if_icmp .le 15, 3) := by decide +kernel
theorem d1_179 : decode prog_315_method_3_code 179 = .ok (.iload_n 0, 1) := by decide +kernel
theorem d1_180 : decode prog_315_method_3_code 180 = .ok (.ldc 12, 2) := by decide +kernel
theorem d1_182 : decode prog_315_method_3_code 182 = .ok (.if_icmp .lt 13, 3) := by decide +kernel
theorem d1_185 : decode prog_315_method_3_code 185 = .ok (.iload_n 0, 1) := by decide +kernel
theorem d1_186 : decode prog_315_method_3_code 186 = .ok (.ldc 13, 2) := by decide +kernel
theorem d1_188 : decode prog_315_method_3_code 188 = .ok (.if_icmp .gt 7, 3) := by decide +kernel
theorem d1_191 : decode prog_315_method_3_code 191 = .ok (.iconst 1, 1) := by decide +kernel
theorem d1_192 : decode prog_315_method_3_code 192 = .ok (.goto 4, 3) := by decide +kernel
theorem d1_195 : decode prog_315_method_3_code 195 = .ok (.iconst 0, 1) := by decide +kernel
theorem d1_196 : decode prog_315_method_3_code 196 = .ok (.ireturn, 1) := by decide +kernel
theorem own_pn1 : plainName "com/example/hollow_tree/hollowtree/xml/XmlChars" = true := by first | (simp [plainName, overriddenIn]; done) | decide +kernel
theorem own_ef1 (m : MethodId) (x0 : Int32) : entryFrame m #[(.int x0)] 1 = mkF m 0 #[.val (.int x0)] [] := by first | (simp [entryFrame, mkF, argsToLocals, Value.category]; done) | rfl
def own_f1_196 (v0 : Int32) (t0 : Int32) : Int32 := nar .boolean t0
def own_f1_195 (v0 : Int32) : Int32 := own_f1_196 v0 (0 : Int32)
def own_f1_191 (v0 : Int32) : Int32 := own_f1_196 v0 (1 : Int32)
def own_f1_179 (v0 : Int32) : Int32 := (if v0 < (65536 : Int32) then own_f1_195 v0 else (if (983039 : Int32) < v0 then own_f1_195 v0 else own_f1_191 v0))
def own_f1_167 (v0 : Int32) : Int32 := (if v0 < (65008 : Int32) then own_f1_179 v0 else (if (65533 : Int32) < v0 then own_f1_179 v0 else own_f1_191 v0))
def own_f1_155 (v0 : Int32) : Int32 := (if v0 < (63744 : Int32) then own_f1_167 v0 else (if (64975 : Int32) < v0 then own_f1_167 v0 else own_f1_191 v0))
def own_f1_142 (v0 : Int32) : Int32 := (if v0 < (12289 : Int32) then own_f1_155 v0 else (if (55295 : Int32) < v0 then own_f1_155 v0 else own_f1_191 v0))
def own_f1_128 (v0 : Int32) : Int32 := (if v0 < (11264 : Int32) then own_f1_142 v0 else (if (12271 : Int32) < v0 then own_f1_142 v0 else own_f1_191 v0))
def own_f1_114 (v0 : Int32) : Int32 := (if v0 < (8304 : Int32) then own_f1_128 v0 else (if (8591 : Int32) < v0 then own_f1_128 v0 else own_f1_191 v0))
def own_f1_100 (v0 : Int32) : Int32 := (if v0 < (8204 : Int32) then own_f1_114 v0 else (if (8205 : Int32) < v0 then own_f1_114 v0 else own_f1_191 v0))
def own_f1_86 (v0 : Int32) : Int32 := (if v0 < (895 : Int32) then own_f1_100 v0 else (if (8191 : Int32) < v0 then own_f1_100 v0 else own_f1_191 v0))
def own_f1_72 (v0 : Int32) : Int32 := (if v0 < (880 : Int32) then own_f1_86 v0 else (if (893 : Int32) < v0 then own_f1_86 v0 else own_f1_191 v0))
def own_f1_58 (v0 : Int32) : Int32 := (if v0 < (248 : Int32) then own_f1_72 v0 else (if (767 : Int32) < v0 then own_f1_72 v0 else own_f1_191 v0))
def own_f1_44 (v0 : Int32) : Int32 := (if v0 < (216 : Int32) then own_f1_58 v0 else (if (246 : Int32) < v0 then own_f1_58 v0 else own_f1_191 v0))
def own_f1_24 (v0 : Int32) : Int32 := (if v0 = (95 : Int32) then own_f1_191 v0 else (if v0 < (192 : Int32) then own_f1_44 v0 else (if (214 : Int32) < v0 then own_f1_44 v0 else own_f1_191 v0)))
def own_f1_12 (v0 : Int32) : Int32 := (if v0 < (65 : Int32) then own_f1_24 v0 else (if (90 : Int32) < v0 then own_f1_24 v0 else own_f1_191 v0))
def own_f1_0 (p1 : Int32) : Int32 := (if p1 < (97 : Int32) then own_f1_12 p1 else (if (122 : Int32) < p1 then own_f1_12 p1 else own_f1_191 p1))
def Q1 (Z : State) (p1 : Int32) (h0 : Heap) (n0 : Nat) (v : Option Value) (h : Heap) (L : List Loc) : Prop := v = some (.int (own_f1_0 p1)) ∧ Fr n0 L ∧ h = h0
set_option maxRecDepth 65536 in
set_option maxHeartbeats 40000000 in
theorem rm1 (l : Launch) (Z : State) (a0 : Array Value) (hw : ∀ d ∈ tables_1, d.before a0 Z = true) (ws : List Jvm.Cond) (p1 : Int32) (h0 : Heap) (n0 : Nat) (Z0 : n0 ≤ h0.size)  :
    MetFree l (⟨"com/example/hollow_tree/hollowtree/xml/XmlChars", "isNameStartChar", "(I)Z"⟩ : MethodName) (head1 (Jvm.Cond.code (⟨"com/example/hollow_tree/hollowtree/xml/XmlChars", "isNameStartChar", "(I)Z"⟩ : MethodName) prog_315_method_3_code 1 (some .boolean) :: ws) ({ frames := 0, cells := 0, slots := 0, locals := 0 } : Room)) (fun a U => a = #[(.int p1)] ∧ Z.Warmed39 U.vm ∧ U.heap = h0) (fun _ _ _ _ _ => True) (fun _ U o U' => ∃ v L, o = .returned v ∧ Q1 Z p1 h0 n0 v U'.heap L ∧ FrameEnd U o U' L ({ frames := 0, cells := 0, slots := 0, locals := 0 } : Room).cells ({ frames := 0, cells := 0, slots := 0, locals := 0 } : Room).slots) := by
  refine MetFree.of_bodySF (plainFor_of_name own_pn1) hisR ?_
  intro p e s m args below meth c s₁ Bd hml0 hP hK
  obtain ⟨rfl, hZ, hh⟩ := hP
  have hx := Bd.exec
  have hby := Bd.bytes
  have hml : c.maxLocals = 1 := hml0
  have hown : s.vm.findClass "com/example/hollow_tree/hollowtree/xml/XmlChars" = some m.cls := findClass_of_methodNamed Bd.named
  have hnm := (name_of_methodNamed Bd.named Bd.method).1
  have hlk := Bd.notSynchronized
  have X0 : Stand p l e ({ frames := 0, cells := 0, slots := 0, locals := 0 } : Room) s m #[(.int p1)] below meth c s₁ [] 0 0 := Stand.of_body Bd
  have e0 : s₁.heap = h0 := by rw [← hh, Bd.state]; rfl
  have N0 := Fr.nil n0
  show own_Goes p e below (fun o U' => ∃ v L, o = .returned v ∧ Q1 Z p1 h0 n0 v U'.heap L ∧ FrameEnd s o U' L ({ frames := 0, cells := 0, slots := 0, locals := 0 } : Room).cells ({ frames := 0, cells := 0, slots := 0, locals := 0 } : Room).slots) s₁ (entryFrame m #[(.int p1)] 1)
  refine own_st (T' := s₁) (g' := mkF m 0 #[.val (.int p1)] []) (fun _ k => castTop (own_ef1 m p1) k) ?_
  have b196 : ∀ (T : State) (Lc : List Loc) (X : Stand p l e ({ frames := 0, cells := 0, slots := 0, locals := 0 } : Room) s m #[(.int p1)] below meth c T Lc 0 0) (eT : T.heap = h0) (NL : Fr n0 Lc) (v0 : Int32) (t0 : Int32), own_f1_0 p1 = own_f1_196 v0 t0 → own_Goes p e below (fun o U' => ∃ v L, o = .returned v ∧ Q1 Z p1 h0 n0 v U'.heap L ∧ FrameEnd s o U' L ({ frames := 0, cells := 0, slots := 0, locals := 0 } : Room).cells ({ frames := 0, cells := 0, slots := 0, locals := 0 } : Room).slots) T (mkF m 196 #[.val (.int v0)] [(.int t0)]) := by
    intro T Lc X eT NL v0 t0 hf
    exact own_end (Q := Q1 Z p1 h0 n0) (v := some (.int (nar .boolean t0))) X (fun h => by rw [Bd.returns] at h; cases h) (fun fs hr => retN X hx (t := .boolean) Bd.returns (by simp) (hb hby d1_196) hr) (⟨congrArg (fun z => some (Value.int z)) hf.symm, NL, eT⟩) (by decide) (by decide)
  have b195 : ∀ (T : State) (Lc : List Loc) (X : Stand p l e ({ frames := 0, cells := 0, slots := 0, locals := 0 } : Room) s m #[(.int p1)] below meth c T Lc 0 0) (eT : T.heap = h0) (NL : Fr n0 Lc) (v0 : Int32), own_f1_0 p1 = own_f1_195 v0 → own_Goes p e below (fun o U' => ∃ v L, o = .returned v ∧ Q1 Z p1 h0 n0 v U'.heap L ∧ FrameEnd s o U' L ({ frames := 0, cells := 0, slots := 0, locals := 0 } : Room).cells ({ frames := 0, cells := 0, slots := 0, locals := 0 } : Room).slots) T (mkF m 195 #[.val (.int v0)] []) := by
    intro T Lc X eT NL v0 hf
    refine own_st (T' := T) (g' := (mkF m 196 #[.val (.int v0)] [(.int (0 : Int32))])) (fun _ k => XS.iconst (g := (mkF m 195 #[.val (.int v0)] [])) X.here hx rfl (hb hby d1_195) k) ?_
    exact b196 T _ X eT NL  v0 (0 : Int32) hf
  have b191 : ∀ (T : State) (Lc : List Loc) (X : Stand p l e ({ frames := 0, cells := 0, slots := 0, locals := 0 } : Room) s m #[(.int p1)] below meth c T Lc 0 0) (eT : T.heap = h0) (NL : Fr n0 Lc) (v0 : Int32), own_f1_0 p1 = own_f1_191 v0 → own_Goes p e below (fun o U' => ∃ v L, o = .returned v ∧ Q1 Z p1 h0 n0 v U'.heap L ∧ FrameEnd s o U' L ({ frames := 0, cells := 0, slots := 0, locals := 0 } : Room).cells ({ frames := 0, cells := 0, slots := 0, locals := 0 } : Room).slots) T (mkF m 191 #[.val (.int v0)] []) := by
    intro T Lc X eT NL v0 hf
    refine own_st (T' := T) (g' := (mkF m 192 #[.val (.int v0)] [(.int (1 : Int32))])) (fun _ k => XS.iconst (g := (mkF m 191 #[.val (.int v0)] [])) X.here hx rfl (hb hby d1_191) k) ?_
    refine own_st (T' := T) (g' := (mkF m 196 #[.val (.int v0)] [(.int (1 : Int32))])) (fun _ k => XS.goto (g := (mkF m 192 #[.val (.int v0)] [(.int (1 : Int32))])) X.here hx rfl (pc0 := 192) (pc' := 196) rfl (hb hby d1_192) (by decide) (by decide) k) ?_
    exact b196 T _ X eT NL  v0 (1 : Int32) hf
  have b179 : ∀ (T : State) (Lc : List Loc) (X : Stand p l e ({ frames := 0, cells := 0, slots := 0, locals := 0 } : Room) s m #[(.int p1)] below meth c T Lc 0 0) (eT : T.heap = h0) (NL : Fr n0 Lc) (v0 : Int32), own_f1_0 p1 = own_f1_179 v0 → own_Goes p e below (fun o U' => ∃ v L, o = .returned v ∧ Q1 Z p1 h0 n0 v U'.heap L ∧ FrameEnd s o U' L ({ frames := 0, cells := 0, slots := 0, locals := 0 } : Room).cells ({ frames := 0, cells := 0, slots := 0, locals := 0 } : Room).slots) T (mkF m 179 #[.val (.int v0)] []) := by
    intro T Lc X eT NL v0 hf
    refine own_st (T' := T) (g' := (mkF m 180 #[.val (.int v0)] [(.int v0)])) (fun _ k => Jvm.Free.XS.iloadN (g := (mkF m 179 #[.val (.int v0)] [])) X.here hx rfl (hb hby d1_179) rfl k) ?_
    refine own_st (T' := T) (g' := (mkF m 182 #[.val (.int v0)] [(.int (65536 : Int32)), (.int v0)])) (fun _ k => (X.ldcInt hx hown (mvT hZ (hw _ (List.mem_of_getElem? (i := 15) rfl))) (g := (mkF m 180 #[.val (.int v0)] [(.int v0)])) rfl (hb hby d1_180)) _ k) ?_
    by_cases hc182 : v0 < (65536 : Int32)
    · have hf := hf.trans (if_pos hc182)
      refine own_st (T' := T) (g' := (mkF m 195 #[.val (.int v0)] [])) (fun _ k => XS.icmpYes (g := (mkF m 182 #[.val (.int v0)] [(.int (65536 : Int32)), (.int v0)])) X.here hx rfl (pc0 := 182) (pc' := 195) rfl (hb hby d1_182) rfl (tlt hc182).1 (by decide) (by decide) k) ?_
      exact b195 T _ X eT NL  v0 hf
    · have hf := hf.trans (if_neg hc182)
      refine own_st (T' := T) (g' := (mkF m 185 #[.val (.int v0)] [])) (fun _ k => XS.icmpNo (g := (mkF m 182 #[.val (.int v0)] [(.int (65536 : Int32)), (.int v0)])) X.here hx rfl (hb hby d1_182) rfl (flt hc182).1 k) ?_
      refine own_st (T' := T) (g' := (mkF m 186 #[.val (.int v0)] [(.int v0)])) (fun _ k => Jvm.Free.XS.iloadN (g := (mkF m 185 #[.val (.int v0)] [])) X.here hx rfl (hb hby d1_185) rfl k) ?_
      refine own_st (T' := T) (g' := (mkF m 188 #[.val (.int v0)] [(.int (983039 : Int32)), (.int v0)])) (fun _ k => (X.ldcInt hx hown (mvT hZ (hw _ (List.mem_of_getElem? (i := 26) rfl))) (g := (mkF m 186 #[.val (.int v0)] [(.int v0)])) rfl (hb hby d1_186)) _ k) ?_
      by_cases hc188 : (983039 : Int32) < v0
      · have hf := hf.trans (if_pos hc188)
        refine own_st (T' := T) (g' := (mkF m 195 #[.val (.int v0)] [])) (fun _ k => XS.icmpYes (g := (mkF m 188 #[.val (.int v0)] [(.int (983039 : Int32)), (.int v0)])) X.here hx rfl (pc0 := 188) (pc' := 195) rfl (hb hby d1_188) rfl (tlt hc188).2.2.1 (by decide) (by decide) k) ?_
        exact b195 T _ X eT NL  v0 hf
      · have hf := hf.trans (if_neg hc188)
        refine own_st (T' := T) (g' := (mkF m 191 #[.val (.int v0)] [])) (fun _ k => XS.icmpNo (g := (mkF m 188 #[.val (.int v0)] [(.int (983039 : Int32)), (.int v0)])) X.here hx rfl (hb hby d1_188) rfl (flt hc188).2.2.1 k) ?_
        exact b191 T _ X eT NL  v0 hf
  have b167 : ∀ (T : State) (Lc : List Loc) (X : Stand p l e ({ frames := 0, cells := 0, slots := 0, locals := 0 } : Room) s m #[(.int p1)] below meth c T Lc 0 0) (eT : T.heap = h0) (NL : Fr n0 Lc) (v0 : Int32), own_f1_0 p1 = own_f1_167 v0 → own_Goes p e below (fun o U' => ∃ v L, o = .returned v ∧ Q1 Z p1 h0 n0 v U'.heap L ∧ FrameEnd s o U' L ({ frames := 0, cells := 0, slots := 0, locals := 0 } : Room).cells ({ frames := 0, cells := 0, slots := 0, locals := 0 } : Room).slots) T (mkF m 167 #[.val (.int v0)] []) := by
    intro T Lc X eT NL v0 hf
    refine own_st (T' := T) (g' := (mkF m 168 #[.val (.int v0)] [(.int v0)])) (fun _ k => Jvm.Free.XS.iloadN (g := (mkF m 167 #[.val (.int v0)] [])) X.here hx rfl (hb hby d1_167) rfl k) ?_
    refine own_st (T' := T) (g' := (mkF m 170 #[.val (.int v0)] [(.int (65008 : Int32)), (.int v0)])) (fun _ k => (X.ldcInt hx hown (mvT hZ (hw _ (List.mem_of_getElem? (i := 14) rfl))) (g := (mkF m 168 #[.val (.int v0)] [(.int v0)])) rfl (hb hby d1_168)) _ k) ?_
    by_cases hc170 : v0 < (65008 : Int32)
    · have hf := hf.trans (if_pos hc170)
      refine own_st (T' := T) (g' := (mkF m 179 #[.val (.int v0)] [])) (fun _ k => XS.icmpYes (g := (mkF m 170 #[.val (.int v0)] [(.int (65008 : Int32)), (.int v0)])) X.here hx rfl (pc0 := 170) (pc' := 179) rfl (hb hby d1_170) rfl (tlt hc170).1 (by decide) (by decide) k) ?_
      exact b179 T _ X eT NL  v0 hf
    · have hf := hf.trans (if_neg hc170)
      refine own_st (T' := T) (g' := (mkF m 173 #[.val (.int v0)] [])) (fun _ k => XS.icmpNo (g := (mkF m 170 #[.val (.int v0)] [(.int (65008 : Int32)), (.int v0)])) X.here hx rfl (hb hby d1_170) rfl (flt hc170).1 k) ?_
      refine own_st (T' := T) (g' := (mkF m 174 #[.val (.int v0)] [(.int v0)])) (fun _ k => Jvm.Free.XS.iloadN (g := (mkF m 173 #[.val (.int v0)] [])) X.here hx rfl (hb hby d1_173) rfl k) ?_
      refine own_st (T' := T) (g' := (mkF m 176 #[.val (.int v0)] [(.int (65533 : Int32)), (.int v0)])) (fun _ k => (X.ldcInt hx hown (mvT hZ (hw _ (List.mem_of_getElem? (i := 25) rfl))) (g := (mkF m 174 #[.val (.int v0)] [(.int v0)])) rfl (hb hby d1_174)) _ k) ?_
      by_cases hc176 : (65533 : Int32) < v0
      · have hf := hf.trans (if_pos hc176)
        refine own_st (T' := T) (g' := (mkF m 179 #[.val (.int v0)] [])) (fun _ k => XS.icmpNo (g := (mkF m 176 #[.val (.int v0)] [(.int (65533 : Int32)), (.int v0)])) X.here hx rfl (hb hby d1_176) rfl (tlt hc176).2.2.2 k) ?_
        exact b179 T _ X eT NL  v0 hf
      · have hf := hf.trans (if_neg hc176)
        refine own_st (T' := T) (g' := (mkF m 191 #[.val (.int v0)] [])) (fun _ k => XS.icmpYes (g := (mkF m 176 #[.val (.int v0)] [(.int (65533 : Int32)), (.int v0)])) X.here hx rfl (pc0 := 176) (pc' := 191) rfl (hb hby d1_176) rfl (flt hc176).2.2.2 (by decide) (by decide) k) ?_
        exact b191 T _ X eT NL  v0 hf
  have b155 : ∀ (T : State) (Lc : List Loc) (X : Stand p l e ({ frames := 0, cells := 0, slots := 0, locals := 0 } : Room) s m #[(.int p1)] below meth c T Lc 0 0) (eT : T.heap = h0) (NL : Fr n0 Lc) (v0 : Int32), own_f1_0 p1 = own_f1_155 v0 → own_Goes p e below (fun o U' => ∃ v L, o = .returned v ∧ Q1 Z p1 h0 n0 v U'.heap L ∧ FrameEnd s o U' L ({ frames := 0, cells := 0, slots := 0, locals := 0 } : Room).cells ({ frames := 0, cells := 0, slots := 0, locals := 0 } : Room).slots) T (mkF m 155 #[.val (.int v0)] []) := by
    intro T Lc X eT NL v0 hf
    refine own_st (T' := T) (g' := (mkF m 156 #[.val (.int v0)] [(.int v0)])) (fun _ k => Jvm.Free.XS.iloadN (g := (mkF m 155 #[.val (.int v0)] [])) X.here hx rfl (hb hby d1_155) rfl k) ?_
    refine own_st (T' := T) (g' := (mkF m 158 #[.val (.int v0)] [(.int (63744 : Int32)), (.int v0)])) (fun _ k => (X.ldcInt hx hown (mvT hZ (hw _ (List.mem_of_getElem? (i := 13) rfl))) (g := (mkF m 156 #[.val (.int v0)] [(.int v0)])) rfl (hb hby d1_156)) _ k) ?_
    by_cases hc158 : v0 < (63744 : Int32)
    · have hf := hf.trans (if_pos hc158)
      refine own_st (T' := T) (g' := (mkF m 167 #[.val (.int v0)] [])) (fun _ k => XS.icmpYes (g := (mkF m 158 #[.val (.int v0)] [(.int (63744 : Int32)), (.int v0)])) X.here hx rfl (pc0 := 158) (pc' := 167) rfl (hb hby d1_158) rfl (tlt hc158).1 (by decide) (by decide) k) ?_
      exact b167 T _ X eT NL  v0 hf
    · have hf := hf.trans (if_neg hc158)
      refine own_st (T' := T) (g' := (mkF m 161 #[.val (.int v0)] [])) (fun _ k => XS.icmpNo (g := (mkF m 158 #[.val (.int v0)] [(.int (63744 : Int32)), (.int v0)])) X.here hx rfl (hb hby d1_158) rfl (flt hc158).1 k) ?_
      refine own_st (T' := T) (g' := (mkF m 162 #[.val (.int v0)] [(.int v0)])) (fun _ k => Jvm.Free.XS.iloadN (g := (mkF m 161 #[.val (.int v0)] [])) X.here hx rfl (hb hby d1_161) rfl k) ?_
      refine own_st (T' := T) (g' := (mkF m 164 #[.val (.int v0)] [(.int (64975 : Int32)), (.int v0)])) (fun _ k => (X.ldcInt hx hown (mvT hZ (hw _ (List.mem_of_getElem? (i := 24) rfl))) (g := (mkF m 162 #[.val (.int v0)] [(.int v0)])) rfl (hb hby d1_162)) _ k) ?_
      by_cases hc164 : (64975 : Int32) < v0
      · have hf := hf.trans (if_pos hc164)
        refine own_st (T' := T) (g' := (mkF m 167 #[.val (.int v0)] [])) (fun _ k => XS.icmpNo (g := (mkF m 164 #[.val (.int v0)] [(.int (64975 : Int32)), (.int v0)])) X.here hx rfl (hb hby d1_164) rfl (tlt hc164).2.2.2 k) ?_
        exact b167 T _ X eT NL  v0 hf
      · have hf := hf.trans (if_neg hc164)
        refine own_st (T' := T) (g' := (mkF m 191 #[.val (.int v0)] [])) (fun _ k => XS.icmpYes (g := (mkF m 164 #[.val (.int v0)] [(.int (64975 : Int32)), (.int v0)])) X.here hx rfl (pc0 := 164) (pc' := 191) rfl (hb hby d1_164) rfl (flt hc164).2.2.2 (by decide) (by decide) k) ?_
        exact b191 T _ X eT NL  v0 hf
  have b142 : ∀ (T : State) (Lc : List Loc) (X : Stand p l e ({ frames := 0, cells := 0, slots := 0, locals := 0 } : Room) s m #[(.int p1)] below meth c T Lc 0 0) (eT : T.heap = h0) (NL : Fr n0 Lc) (v0 : Int32), own_f1_0 p1 = own_f1_142 v0 → own_Goes p e below (fun o U' => ∃ v L, o = .returned v ∧ Q1 Z p1 h0 n0 v U'.heap L ∧ FrameEnd s o U' L ({ frames := 0, cells := 0, slots := 0, locals := 0 } : Room).cells ({ frames := 0, cells := 0, slots := 0, locals := 0 } : Room).slots) T (mkF m 142 #[.val (.int v0)] []) := by
    intro T Lc X eT NL v0 hf
    refine own_st (T' := T) (g' := (mkF m 143 #[.val (.int v0)] [(.int v0)])) (fun _ k => Jvm.Free.XS.iloadN (g := (mkF m 142 #[.val (.int v0)] [])) X.here hx rfl (hb hby d1_142) rfl k) ?_
    refine own_st (T' := T) (g' := (mkF m 146 #[.val (.int v0)] [(.int (12289 : Int32)), (.int v0)])) (fun _ k => XS.sipush (g := (mkF m 143 #[.val (.int v0)] [(.int v0)])) X.here hx rfl (hb hby d1_143) k) ?_
    by_cases hc146 : v0 < (12289 : Int32)
    · have hf := hf.trans (if_pos hc146)
      refine own_st (T' := T) (g' := (mkF m 155 #[.val (.int v0)] [])) (fun _ k => XS.icmpYes (g := (mkF m 146 #[.val (.int v0)] [(.int (12289 : Int32)), (.int v0)])) X.here hx rfl (pc0 := 146) (pc' := 155) rfl (hb hby d1_146) rfl (tlt hc146).1 (by decide) (by decide) k) ?_
      exact b155 T _ X eT NL  v0 hf
    · have hf := hf.trans (if_neg hc146)
      refine own_st (T' := T) (g' := (mkF m 149 #[.val (.int v0)] [])) (fun _ k => XS.icmpNo (g := (mkF m 146 #[.val (.int v0)] [(.int (12289 : Int32)), (.int v0)])) X.here hx rfl (hb hby d1_146) rfl (flt hc146).1 k) ?_
      refine own_st (T' := T) (g' := (mkF m 150 #[.val (.int v0)] [(.int v0)])) (fun _ k => Jvm.Free.XS.iloadN (g := (mkF m 149 #[.val (.int v0)] [])) X.here hx rfl (hb hby d1_149) rfl k) ?_
      refine own_st (T' := T) (g' := (mkF m 152 #[.val (.int v0)] [(.int (55295 : Int32)), (.int v0)])) (fun _ k => (X.ldcInt hx hown (mvT hZ (hw _ (List.mem_of_getElem? (i := 23) rfl))) (g := (mkF m 150 #[.val (.int v0)] [(.int v0)])) rfl (hb hby d1_150)) _ k) ?_
      by_cases hc152 : (55295 : Int32) < v0
      · have hf := hf.trans (if_pos hc152)
        refine own_st (T' := T) (g' := (mkF m 155 #[.val (.int v0)] [])) (fun _ k => XS.icmpNo (g := (mkF m 152 #[.val (.int v0)] [(.int (55295 : Int32)), (.int v0)])) X.here hx rfl (hb hby d1_152) rfl (tlt hc152).2.2.2 k) ?_
        exact b155 T _ X eT NL  v0 hf
      · have hf := hf.trans (if_neg hc152)
        refine own_st (T' := T) (g' := (mkF m 191 #[.val (.int v0)] [])) (fun _ k => XS.icmpYes (g := (mkF m 152 #[.val (.int v0)] [(.int (55295 : Int32)), (.int v0)])) X.here hx rfl (pc0 := 152) (pc' := 191) rfl (hb hby d1_152) rfl (flt hc152).2.2.2 (by decide) (by decide) k) ?_
        exact b191 T _ X eT NL  v0 hf
  have b128 : ∀ (T : State) (Lc : List Loc) (X : Stand p l e ({ frames := 0, cells := 0, slots := 0, locals := 0 } : Room) s m #[(.int p1)] below meth c T Lc 0 0) (eT : T.heap = h0) (NL : Fr n0 Lc) (v0 : Int32), own_f1_0 p1 = own_f1_128 v0 → own_Goes p e below (fun o U' => ∃ v L, o = .returned v ∧ Q1 Z p1 h0 n0 v U'.heap L ∧ FrameEnd s o U' L ({ frames := 0, cells := 0, slots := 0, locals := 0 } : Room).cells ({ frames := 0, cells := 0, slots := 0, locals := 0 } : Room).slots) T (mkF m 128 #[.val (.int v0)] []) := by
    intro T Lc X eT NL v0 hf
    refine own_st (T' := T) (g' := (mkF m 129 #[.val (.int v0)] [(.int v0)])) (fun _ k => Jvm.Free.XS.iloadN (g := (mkF m 128 #[.val (.int v0)] [])) X.here hx rfl (hb hby d1_128) rfl k) ?_
    refine own_st (T' := T) (g' := (mkF m 132 #[.val (.int v0)] [(.int (11264 : Int32)), (.int v0)])) (fun _ k => XS.sipush (g := (mkF m 129 #[.val (.int v0)] [(.int v0)])) X.here hx rfl (hb hby d1_129) k) ?_
    by_cases hc132 : v0 < (11264 : Int32)
    · have hf := hf.trans (if_pos hc132)
      refine own_st (T' := T) (g' := (mkF m 142 #[.val (.int v0)] [])) (fun _ k => XS.icmpYes (g := (mkF m 132 #[.val (.int v0)] [(.int (11264 : Int32)), (.int v0)])) X.here hx rfl (pc0 := 132) (pc' := 142) rfl (hb hby d1_132) rfl (tlt hc132).1 (by decide) (by decide) k) ?_
      exact b142 T _ X eT NL  v0 hf
    · have hf := hf.trans (if_neg hc132)
      refine own_st (T' := T) (g' := (mkF m 135 #[.val (.int v0)] [])) (fun _ k => XS.icmpNo (g := (mkF m 132 #[.val (.int v0)] [(.int (11264 : Int32)), (.int v0)])) X.here hx rfl (hb hby d1_132) rfl (flt hc132).1 k) ?_
      refine own_st (T' := T) (g' := (mkF m 136 #[.val (.int v0)] [(.int v0)])) (fun _ k => Jvm.Free.XS.iloadN (g := (mkF m 135 #[.val (.int v0)] [])) X.here hx rfl (hb hby d1_135) rfl k) ?_
      refine own_st (T' := T) (g' := (mkF m 139 #[.val (.int v0)] [(.int (12271 : Int32)), (.int v0)])) (fun _ k => XS.sipush (g := (mkF m 136 #[.val (.int v0)] [(.int v0)])) X.here hx rfl (hb hby d1_136) k) ?_
      by_cases hc139 : (12271 : Int32) < v0
      · have hf := hf.trans (if_pos hc139)
        refine own_st (T' := T) (g' := (mkF m 142 #[.val (.int v0)] [])) (fun _ k => XS.icmpNo (g := (mkF m 139 #[.val (.int v0)] [(.int (12271 : Int32)), (.int v0)])) X.here hx rfl (hb hby d1_139) rfl (tlt hc139).2.2.2 k) ?_
        exact b142 T _ X eT NL  v0 hf
      · have hf := hf.trans (if_neg hc139)
        refine own_st (T' := T) (g' := (mkF m 191 #[.val (.int v0)] [])) (fun _ k => XS.icmpYes (g := (mkF m 139 #[.val (.int v0)] [(.int (12271 : Int32)), (.int v0)])) X.here hx rfl (pc0 := 139) (pc' := 191) rfl (hb hby d1_139) rfl (flt hc139).2.2.2 (by decide) (by decide) k) ?_
        exact b191 T _ X eT NL  v0 hf
  have b114 : ∀ (T : State) (Lc : List Loc) (X : Stand p l e ({ frames := 0, cells := 0, slots := 0, locals := 0 } : Room) s m #[(.int p1)] below meth c T Lc 0 0) (eT : T.heap = h0) (NL : Fr n0 Lc) (v0 : Int32), own_f1_0 p1 = own_f1_114 v0 → own_Goes p e below (fun o U' => ∃ v L, o = .returned v ∧ Q1 Z p1 h0 n0 v U'.heap L ∧ FrameEnd s o U' L ({ frames := 0, cells := 0, slots := 0, locals := 0 } : Room).cells ({ frames := 0, cells := 0, slots := 0, locals := 0 } : Room).slots) T (mkF m 114 #[.val (.int v0)] []) := by
    intro T Lc X eT NL v0 hf
    refine own_st (T' := T) (g' := (mkF m 115 #[.val (.int v0)] [(.int v0)])) (fun _ k => Jvm.Free.XS.iloadN (g := (mkF m 114 #[.val (.int v0)] [])) X.here hx rfl (hb hby d1_114) rfl k) ?_
    refine own_st (T' := T) (g' := (mkF m 118 #[.val (.int v0)] [(.int (8304 : Int32)), (.int v0)])) (fun _ k => XS.sipush (g := (mkF m 115 #[.val (.int v0)] [(.int v0)])) X.here hx rfl (hb hby d1_115) k) ?_
    by_cases hc118 : v0 < (8304 : Int32)
    · have hf := hf.trans (if_pos hc118)
      refine own_st (T' := T) (g' := (mkF m 128 #[.val (.int v0)] [])) (fun _ k => XS.icmpYes (g := (mkF m 118 #[.val (.int v0)] [(.int (8304 : Int32)), (.int v0)])) X.here hx rfl (pc0 := 118) (pc' := 128) rfl (hb hby d1_118) rfl (tlt hc118).1 (by decide) (by decide) k) ?_
      exact b128 T _ X eT NL  v0 hf
    · have hf := hf.trans (if_neg hc118)
      refine own_st (T' := T) (g' := (mkF m 121 #[.val (.int v0)] [])) (fun _ k => XS.icmpNo (g := (mkF m 118 #[.val (.int v0)] [(.int (8304 : Int32)), (.int v0)])) X.here hx rfl (hb hby d1_118) rfl (flt hc118).1 k) ?_
      refine own_st (T' := T) (g' := (mkF m 122 #[.val (.int v0)] [(.int v0)])) (fun _ k => Jvm.Free.XS.iloadN (g := (mkF m 121 #[.val (.int v0)] [])) X.here hx rfl (hb hby d1_121) rfl k) ?_
      refine own_st (T' := T) (g' := (mkF m 125 #[.val (.int v0)] [(.int (8591 : Int32)), (.int v0)])) (fun _ k => XS.sipush (g := (mkF m 122 #[.val (.int v0)] [(.int v0)])) X.here hx rfl (hb hby d1_122) k) ?_
      by_cases hc125 : (8591 : Int32) < v0
      · have hf := hf.trans (if_pos hc125)
        refine own_st (T' := T) (g' := (mkF m 128 #[.val (.int v0)] [])) (fun _ k => XS.icmpNo (g := (mkF m 125 #[.val (.int v0)] [(.int (8591 : Int32)), (.int v0)])) X.here hx rfl (hb hby d1_125) rfl (tlt hc125).2.2.2 k) ?_
        exact b128 T _ X eT NL  v0 hf
      · have hf := hf.trans (if_neg hc125)
        refine own_st (T' := T) (g' := (mkF m 191 #[.val (.int v0)] [])) (fun _ k => XS.icmpYes (g := (mkF m 125 #[.val (.int v0)] [(.int (8591 : Int32)), (.int v0)])) X.here hx rfl (pc0 := 125) (pc' := 191) rfl (hb hby d1_125) rfl (flt hc125).2.2.2 (by decide) (by decide) k) ?_
        exact b191 T _ X eT NL  v0 hf
  have b100 : ∀ (T : State) (Lc : List Loc) (X : Stand p l e ({ frames := 0, cells := 0, slots := 0, locals := 0 } : Room) s m #[(.int p1)] below meth c T Lc 0 0) (eT : T.heap = h0) (NL : Fr n0 Lc) (v0 : Int32), own_f1_0 p1 = own_f1_100 v0 → own_Goes p e below (fun o U' => ∃ v L, o = .returned v ∧ Q1 Z p1 h0 n0 v U'.heap L ∧ FrameEnd s o U' L ({ frames := 0, cells := 0, slots := 0, locals := 0 } : Room).cells ({ frames := 0, cells := 0, slots := 0, locals := 0 } : Room).slots) T (mkF m 100 #[.val (.int v0)] []) := by
    intro T Lc X eT NL v0 hf
    refine own_st (T' := T) (g' := (mkF m 101 #[.val (.int v0)] [(.int v0)])) (fun _ k => Jvm.Free.XS.iloadN (g := (mkF m 100 #[.val (.int v0)] [])) X.here hx rfl (hb hby d1_100) rfl k) ?_
    refine own_st (T' := T) (g' := (mkF m 104 #[.val (.int v0)] [(.int (8204 : Int32)), (.int v0)])) (fun _ k => XS.sipush (g := (mkF m 101 #[.val (.int v0)] [(.int v0)])) X.here hx rfl (hb hby d1_101) k) ?_
    by_cases hc104 : v0 < (8204 : Int32)
    · have hf := hf.trans (if_pos hc104)
      refine own_st (T' := T) (g' := (mkF m 114 #[.val (.int v0)] [])) (fun _ k => XS.icmpYes (g := (mkF m 104 #[.val (.int v0)] [(.int (8204 : Int32)), (.int v0)])) X.here hx rfl (pc0 := 104) (pc' := 114) rfl (hb hby d1_104) rfl (tlt hc104).1 (by decide) (by decide) k) ?_
      exact b114 T _ X eT NL  v0 hf
    · have hf := hf.trans (if_neg hc104)
      refine own_st (T' := T) (g' := (mkF m 107 #[.val (.int v0)] [])) (fun _ k => XS.icmpNo (g := (mkF m 104 #[.val (.int v0)] [(.int (8204 : Int32)), (.int v0)])) X.here hx rfl (hb hby d1_104) rfl (flt hc104).1 k) ?_
      refine own_st (T' := T) (g' := (mkF m 108 #[.val (.int v0)] [(.int v0)])) (fun _ k => Jvm.Free.XS.iloadN (g := (mkF m 107 #[.val (.int v0)] [])) X.here hx rfl (hb hby d1_107) rfl k) ?_
      refine own_st (T' := T) (g' := (mkF m 111 #[.val (.int v0)] [(.int (8205 : Int32)), (.int v0)])) (fun _ k => XS.sipush (g := (mkF m 108 #[.val (.int v0)] [(.int v0)])) X.here hx rfl (hb hby d1_108) k) ?_
      by_cases hc111 : (8205 : Int32) < v0
      · have hf := hf.trans (if_pos hc111)
        refine own_st (T' := T) (g' := (mkF m 114 #[.val (.int v0)] [])) (fun _ k => XS.icmpNo (g := (mkF m 111 #[.val (.int v0)] [(.int (8205 : Int32)), (.int v0)])) X.here hx rfl (hb hby d1_111) rfl (tlt hc111).2.2.2 k) ?_
        exact b114 T _ X eT NL  v0 hf
      · have hf := hf.trans (if_neg hc111)
        refine own_st (T' := T) (g' := (mkF m 191 #[.val (.int v0)] [])) (fun _ k => XS.icmpYes (g := (mkF m 111 #[.val (.int v0)] [(.int (8205 : Int32)), (.int v0)])) X.here hx rfl (pc0 := 111) (pc' := 191) rfl (hb hby d1_111) rfl (flt hc111).2.2.2 (by decide) (by decide) k) ?_
        exact b191 T _ X eT NL  v0 hf
  have b86 : ∀ (T : State) (Lc : List Loc) (X : Stand p l e ({ frames := 0, cells := 0, slots := 0, locals := 0 } : Room) s m #[(.int p1)] below meth c T Lc 0 0) (eT : T.heap = h0) (NL : Fr n0 Lc) (v0 : Int32), own_f1_0 p1 = own_f1_86 v0 → own_Goes p e below (fun o U' => ∃ v L, o = .returned v ∧ Q1 Z p1 h0 n0 v U'.heap L ∧ FrameEnd s o U' L ({ frames := 0, cells := 0, slots := 0, locals := 0 } : Room).cells ({ frames := 0, cells := 0, slots := 0, locals := 0 } : Room).slots) T (mkF m 86 #[.val (.int v0)] []) := by
    intro T Lc X eT NL v0 hf
    refine own_st (T' := T) (g' := (mkF m 87 #[.val (.int v0)] [(.int v0)])) (fun _ k => Jvm.Free.XS.iloadN (g := (mkF m 86 #[.val (.int v0)] [])) X.here hx rfl (hb hby d1_86) rfl k) ?_
    refine own_st (T' := T) (g' := (mkF m 90 #[.val (.int v0)] [(.int (895 : Int32)), (.int v0)])) (fun _ k => XS.sipush (g := (mkF m 87 #[.val (.int v0)] [(.int v0)])) X.here hx rfl (hb hby d1_87) k) ?_
    by_cases hc90 : v0 < (895 : Int32)
    · have hf := hf.trans (if_pos hc90)
      refine own_st (T' := T) (g' := (mkF m 100 #[.val (.int v0)] [])) (fun _ k => XS.icmpYes (g := (mkF m 90 #[.val (.int v0)] [(.int (895 : Int32)), (.int v0)])) X.here hx rfl (pc0 := 90) (pc' := 100) rfl (hb hby d1_90) rfl (tlt hc90).1 (by decide) (by decide) k) ?_
      exact b100 T _ X eT NL  v0 hf
    · have hf := hf.trans (if_neg hc90)
      refine own_st (T' := T) (g' := (mkF m 93 #[.val (.int v0)] [])) (fun _ k => XS.icmpNo (g := (mkF m 90 #[.val (.int v0)] [(.int (895 : Int32)), (.int v0)])) X.here hx rfl (hb hby d1_90) rfl (flt hc90).1 k) ?_
      refine own_st (T' := T) (g' := (mkF m 94 #[.val (.int v0)] [(.int v0)])) (fun _ k => Jvm.Free.XS.iloadN (g := (mkF m 93 #[.val (.int v0)] [])) X.here hx rfl (hb hby d1_93) rfl k) ?_
      refine own_st (T' := T) (g' := (mkF m 97 #[.val (.int v0)] [(.int (8191 : Int32)), (.int v0)])) (fun _ k => XS.sipush (g := (mkF m 94 #[.val (.int v0)] [(.int v0)])) X.here hx rfl (hb hby d1_94) k) ?_
      by_cases hc97 : (8191 : Int32) < v0
      · have hf := hf.trans (if_pos hc97)
        refine own_st (T' := T) (g' := (mkF m 100 #[.val (.int v0)] [])) (fun _ k => XS.icmpNo (g := (mkF m 97 #[.val (.int v0)] [(.int (8191 : Int32)), (.int v0)])) X.here hx rfl (hb hby d1_97) rfl (tlt hc97).2.2.2 k) ?_
        exact b100 T _ X eT NL  v0 hf
      · have hf := hf.trans (if_neg hc97)
        refine own_st (T' := T) (g' := (mkF m 191 #[.val (.int v0)] [])) (fun _ k => XS.icmpYes (g := (mkF m 97 #[.val (.int v0)] [(.int (8191 : Int32)), (.int v0)])) X.here hx rfl (pc0 := 97) (pc' := 191) rfl (hb hby d1_97) rfl (flt hc97).2.2.2 (by decide) (by decide) k) ?_
        exact b191 T _ X eT NL  v0 hf
  have b72 : ∀ (T : State) (Lc : List Loc) (X : Stand p l e ({ frames := 0, cells := 0, slots := 0, locals := 0 } : Room) s m #[(.int p1)] below meth c T Lc 0 0) (eT : T.heap = h0) (NL : Fr n0 Lc) (v0 : Int32), own_f1_0 p1 = own_f1_72 v0 → own_Goes p e below (fun o U' => ∃ v L, o = .returned v ∧ Q1 Z p1 h0 n0 v U'.heap L ∧ FrameEnd s o U' L ({ frames := 0, cells := 0, slots := 0, locals := 0 } : Room).cells ({ frames := 0, cells := 0, slots := 0, locals := 0 } : Room).slots) T (mkF m 72 #[.val (.int v0)] []) := by
    intro T Lc X eT NL v0 hf
    refine own_st (T' := T) (g' := (mkF m 73 #[.val (.int v0)] [(.int v0)])) (fun _ k => Jvm.Free.XS.iloadN (g := (mkF m 72 #[.val (.int v0)] [])) X.here hx rfl (hb hby d1_72) rfl k) ?_
    refine own_st (T' := T) (g' := (mkF m 76 #[.val (.int v0)] [(.int (880 : Int32)), (.int v0)])) (fun _ k => XS.sipush (g := (mkF m 73 #[.val (.int v0)] [(.int v0)])) X.here hx rfl (hb hby d1_73) k) ?_
    by_cases hc76 : v0 < (880 : Int32)
    · have hf := hf.trans (if_pos hc76)
      refine own_st (T' := T) (g' := (mkF m 86 #[.val (.int v0)] [])) (fun _ k => XS.icmpYes (g := (mkF m 76 #[.val (.int v0)] [(.int (880 : Int32)), (.int v0)])) X.here hx rfl (pc0 := 76) (pc' := 86) rfl (hb hby d1_76) rfl (tlt hc76).1 (by decide) (by decide) k) ?_
      exact b86 T _ X eT NL  v0 hf
    · have hf := hf.trans (if_neg hc76)
      refine own_st (T' := T) (g' := (mkF m 79 #[.val (.int v0)] [])) (fun _ k => XS.icmpNo (g := (mkF m 76 #[.val (.int v0)] [(.int (880 : Int32)), (.int v0)])) X.here hx rfl (hb hby d1_76) rfl (flt hc76).1 k) ?_
      refine own_st (T' := T) (g' := (mkF m 80 #[.val (.int v0)] [(.int v0)])) (fun _ k => Jvm.Free.XS.iloadN (g := (mkF m 79 #[.val (.int v0)] [])) X.here hx rfl (hb hby d1_79) rfl k) ?_
      refine own_st (T' := T) (g' := (mkF m 83 #[.val (.int v0)] [(.int (893 : Int32)), (.int v0)])) (fun _ k => XS.sipush (g := (mkF m 80 #[.val (.int v0)] [(.int v0)])) X.here hx rfl (hb hby d1_80) k) ?_
      by_cases hc83 : (893 : Int32) < v0
      · have hf := hf.trans (if_pos hc83)
        refine own_st (T' := T) (g' := (mkF m 86 #[.val (.int v0)] [])) (fun _ k => XS.icmpNo (g := (mkF m 83 #[.val (.int v0)] [(.int (893 : Int32)), (.int v0)])) X.here hx rfl (hb hby d1_83) rfl (tlt hc83).2.2.2 k) ?_
        exact b86 T _ X eT NL  v0 hf
      · have hf := hf.trans (if_neg hc83)
        refine own_st (T' := T) (g' := (mkF m 191 #[.val (.int v0)] [])) (fun _ k => XS.icmpYes (g := (mkF m 83 #[.val (.int v0)] [(.int (893 : Int32)), (.int v0)])) X.here hx rfl (pc0 := 83) (pc' := 191) rfl (hb hby d1_83) rfl (flt hc83).2.2.2 (by decide) (by decide) k) ?_
        exact b191 T _ X eT NL  v0 hf
  have b58 : ∀ (T : State) (Lc : List Loc) (X : Stand p l e ({ frames := 0, cells := 0, slots := 0, locals := 0 } : Room) s m #[(.int p1)] below meth c T Lc 0 0) (eT : T.heap = h0) (NL : Fr n0 Lc) (v0 : Int32), own_f1_0 p1 = own_f1_58 v0 → own_Goes p e below (fun o U' => ∃ v L, o = .returned v ∧ Q1 Z p1 h0 n0 v U'.heap L ∧ FrameEnd s o U' L ({ frames := 0, cells := 0, slots := 0, locals := 0 } : Room).cells ({ frames := 0, cells := 0, slots := 0, locals := 0 } : Room).slots) T (mkF m 58 #[.val (.int v0)] []) := by
    intro T Lc X eT NL v0 hf
    refine own_st (T' := T) (g' := (mkF m 59 #[.val (.int v0)] [(.int v0)])) (fun _ k => Jvm.Free.XS.iloadN (g := (mkF m 58 #[.val (.int v0)] [])) X.here hx rfl (hb hby d1_58) rfl k) ?_
    refine own_st (T' := T) (g' := (mkF m 62 #[.val (.int v0)] [(.int (248 : Int32)), (.int v0)])) (fun _ k => XS.sipush (g := (mkF m 59 #[.val (.int v0)] [(.int v0)])) X.here hx rfl (hb hby d1_59) k) ?_
    by_cases hc62 : v0 < (248 : Int32)
    · have hf := hf.trans (if_pos hc62)
      refine own_st (T' := T) (g' := (mkF m 72 #[.val (.int v0)] [])) (fun _ k => XS.icmpYes (g := (mkF m 62 #[.val (.int v0)] [(.int (248 : Int32)), (.int v0)])) X.here hx rfl (pc0 := 62) (pc' := 72) rfl (hb hby d1_62) rfl (tlt hc62).1 (by decide) (by decide) k) ?_
      exact b72 T _ X eT NL  v0 hf
    · have hf := hf.trans (if_neg hc62)
      refine own_st (T' := T) (g' := (mkF m 65 #[.val (.int v0)] [])) (fun _ k => XS.icmpNo (g := (mkF m 62 #[.val (.int v0)] [(.int (248 : Int32)), (.int v0)])) X.here hx rfl (hb hby d1_62) rfl (flt hc62).1 k) ?_
      refine own_st (T' := T) (g' := (mkF m 66 #[.val (.int v0)] [(.int v0)])) (fun _ k => Jvm.Free.XS.iloadN (g := (mkF m 65 #[.val (.int v0)] [])) X.here hx rfl (hb hby d1_65) rfl k) ?_
      refine own_st (T' := T) (g' := (mkF m 69 #[.val (.int v0)] [(.int (767 : Int32)), (.int v0)])) (fun _ k => XS.sipush (g := (mkF m 66 #[.val (.int v0)] [(.int v0)])) X.here hx rfl (hb hby d1_66) k) ?_
      by_cases hc69 : (767 : Int32) < v0
      · have hf := hf.trans (if_pos hc69)
        refine own_st (T' := T) (g' := (mkF m 72 #[.val (.int v0)] [])) (fun _ k => XS.icmpNo (g := (mkF m 69 #[.val (.int v0)] [(.int (767 : Int32)), (.int v0)])) X.here hx rfl (hb hby d1_69) rfl (tlt hc69).2.2.2 k) ?_
        exact b72 T _ X eT NL  v0 hf
      · have hf := hf.trans (if_neg hc69)
        refine own_st (T' := T) (g' := (mkF m 191 #[.val (.int v0)] [])) (fun _ k => XS.icmpYes (g := (mkF m 69 #[.val (.int v0)] [(.int (767 : Int32)), (.int v0)])) X.here hx rfl (pc0 := 69) (pc' := 191) rfl (hb hby d1_69) rfl (flt hc69).2.2.2 (by decide) (by decide) k) ?_
        exact b191 T _ X eT NL  v0 hf
  have b44 : ∀ (T : State) (Lc : List Loc) (X : Stand p l e ({ frames := 0, cells := 0, slots := 0, locals := 0 } : Room) s m #[(.int p1)] below meth c T Lc 0 0) (eT : T.heap = h0) (NL : Fr n0 Lc) (v0 : Int32), own_f1_0 p1 = own_f1_44 v0 → own_Goes p e below (fun o U' => ∃ v L, o = .returned v ∧ Q1 Z p1 h0 n0 v U'.heap L ∧ FrameEnd s o U' L ({ frames := 0, cells := 0, slots := 0, locals := 0 } : Room).cells ({ frames := 0, cells := 0, slots := 0, locals := 0 } : Room).slots) T (mkF m 44 #[.val (.int v0)] []) := by
    intro T Lc X eT NL v0 hf
    refine own_st (T' := T) (g' := (mkF m 45 #[.val (.int v0)] [(.int v0)])) (fun _ k => Jvm.Free.XS.iloadN (g := (mkF m 44 #[.val (.int v0)] [])) X.here hx rfl (hb hby d1_44) rfl k) ?_
    refine own_st (T' := T) (g' := (mkF m 48 #[.val (.int v0)] [(.int (216 : Int32)), (.int v0)])) (fun _ k => XS.sipush (g := (mkF m 45 #[.val (.int v0)] [(.int v0)])) X.here hx rfl (hb hby d1_45) k) ?_
    by_cases hc48 : v0 < (216 : Int32)
    · have hf := hf.trans (if_pos hc48)
      refine own_st (T' := T) (g' := (mkF m 58 #[.val (.int v0)] [])) (fun _ k => XS.icmpYes (g := (mkF m 48 #[.val (.int v0)] [(.int (216 : Int32)), (.int v0)])) X.here hx rfl (pc0 := 48) (pc' := 58) rfl (hb hby d1_48) rfl (tlt hc48).1 (by decide) (by decide) k) ?_
      exact b58 T _ X eT NL  v0 hf
    · have hf := hf.trans (if_neg hc48)
      refine own_st (T' := T) (g' := (mkF m 51 #[.val (.int v0)] [])) (fun _ k => XS.icmpNo (g := (mkF m 48 #[.val (.int v0)] [(.int (216 : Int32)), (.int v0)])) X.here hx rfl (hb hby d1_48) rfl (flt hc48).1 k) ?_
      refine own_st (T' := T) (g' := (mkF m 52 #[.val (.int v0)] [(.int v0)])) (fun _ k => Jvm.Free.XS.iloadN (g := (mkF m 51 #[.val (.int v0)] [])) X.here hx rfl (hb hby d1_51) rfl k) ?_
      refine own_st (T' := T) (g' := (mkF m 55 #[.val (.int v0)] [(.int (246 : Int32)), (.int v0)])) (fun _ k => XS.sipush (g := (mkF m 52 #[.val (.int v0)] [(.int v0)])) X.here hx rfl (hb hby d1_52) k) ?_
      by_cases hc55 : (246 : Int32) < v0
      · have hf := hf.trans (if_pos hc55)
        refine own_st (T' := T) (g' := (mkF m 58 #[.val (.int v0)] [])) (fun _ k => XS.icmpNo (g := (mkF m 55 #[.val (.int v0)] [(.int (246 : Int32)), (.int v0)])) X.here hx rfl (hb hby d1_55) rfl (tlt hc55).2.2.2 k) ?_
        exact b58 T _ X eT NL  v0 hf
      · have hf := hf.trans (if_neg hc55)
        refine own_st (T' := T) (g' := (mkF m 191 #[.val (.int v0)] [])) (fun _ k => XS.icmpYes (g := (mkF m 55 #[.val (.int v0)] [(.int (246 : Int32)), (.int v0)])) X.here hx rfl (pc0 := 55) (pc' := 191) rfl (hb hby d1_55) rfl (flt hc55).2.2.2 (by decide) (by decide) k) ?_
        exact b191 T _ X eT NL  v0 hf
  have b24 : ∀ (T : State) (Lc : List Loc) (X : Stand p l e ({ frames := 0, cells := 0, slots := 0, locals := 0 } : Room) s m #[(.int p1)] below meth c T Lc 0 0) (eT : T.heap = h0) (NL : Fr n0 Lc) (v0 : Int32), own_f1_0 p1 = own_f1_24 v0 → own_Goes p e below (fun o U' => ∃ v L, o = .returned v ∧ Q1 Z p1 h0 n0 v U'.heap L ∧ FrameEnd s o U' L ({ frames := 0, cells := 0, slots := 0, locals := 0 } : Room).cells ({ frames := 0, cells := 0, slots := 0, locals := 0 } : Room).slots) T (mkF m 24 #[.val (.int v0)] []) := by
    intro T Lc X eT NL v0 hf
    refine own_st (T' := T) (g' := (mkF m 25 #[.val (.int v0)] [(.int v0)])) (fun _ k => Jvm.Free.XS.iloadN (g := (mkF m 24 #[.val (.int v0)] [])) X.here hx rfl (hb hby d1_24) rfl k) ?_
    refine own_st (T' := T) (g' := (mkF m 27 #[.val (.int v0)] [(.int (95 : Int32)), (.int v0)])) (fun _ k => XS.bipush (g := (mkF m 25 #[.val (.int v0)] [(.int v0)])) X.here hx rfl (hb hby d1_25) k) ?_
    by_cases hc27 : v0 = (95 : Int32)
    · have hf := hf.trans (if_pos hc27)
      refine own_st (T' := T) (g' := (mkF m 191 #[.val (.int v0)] [])) (fun _ k => XS.icmpYes (g := (mkF m 27 #[.val (.int v0)] [(.int (95 : Int32)), (.int v0)])) X.here hx rfl (pc0 := 27) (pc' := 191) rfl (hb hby d1_27) rfl (teq hc27).1 (by decide) (by decide) k) ?_
      exact b191 T _ X eT NL  v0 hf
    · have hf := hf.trans (if_neg hc27)
      refine own_st (T' := T) (g' := (mkF m 30 #[.val (.int v0)] [])) (fun _ k => XS.icmpNo (g := (mkF m 27 #[.val (.int v0)] [(.int (95 : Int32)), (.int v0)])) X.here hx rfl (hb hby d1_27) rfl (feq hc27).1 k) ?_
      refine own_st (T' := T) (g' := (mkF m 31 #[.val (.int v0)] [(.int v0)])) (fun _ k => Jvm.Free.XS.iloadN (g := (mkF m 30 #[.val (.int v0)] [])) X.here hx rfl (hb hby d1_30) rfl k) ?_
      refine own_st (T' := T) (g' := (mkF m 34 #[.val (.int v0)] [(.int (192 : Int32)), (.int v0)])) (fun _ k => XS.sipush (g := (mkF m 31 #[.val (.int v0)] [(.int v0)])) X.here hx rfl (hb hby d1_31) k) ?_
      by_cases hc34 : v0 < (192 : Int32)
      · have hf := hf.trans (if_pos hc34)
        refine own_st (T' := T) (g' := (mkF m 44 #[.val (.int v0)] [])) (fun _ k => XS.icmpYes (g := (mkF m 34 #[.val (.int v0)] [(.int (192 : Int32)), (.int v0)])) X.here hx rfl (pc0 := 34) (pc' := 44) rfl (hb hby d1_34) rfl (tlt hc34).1 (by decide) (by decide) k) ?_
        exact b44 T _ X eT NL  v0 hf
      · have hf := hf.trans (if_neg hc34)
        refine own_st (T' := T) (g' := (mkF m 37 #[.val (.int v0)] [])) (fun _ k => XS.icmpNo (g := (mkF m 34 #[.val (.int v0)] [(.int (192 : Int32)), (.int v0)])) X.here hx rfl (hb hby d1_34) rfl (flt hc34).1 k) ?_
        refine own_st (T' := T) (g' := (mkF m 38 #[.val (.int v0)] [(.int v0)])) (fun _ k => Jvm.Free.XS.iloadN (g := (mkF m 37 #[.val (.int v0)] [])) X.here hx rfl (hb hby d1_37) rfl k) ?_
        refine own_st (T' := T) (g' := (mkF m 41 #[.val (.int v0)] [(.int (214 : Int32)), (.int v0)])) (fun _ k => XS.sipush (g := (mkF m 38 #[.val (.int v0)] [(.int v0)])) X.here hx rfl (hb hby d1_38) k) ?_
        by_cases hc41 : (214 : Int32) < v0
        · have hf := hf.trans (if_pos hc41)
          refine own_st (T' := T) (g' := (mkF m 44 #[.val (.int v0)] [])) (fun _ k => XS.icmpNo (g := (mkF m 41 #[.val (.int v0)] [(.int (214 : Int32)), (.int v0)])) X.here hx rfl (hb hby d1_41) rfl (tlt hc41).2.2.2 k) ?_
          exact b44 T _ X eT NL  v0 hf
        · have hf := hf.trans (if_neg hc41)
          refine own_st (T' := T) (g' := (mkF m 191 #[.val (.int v0)] [])) (fun _ k => XS.icmpYes (g := (mkF m 41 #[.val (.int v0)] [(.int (214 : Int32)), (.int v0)])) X.here hx rfl (pc0 := 41) (pc' := 191) rfl (hb hby d1_41) rfl (flt hc41).2.2.2 (by decide) (by decide) k) ?_
          exact b191 T _ X eT NL  v0 hf
  have b12 : ∀ (T : State) (Lc : List Loc) (X : Stand p l e ({ frames := 0, cells := 0, slots := 0, locals := 0 } : Room) s m #[(.int p1)] below meth c T Lc 0 0) (eT : T.heap = h0) (NL : Fr n0 Lc) (v0 : Int32), own_f1_0 p1 = own_f1_12 v0 → own_Goes p e below (fun o U' => ∃ v L, o = .returned v ∧ Q1 Z p1 h0 n0 v U'.heap L ∧ FrameEnd s o U' L ({ frames := 0, cells := 0, slots := 0, locals := 0 } : Room).cells ({ frames := 0, cells := 0, slots := 0, locals := 0 } : Room).slots) T (mkF m 12 #[.val (.int v0)] []) := by
    intro T Lc X eT NL v0 hf
    refine own_st (T' := T) (g' := (mkF m 13 #[.val (.int v0)] [(.int v0)])) (fun _ k => Jvm.Free.XS.iloadN (g := (mkF m 12 #[.val (.int v0)] [])) X.here hx rfl (hb hby d1_12) rfl k) ?_
    refine own_st (T' := T) (g' := (mkF m 15 #[.val (.int v0)] [(.int (65 : Int32)), (.int v0)])) (fun _ k => XS.bipush (g := (mkF m 13 #[.val (.int v0)] [(.int v0)])) X.here hx rfl (hb hby d1_13) k) ?_
    by_cases hc15 : v0 < (65 : Int32)
    · have hf := hf.trans (if_pos hc15)
      refine own_st (T' := T) (g' := (mkF m 24 #[.val (.int v0)] [])) (fun _ k => XS.icmpYes (g := (mkF m 15 #[.val (.int v0)] [(.int (65 : Int32)), (.int v0)])) X.here hx rfl (pc0 := 15) (pc' := 24) rfl (hb hby d1_15) rfl (tlt hc15).1 (by decide) (by decide) k) ?_
      exact b24 T _ X eT NL  v0 hf
    · have hf := hf.trans (if_neg hc15)
      refine own_st (T' := T) (g' := (mkF m 18 #[.val (.int v0)] [])) (fun _ k => XS.icmpNo (g := (mkF m 15 #[.val (.int v0)] [(.int (65 : Int32)), (.int v0)])) X.here hx rfl (hb hby d1_15) rfl (flt hc15).1 k) ?_
      refine own_st (T' := T) (g' := (mkF m 19 #[.val (.int v0)] [(.int v0)])) (fun _ k => Jvm.Free.XS.iloadN (g := (mkF m 18 #[.val (.int v0)] [])) X.here hx rfl (hb hby d1_18) rfl k) ?_
      refine own_st (T' := T) (g' := (mkF m 21 #[.val (.int v0)] [(.int (90 : Int32)), (.int v0)])) (fun _ k => XS.bipush (g := (mkF m 19 #[.val (.int v0)] [(.int v0)])) X.here hx rfl (hb hby d1_19) k) ?_
      by_cases hc21 : (90 : Int32) < v0
      · have hf := hf.trans (if_pos hc21)
        refine own_st (T' := T) (g' := (mkF m 24 #[.val (.int v0)] [])) (fun _ k => XS.icmpNo (g := (mkF m 21 #[.val (.int v0)] [(.int (90 : Int32)), (.int v0)])) X.here hx rfl (hb hby d1_21) rfl (tlt hc21).2.2.2 k) ?_
        exact b24 T _ X eT NL  v0 hf
      · have hf := hf.trans (if_neg hc21)
        refine own_st (T' := T) (g' := (mkF m 191 #[.val (.int v0)] [])) (fun _ k => XS.icmpYes (g := (mkF m 21 #[.val (.int v0)] [(.int (90 : Int32)), (.int v0)])) X.here hx rfl (pc0 := 21) (pc' := 191) rfl (hb hby d1_21) rfl (flt hc21).2.2.2 (by decide) (by decide) k) ?_
        exact b191 T _ X eT NL  v0 hf
  have hf : own_f1_0 p1 = own_f1_0 p1 := rfl
  refine own_st (T' := s₁) (g' := (mkF m 1 #[.val (.int p1)] [(.int p1)])) (fun _ k => Jvm.Free.XS.iloadN (g := (mkF m 0 #[.val (.int p1)] [])) X0.here hx rfl (hb hby d1_0) rfl k) ?_
  refine own_st (T' := s₁) (g' := (mkF m 3 #[.val (.int p1)] [(.int (97 : Int32)), (.int p1)])) (fun _ k => XS.bipush (g := (mkF m 1 #[.val (.int p1)] [(.int p1)])) X0.here hx rfl (hb hby d1_1) k) ?_
  by_cases hc3 : p1 < (97 : Int32)
  · have hf := hf.trans (if_pos hc3)
    refine own_st (T' := s₁) (g' := (mkF m 12 #[.val (.int p1)] [])) (fun _ k => XS.icmpYes (g := (mkF m 3 #[.val (.int p1)] [(.int (97 : Int32)), (.int p1)])) X0.here hx rfl (pc0 := 3) (pc' := 12) rfl (hb hby d1_3) rfl (tlt hc3).1 (by decide) (by decide) k) ?_
    exact b12 s₁ _ X0 e0 N0  p1 hf
  · have hf := hf.trans (if_neg hc3)
    refine own_st (T' := s₁) (g' := (mkF m 6 #[.val (.int p1)] [])) (fun _ k => XS.icmpNo (g := (mkF m 3 #[.val (.int p1)] [(.int (97 : Int32)), (.int p1)])) X0.here hx rfl (hb hby d1_3) rfl (flt hc3).1 k) ?_
    refine own_st (T' := s₁) (g' := (mkF m 7 #[.val (.int p1)] [(.int p1)])) (fun _ k => Jvm.Free.XS.iloadN (g := (mkF m 6 #[.val (.int p1)] [])) X0.here hx rfl (hb hby d1_6) rfl k) ?_
    refine own_st (T' := s₁) (g' := (mkF m 9 #[.val (.int p1)] [(.int (122 : Int32)), (.int p1)])) (fun _ k => XS.bipush (g := (mkF m 7 #[.val (.int p1)] [(.int p1)])) X0.here hx rfl (hb hby d1_7) k) ?_
    by_cases hc9 : (122 : Int32) < p1
    · have hf := hf.trans (if_pos hc9)
      refine own_st (T' := s₁) (g' := (mkF m 12 #[.val (.int p1)] [])) (fun _ k => XS.icmpNo (g := (mkF m 9 #[.val (.int p1)] [(.int (122 : Int32)), (.int p1)])) X0.here hx rfl (hb hby d1_9) rfl (tlt hc9).2.2.2 k) ?_
      exact b12 s₁ _ X0 e0 N0  p1 hf
    · have hf := hf.trans (if_neg hc9)
      refine own_st (T' := s₁) (g' := (mkF m 191 #[.val (.int p1)] [])) (fun _ k => XS.icmpYes (g := (mkF m 9 #[.val (.int p1)] [(.int (122 : Int32)), (.int p1)])) X0.here hx rfl (pc0 := 9) (pc' := 191) rfl (hb hby d1_9) rfl (flt hc9).2.2.2 (by decide) (by decide) k) ?_
      exact b191 s₁ _ X0 e0 N0  p1 hf
theorem d2_0 : decode method_2_code 0 = .ok (.iload_n 0, 1) := by decide +kernel
theorem d2_1 : decode method_2_code 1 = .ok (.bipush 65, 2) := by decide +kernel
theorem d2_3 : decode method_2_code 3 = .ok (.if_icmp .lt 9, 3) := by decide +kernel
theorem d2_6 : decode method_2_code 6 = .ok (.iload_n 0, 1) := by decide +kernel
theorem d2_7 : decode method_2_code 7 = .ok (.ldc 7, 2) := by decide +kernel
theorem d2_9 : decode method_2_code 9 = .ok (.if_icmp .le 5, 3) := by decide +kernel
theorem d2_12 : decode method_2_code 12 = .ok (.iconst 0, 1) := by decide +kernel
theorem d2_13 : decode method_2_code 13 = .ok (.ireturn, 1) := by decide +kernel
theorem d2_14 : decode method_2_code 14 = .ok (.iload_n 0, 1) := by decide +kernel
theorem d2_15 : decode method_2_code 15 = .ok (.bipush 91, 2) := by decide +kernel
theorem d2_17 : decode method_2_code 17 = .ok (.if_icmp .lt 11, 3) := by decide +kernel
theorem d2_20 : decode method_2_code 20 = .ok (.iload_n 0, 1) := by decide +kernel
theorem d2_21 : decode method_2_code 21 = .ok (.bipush 94, 2) := by decide +kernel
theorem d2_23 : decode method_2_code 23 = .ok (.if_icmp .gt 5, 3) := by decide +kernel
theorem d2_26 : decode method_2_code 26 = .ok (.iconst 0, 1) := by decide +kernel
theorem d2_27 : decode method_2_code 27 = .ok (.ireturn, 1) := by decide +kernel
theorem d2_28 : decode method_2_code 28 = .ok (.iload_n 0, 1) := by decide +kernel
theorem d2_29 : decode method_2_code 29 = .ok (.bipush 96, 2) := by decide +kernel
theorem d2_31 : decode method_2_code 31 = .ok (.if_icmp .ne 5, 3) := by decide +kernel
theorem d2_34 : decode method_2_code 34 = .ok (.iconst 0, 1) := by decide +kernel
theorem d2_35 : decode method_2_code 35 = .ok (.ireturn, 1) := by decide +kernel
theorem d2_36 : decode method_2_code 36 = .ok (.iload_n 0, 1) := by decide +kernel
theorem d2_37 : decode method_2_code 37 = .ok (.bipush 123, 2) := by decide +kernel
theorem d2_39 : decode method_2_code 39 = .ok (.if_icmp .lt 12, 3) := by decide +kernel
theorem d2_42 : decode method_2_code 42 = .ok (.iload_n 0, 1) := by decide +kernel
theorem d2_43 : decode method_2_code 43 = .ok (.sipush 191, 3) := by decide +kernel
theorem d2_46 : decode method_2_code 46 = .ok (.if_icmp .gt 5, 3) := by decide +kernel
theorem d2_49 : decode method_2_code 49 = .ok (.iconst 0, 1) := by decide +kernel
theorem d2_50 : decode method_2_code 50 = .ok (.ireturn, 1) := by decide +kernel
theorem d2_51 : decode method_2_code 51 = .ok (.iload_n 0, 1) := by decide +kernel
theorem d2_52 : decode method_2_code 52 = .ok (.sipush 215, 3) := by decide +kernel
theorem d2_55 : decode method_2_code 55 = .ok (.if_icmp .ne 5, 3) := by decide +kernel
theorem d2_58 : decode method_2_code 58 = .ok (.iconst 0, 1) := by decide +kernel
theorem d2_59 : decode method_2_code 59 = .ok (.ireturn, 1) := by decide +kernel
theorem d2_60 : decode method_2_code 60 = .ok (.iload_n 0, 1) := by decide +kernel
theorem d2_61 : decode method_2_code 61 = .ok (.sipush 247, 3) := by decide +kernel
theorem d2_64 : decode method_2_code 64 = .ok (.if_icmp .ne 5, 3) := by decide +kernel
theorem d2_67 : decode method_2_code 67 = .ok (.iconst 0, 1) := by decide +kernel
theorem d2_68 : decode method_2_code 68 = .ok (.ireturn, 1) := by decide +kernel
theorem d2_69 : decode method_2_code 69 = .ok (.iload_n 0, 1) := by decide +kernel
theorem d2_70 : decode method_2_code 70 = .ok (.sipush 768, 3) := by decide +kernel
theorem d2_73 : decode method_2_code 73 = .ok (.if_icmp .lt 12, 3) := by decide +kernel
theorem d2_76 : decode method_2_code 76 = .ok (.iload_n 0, 1) := by decide +kernel
theorem d2_77 : decode method_2_code 77 = .ok (.sipush 879, 3) := by decide +kernel
theorem d2_80 : decode method_2_code 80 = .ok (.if_icmp .gt 5, 3) := by decide +kernel
theorem d2_83 : decode method_2_code 83 = .ok (.iconst 0, 1) := by decide +kernel
theorem d2_84 : decode method_2_code 84 = .ok (.ireturn, 1) := by decide +kernel
theorem d2_85 : decode method_2_code 85 = .ok (.iload_n 0, 1) := by decide +kernel
theorem d2_86 : decode method_2_code 86 = .ok (.sipush 894, 3) := by decide +kernel
theorem d2_89 : decode method_2_code 89 = .ok (.if_icmp .ne 5, 3) := by decide +kernel
theorem d2_92 : decode method_2_code 92 = .ok (.iconst 0, 1) := by decide +kernel
theorem d2_93 : decode method_2_code 93 = .ok (.ireturn, 1) := by decide +kernel
theorem d2_94 : decode method_2_code 94 = .ok (.iload_n 0, 1) := by decide +kernel
theorem d2_95 : decode method_2_code 95 = .ok (.sipush 8192, 3) := by decide +kernel
theorem d2_98 : decode method_2_code 98 = .ok (.if_icmp .lt 12, 3) := by decide +kernel
theorem d2_101 : decode method_2_code 101 = .ok (.iload_n 0, 1) := by decide +kernel
theorem d2_102 : decode method_2_code 102 = .ok (.sipush 8203, 3) := by decide +kernel
theorem d2_105 : decode method_2_code 105 = .ok (.if_icmp .gt 5, 3) := by decide +kernel
theorem d2_108 : decode method_2_code 108 = .ok (.iconst 0, 1) := by decide +kernel
theorem d2_109 : decode method_2_code 109 = .ok (.ireturn, 1) := by decide +kernel
theorem d2_110 : decode method_2_code 110 = .ok (.iload_n 0, 1) := by decide +kernel
theorem d2_111 : decode method_2_code 111 = .ok (.sipush 8206, 3) := by decide +kernel
theorem d2_114 : decode method_2_code 114 = .ok (.if_icmp .lt 12, 3) := by decide +kernel
theorem d2_117 : decode method_2_code 117 = .ok (.iload_n 0, 1) := by decide +kernel
theorem d2_118 : decode method_2_code 118 = .ok (.sipush 8303, 3) := by decide +kernel
theorem d2_121 : decode method_2_code 121 = .ok (.if_icmp .gt 5, 3) := by decide +kernel
theorem d2_124 : decode method_2_code 124 = .ok (.iconst 0, 1) := by decide +kernel
theorem d2_125 : decode method_2_code 125 = .ok (.ireturn, 1) := by decide +kernel
theorem d2_126 : decode method_2_code 126 = .ok (.iload_n 0, 1) := by decide +kernel
theorem d2_127 : decode method_2_code 127 = .ok (.sipush 8592, 3) := by decide +kernel
theorem d2_130 : decode method_2_code 130 = .ok (.if_icmp .lt 12, 3) := by decide +kernel
theorem d2_133 : decode method_2_code 133 = .ok (.iload_n 0, 1) := by decide +kernel
theorem d2_134 : decode method_2_code 134 = .ok (.sipush 11263, 3) := by decide +kernel
theorem d2_137 : decode method_2_code 137 = .ok (.if_icmp .gt 5, 3) := by decide +kernel
theorem d2_140 : decode method_2_code 140 = .ok (.iconst 0, 1) := by decide +kernel
theorem d2_141 : decode method_2_code 141 = .ok (.ireturn, 1) := by decide +kernel
theorem d2_142 : decode method_2_code 142 = .ok (.iload_n 0, 1) := by decide +kernel
theorem d2_143 : decode method_2_code 143 = .ok (.sipush 12272, 3) := by decide +kernel
theorem d2_146 : decode method_2_code 146 = .ok (.if_icmp .lt 12, 3) := by decide +kernel
theorem d2_149 : decode method_2_code 149 = .ok (.iload_n 0, 1) := by decide +kernel
theorem d2_150 : decode method_2_code 150 = .ok (.sipush 12288, 3) := by decide +kernel
theorem d2_153 : decode method_2_code 153 = .ok (.if_icmp .gt 5, 3) := by decide +kernel
theorem d2_156 : decode method_2_code 156 = .ok (.iconst 0, 1) := by decide +kernel
theorem d2_157 : decode method_2_code 157 = .ok (.ireturn, 1) := by decide +kernel
theorem d2_158 : decode method_2_code 158 = .ok (.iload_n 0, 1) := by decide +kernel
theorem d2_159 : decode method_2_code 159 = .ok (.ldc 8, 2) := by decide +kernel
theorem d2_161 : decode method_2_code 161 = .ok (.if_icmp .lt 11, 3) := by decide +kernel
theorem d2_164 : decode method_2_code 164 = .ok (.iload_n 0, 1) := by decide +kernel
theorem d2_165 : decode method_2_code 165 = .ok (.ldc 9, 2) := by decide +kernel
theorem d2_167 : decode method_2_code 167 = .ok (.if_icmp .gt 5, 3) := by decide +kernel
theorem d2_170 : decode method_2_code 170 = .ok (.iconst 0, 1) := by decide +kernel
theorem d2_171 : decode method_2_code 171 = .ok (.ireturn, 1) := by decide +kernel
theorem d2_172 : decode method_2_code 172 = .ok (.iload_n 0, 1) := by decide +kernel
theorem d2_173 : decode method_2_code 173 = .ok (.ldc 10, 2) := by decide +kernel
theorem d2_175 : decode method_2_code 175 = .ok (.if_icmp .lt 11, 3) := by decide +kernel
theorem d2_178 : decode method_2_code 178 = .ok (.iload_n 0, 1) := by decide +kernel
theorem d2_179 : decode method_2_code 179 = .ok (.ldc 11, 2) := by decide +kernel
theorem d2_181 : decode method_2_code 181 = .ok (.if_icmp .gt 5, 3) := by decide +kernel
theorem d2_184 : decode method_2_code 184 = .ok (.iconst 0, 1) := by decide +kernel
theorem d2_185 : decode method_2_code 185 = .ok (.ireturn, 1) := by decide +kernel
theorem d2_186 : decode method_2_code 186 = .ok (.iload_n 0, 1) := by decide +kernel
theorem d2_187 : decode method_2_code 187 = .ok (.ldc 12, 2) := by decide +kernel
theorem d2_189 : decode method_2_code 189 = .ok (.if_icmp .lt 11, 3) := by decide +kernel
theorem d2_192 : decode method_2_code 192 = .ok (.iload_n 0, 1) := by decide +kernel
theorem d2_193 : decode method_2_code 193 = .ok (.ldc 13, 2) := by decide +kernel
theorem d2_195 : decode method_2_code 195 = .ok (.if_icmp .gt 5, 3) := by decide +kernel
theorem d2_198 : decode method_2_code 198 = .ok (.iconst 0, 1) := by decide +kernel
theorem d2_199 : decode method_2_code 199 = .ok (.ireturn, 1) := by decide +kernel
theorem d2_200 : decode method_2_code 200 = .ok (.iconst 1, 1) := by decide +kernel
theorem d2_201 : decode method_2_code 201 = .ok (.ireturn, 1) := by decide +kernel
theorem own_pn2 : plainName "com/example/hollow_tree/hollowtree/xml/XmlCharsIsNameStartCharPinLaw" = true := by first | (simp [plainName, overriddenIn]; done) | decide +kernel
theorem own_ef2 (m : MethodId) (x0 : Int32) : entryFrame m #[(.int x0)] 1 = mkF m 0 #[.val (.int x0)] [] := by first | (simp [entryFrame, mkF, argsToLocals, Value.category]; done) | rfl
def own_f2_200 (v0 : Int32) : Int32 := (1 : Int32)
def own_f2_186 (v0 : Int32) : Int32 := (if v0 < (65534 : Int32) then own_f2_200 v0 else (if (65535 : Int32) < v0 then own_f2_200 v0 else (0 : Int32)))
def own_f2_172 (v0 : Int32) : Int32 := (if v0 < (64976 : Int32) then own_f2_186 v0 else (if (65007 : Int32) < v0 then own_f2_186 v0 else (0 : Int32)))
def own_f2_158 (v0 : Int32) : Int32 := (if v0 < (55296 : Int32) then own_f2_172 v0 else (if (63743 : Int32) < v0 then own_f2_172 v0 else (0 : Int32)))
def own_f2_142 (v0 : Int32) : Int32 := (if v0 < (12272 : Int32) then own_f2_158 v0 else (if (12288 : Int32) < v0 then own_f2_158 v0 else (0 : Int32)))
def own_f2_126 (v0 : Int32) : Int32 := (if v0 < (8592 : Int32) then own_f2_142 v0 else (if (11263 : Int32) < v0 then own_f2_142 v0 else (0 : Int32)))
def own_f2_110 (v0 : Int32) : Int32 := (if v0 < (8206 : Int32) then own_f2_126 v0 else (if (8303 : Int32) < v0 then own_f2_126 v0 else (0 : Int32)))
def own_f2_85 (v0 : Int32) : Int32 := (if v0 = (894 : Int32) then (0 : Int32) else (if v0 < (8192 : Int32) then own_f2_110 v0 else (if (8203 : Int32) < v0 then own_f2_110 v0 else (0 : Int32))))
def own_f2_51 (v0 : Int32) : Int32 := (if v0 = (215 : Int32) then (0 : Int32) else (if v0 = (247 : Int32) then (0 : Int32) else (if v0 < (768 : Int32) then own_f2_85 v0 else (if (879 : Int32) < v0 then own_f2_85 v0 else (0 : Int32)))))
def own_f2_28 (v0 : Int32) : Int32 := (if v0 = (96 : Int32) then (0 : Int32) else (if v0 < (123 : Int32) then own_f2_51 v0 else (if (191 : Int32) < v0 then own_f2_51 v0 else (0 : Int32))))
def own_f2_12 (v0 : Int32) : Int32 := (0 : Int32)
def own_f2_0 (p1 : Int32) : Int32 := (if p1 < (65 : Int32) then own_f2_12 p1 else (if (983039 : Int32) < p1 then own_f2_12 p1 else (if p1 < (91 : Int32) then own_f2_28 p1 else (if (94 : Int32) < p1 then own_f2_28 p1 else (0 : Int32)))))
def Q2 (Z : State) (p1 : Int32) (h0 : Heap) (n0 : Nat) (v : Option Value) (h : Heap) (L : List Loc) : Prop := v = some (.int (own_f2_0 p1)) ∧ Fr n0 L ∧ h = h0
set_option maxRecDepth 65536 in
set_option maxHeartbeats 40000000 in
theorem rm2 (l : Launch) (Z : State) (a0 : Array Value) (hw : ∀ d ∈ tables_1, d.before a0 Z = true) (ws : List Jvm.Cond) (p1 : Int32) (h0 : Heap) (n0 : Nat) (Z0 : n0 ≤ h0.size)  :
    MetFree l (⟨"com/example/hollow_tree/hollowtree/xml/XmlCharsIsNameStartCharPinLaw", "ref", "(I)Z"⟩ : MethodName) (head1 (Jvm.Cond.code (⟨"com/example/hollow_tree/hollowtree/xml/XmlCharsIsNameStartCharPinLaw", "ref", "(I)Z"⟩ : MethodName) method_2_code 1 (some .boolean) :: ws) ({ frames := 0, cells := 0, slots := 0, locals := 0 } : Room)) (fun a U => a = #[(.int p1)] ∧ Z.Warmed39 U.vm ∧ U.heap = h0) (fun _ _ _ _ _ => True) (fun _ U o U' => ∃ v L, o = .returned v ∧ Q2 Z p1 h0 n0 v U'.heap L ∧ FrameEnd U o U' L ({ frames := 0, cells := 0, slots := 0, locals := 0 } : Room).cells ({ frames := 0, cells := 0, slots := 0, locals := 0 } : Room).slots) := by
  refine MetFree.of_bodySF (plainFor_of_name own_pn2) hisR ?_
  intro p e s m args below meth c s₁ Bd hml0 hP hK
  obtain ⟨rfl, hZ, hh⟩ := hP
  have hx := Bd.exec
  have hby := Bd.bytes
  have hml : c.maxLocals = 1 := hml0
  have hown : s.vm.findClass "com/example/hollow_tree/hollowtree/xml/XmlCharsIsNameStartCharPinLaw" = some m.cls := findClass_of_methodNamed Bd.named
  have hnm := (name_of_methodNamed Bd.named Bd.method).1
  have hlk := Bd.notSynchronized
  have X0 : Stand p l e ({ frames := 0, cells := 0, slots := 0, locals := 0 } : Room) s m #[(.int p1)] below meth c s₁ [] 0 0 := Stand.of_body Bd
  have e0 : s₁.heap = h0 := by rw [← hh, Bd.state]; rfl
  have N0 := Fr.nil n0
  show own_Goes p e below (fun o U' => ∃ v L, o = .returned v ∧ Q2 Z p1 h0 n0 v U'.heap L ∧ FrameEnd s o U' L ({ frames := 0, cells := 0, slots := 0, locals := 0 } : Room).cells ({ frames := 0, cells := 0, slots := 0, locals := 0 } : Room).slots) s₁ (entryFrame m #[(.int p1)] 1)
  refine own_st (T' := s₁) (g' := mkF m 0 #[.val (.int p1)] []) (fun _ k => castTop (own_ef2 m p1) k) ?_
  have b200 : ∀ (T : State) (Lc : List Loc) (X : Stand p l e ({ frames := 0, cells := 0, slots := 0, locals := 0 } : Room) s m #[(.int p1)] below meth c T Lc 0 0) (eT : T.heap = h0) (NL : Fr n0 Lc) (v0 : Int32), own_f2_0 p1 = own_f2_200 v0 → own_Goes p e below (fun o U' => ∃ v L, o = .returned v ∧ Q2 Z p1 h0 n0 v U'.heap L ∧ FrameEnd s o U' L ({ frames := 0, cells := 0, slots := 0, locals := 0 } : Room).cells ({ frames := 0, cells := 0, slots := 0, locals := 0 } : Room).slots) T (mkF m 200 #[.val (.int v0)] []) := by
    intro T Lc X eT NL v0 hf
    refine own_st (T' := T) (g' := (mkF m 201 #[.val (.int v0)] [(.int (1 : Int32))])) (fun _ k => XS.iconst (g := (mkF m 200 #[.val (.int v0)] [])) X.here hx rfl (hb hby d2_200) k) ?_
    exact own_end (Q := Q2 Z p1 h0 n0) (v := some (.int (nar .boolean (1 : Int32)))) X (fun h => by rw [Bd.returns] at h; cases h) (fun fs hr => retN X hx (t := .boolean) Bd.returns (by simp) (hb hby d2_201) hr) (⟨congrArg (fun z => some (Value.int z)) hf.symm, NL, eT⟩) (by decide) (by decide)
  have b186 : ∀ (T : State) (Lc : List Loc) (X : Stand p l e ({ frames := 0, cells := 0, slots := 0, locals := 0 } : Room) s m #[(.int p1)] below meth c T Lc 0 0) (eT : T.heap = h0) (NL : Fr n0 Lc) (v0 : Int32), own_f2_0 p1 = own_f2_186 v0 → own_Goes p e below (fun o U' => ∃ v L, o = .returned v ∧ Q2 Z p1 h0 n0 v U'.heap L ∧ FrameEnd s o U' L ({ frames := 0, cells := 0, slots := 0, locals := 0 } : Room).cells ({ frames := 0, cells := 0, slots := 0, locals := 0 } : Room).slots) T (mkF m 186 #[.val (.int v0)] []) := by
    intro T Lc X eT NL v0 hf
    refine own_st (T' := T) (g' := (mkF m 187 #[.val (.int v0)] [(.int v0)])) (fun _ k => Jvm.Free.XS.iloadN (g := (mkF m 186 #[.val (.int v0)] [])) X.here hx rfl (hb hby d2_186) rfl k) ?_
    refine own_st (T' := T) (g' := (mkF m 189 #[.val (.int v0)] [(.int (65534 : Int32)), (.int v0)])) (fun _ k => (X.ldcInt hx hown (mvT hZ (hw _ (List.mem_of_getElem? (i := 22) rfl))) (g := (mkF m 187 #[.val (.int v0)] [(.int v0)])) rfl (hb hby d2_187)) _ k) ?_
    by_cases hc189 : v0 < (65534 : Int32)
    · have hf := hf.trans (if_pos hc189)
      refine own_st (T' := T) (g' := (mkF m 200 #[.val (.int v0)] [])) (fun _ k => XS.icmpYes (g := (mkF m 189 #[.val (.int v0)] [(.int (65534 : Int32)), (.int v0)])) X.here hx rfl (pc0 := 189) (pc' := 200) rfl (hb hby d2_189) rfl (tlt hc189).1 (by decide) (by decide) k) ?_
      exact b200 T _ X eT NL  v0 hf
    · have hf := hf.trans (if_neg hc189)
      refine own_st (T' := T) (g' := (mkF m 192 #[.val (.int v0)] [])) (fun _ k => XS.icmpNo (g := (mkF m 189 #[.val (.int v0)] [(.int (65534 : Int32)), (.int v0)])) X.here hx rfl (hb hby d2_189) rfl (flt hc189).1 k) ?_
      refine own_st (T' := T) (g' := (mkF m 193 #[.val (.int v0)] [(.int v0)])) (fun _ k => Jvm.Free.XS.iloadN (g := (mkF m 192 #[.val (.int v0)] [])) X.here hx rfl (hb hby d2_192) rfl k) ?_
      refine own_st (T' := T) (g' := (mkF m 195 #[.val (.int v0)] [(.int (65535 : Int32)), (.int v0)])) (fun _ k => (X.ldcInt hx hown (mvT hZ (hw _ (List.mem_of_getElem? (i := 29) rfl))) (g := (mkF m 193 #[.val (.int v0)] [(.int v0)])) rfl (hb hby d2_193)) _ k) ?_
      by_cases hc195 : (65535 : Int32) < v0
      · have hf := hf.trans (if_pos hc195)
        refine own_st (T' := T) (g' := (mkF m 200 #[.val (.int v0)] [])) (fun _ k => XS.icmpYes (g := (mkF m 195 #[.val (.int v0)] [(.int (65535 : Int32)), (.int v0)])) X.here hx rfl (pc0 := 195) (pc' := 200) rfl (hb hby d2_195) rfl (tlt hc195).2.2.1 (by decide) (by decide) k) ?_
        exact b200 T _ X eT NL  v0 hf
      · have hf := hf.trans (if_neg hc195)
        refine own_st (T' := T) (g' := (mkF m 198 #[.val (.int v0)] [])) (fun _ k => XS.icmpNo (g := (mkF m 195 #[.val (.int v0)] [(.int (65535 : Int32)), (.int v0)])) X.here hx rfl (hb hby d2_195) rfl (flt hc195).2.2.1 k) ?_
        refine own_st (T' := T) (g' := (mkF m 199 #[.val (.int v0)] [(.int (0 : Int32))])) (fun _ k => XS.iconst (g := (mkF m 198 #[.val (.int v0)] [])) X.here hx rfl (hb hby d2_198) k) ?_
        exact own_end (Q := Q2 Z p1 h0 n0) (v := some (.int (nar .boolean (0 : Int32)))) X (fun h => by rw [Bd.returns] at h; cases h) (fun fs hr => retN X hx (t := .boolean) Bd.returns (by simp) (hb hby d2_199) hr) (⟨congrArg (fun z => some (Value.int z)) hf.symm, NL, eT⟩) (by decide) (by decide)
  have b172 : ∀ (T : State) (Lc : List Loc) (X : Stand p l e ({ frames := 0, cells := 0, slots := 0, locals := 0 } : Room) s m #[(.int p1)] below meth c T Lc 0 0) (eT : T.heap = h0) (NL : Fr n0 Lc) (v0 : Int32), own_f2_0 p1 = own_f2_172 v0 → own_Goes p e below (fun o U' => ∃ v L, o = .returned v ∧ Q2 Z p1 h0 n0 v U'.heap L ∧ FrameEnd s o U' L ({ frames := 0, cells := 0, slots := 0, locals := 0 } : Room).cells ({ frames := 0, cells := 0, slots := 0, locals := 0 } : Room).slots) T (mkF m 172 #[.val (.int v0)] []) := by
    intro T Lc X eT NL v0 hf
    refine own_st (T' := T) (g' := (mkF m 173 #[.val (.int v0)] [(.int v0)])) (fun _ k => Jvm.Free.XS.iloadN (g := (mkF m 172 #[.val (.int v0)] [])) X.here hx rfl (hb hby d2_172) rfl k) ?_
    refine own_st (T' := T) (g' := (mkF m 175 #[.val (.int v0)] [(.int (64976 : Int32)), (.int v0)])) (fun _ k => (X.ldcInt hx hown (mvT hZ (hw _ (List.mem_of_getElem? (i := 21) rfl))) (g := (mkF m 173 #[.val (.int v0)] [(.int v0)])) rfl (hb hby d2_173)) _ k) ?_
    by_cases hc175 : v0 < (64976 : Int32)
    · have hf := hf.trans (if_pos hc175)
      refine own_st (T' := T) (g' := (mkF m 186 #[.val (.int v0)] [])) (fun _ k => XS.icmpYes (g := (mkF m 175 #[.val (.int v0)] [(.int (64976 : Int32)), (.int v0)])) X.here hx rfl (pc0 := 175) (pc' := 186) rfl (hb hby d2_175) rfl (tlt hc175).1 (by decide) (by decide) k) ?_
      exact b186 T _ X eT NL  v0 hf
    · have hf := hf.trans (if_neg hc175)
      refine own_st (T' := T) (g' := (mkF m 178 #[.val (.int v0)] [])) (fun _ k => XS.icmpNo (g := (mkF m 175 #[.val (.int v0)] [(.int (64976 : Int32)), (.int v0)])) X.here hx rfl (hb hby d2_175) rfl (flt hc175).1 k) ?_
      refine own_st (T' := T) (g' := (mkF m 179 #[.val (.int v0)] [(.int v0)])) (fun _ k => Jvm.Free.XS.iloadN (g := (mkF m 178 #[.val (.int v0)] [])) X.here hx rfl (hb hby d2_178) rfl k) ?_
      refine own_st (T' := T) (g' := (mkF m 181 #[.val (.int v0)] [(.int (65007 : Int32)), (.int v0)])) (fun _ k => (X.ldcInt hx hown (mvT hZ (hw _ (List.mem_of_getElem? (i := 28) rfl))) (g := (mkF m 179 #[.val (.int v0)] [(.int v0)])) rfl (hb hby d2_179)) _ k) ?_
      by_cases hc181 : (65007 : Int32) < v0
      · have hf := hf.trans (if_pos hc181)
        refine own_st (T' := T) (g' := (mkF m 186 #[.val (.int v0)] [])) (fun _ k => XS.icmpYes (g := (mkF m 181 #[.val (.int v0)] [(.int (65007 : Int32)), (.int v0)])) X.here hx rfl (pc0 := 181) (pc' := 186) rfl (hb hby d2_181) rfl (tlt hc181).2.2.1 (by decide) (by decide) k) ?_
        exact b186 T _ X eT NL  v0 hf
      · have hf := hf.trans (if_neg hc181)
        refine own_st (T' := T) (g' := (mkF m 184 #[.val (.int v0)] [])) (fun _ k => XS.icmpNo (g := (mkF m 181 #[.val (.int v0)] [(.int (65007 : Int32)), (.int v0)])) X.here hx rfl (hb hby d2_181) rfl (flt hc181).2.2.1 k) ?_
        refine own_st (T' := T) (g' := (mkF m 185 #[.val (.int v0)] [(.int (0 : Int32))])) (fun _ k => XS.iconst (g := (mkF m 184 #[.val (.int v0)] [])) X.here hx rfl (hb hby d2_184) k) ?_
        exact own_end (Q := Q2 Z p1 h0 n0) (v := some (.int (nar .boolean (0 : Int32)))) X (fun h => by rw [Bd.returns] at h; cases h) (fun fs hr => retN X hx (t := .boolean) Bd.returns (by simp) (hb hby d2_185) hr) (⟨congrArg (fun z => some (Value.int z)) hf.symm, NL, eT⟩) (by decide) (by decide)
  have b158 : ∀ (T : State) (Lc : List Loc) (X : Stand p l e ({ frames := 0, cells := 0, slots := 0, locals := 0 } : Room) s m #[(.int p1)] below meth c T Lc 0 0) (eT : T.heap = h0) (NL : Fr n0 Lc) (v0 : Int32), own_f2_0 p1 = own_f2_158 v0 → own_Goes p e below (fun o U' => ∃ v L, o = .returned v ∧ Q2 Z p1 h0 n0 v U'.heap L ∧ FrameEnd s o U' L ({ frames := 0, cells := 0, slots := 0, locals := 0 } : Room).cells ({ frames := 0, cells := 0, slots := 0, locals := 0 } : Room).slots) T (mkF m 158 #[.val (.int v0)] []) := by
    intro T Lc X eT NL v0 hf
    refine own_st (T' := T) (g' := (mkF m 159 #[.val (.int v0)] [(.int v0)])) (fun _ k => Jvm.Free.XS.iloadN (g := (mkF m 158 #[.val (.int v0)] [])) X.here hx rfl (hb hby d2_158) rfl k) ?_
    refine own_st (T' := T) (g' := (mkF m 161 #[.val (.int v0)] [(.int (55296 : Int32)), (.int v0)])) (fun _ k => (X.ldcInt hx hown (mvT hZ (hw _ (List.mem_of_getElem? (i := 20) rfl))) (g := (mkF m 159 #[.val (.int v0)] [(.int v0)])) rfl (hb hby d2_159)) _ k) ?_
    by_cases hc161 : v0 < (55296 : Int32)
    · have hf := hf.trans (if_pos hc161)
      refine own_st (T' := T) (g' := (mkF m 172 #[.val (.int v0)] [])) (fun _ k => XS.icmpYes (g := (mkF m 161 #[.val (.int v0)] [(.int (55296 : Int32)), (.int v0)])) X.here hx rfl (pc0 := 161) (pc' := 172) rfl (hb hby d2_161) rfl (tlt hc161).1 (by decide) (by decide) k) ?_
      exact b172 T _ X eT NL  v0 hf
    · have hf := hf.trans (if_neg hc161)
      refine own_st (T' := T) (g' := (mkF m 164 #[.val (.int v0)] [])) (fun _ k => XS.icmpNo (g := (mkF m 161 #[.val (.int v0)] [(.int (55296 : Int32)), (.int v0)])) X.here hx rfl (hb hby d2_161) rfl (flt hc161).1 k) ?_
      refine own_st (T' := T) (g' := (mkF m 165 #[.val (.int v0)] [(.int v0)])) (fun _ k => Jvm.Free.XS.iloadN (g := (mkF m 164 #[.val (.int v0)] [])) X.here hx rfl (hb hby d2_164) rfl k) ?_
      refine own_st (T' := T) (g' := (mkF m 167 #[.val (.int v0)] [(.int (63743 : Int32)), (.int v0)])) (fun _ k => (X.ldcInt hx hown (mvT hZ (hw _ (List.mem_of_getElem? (i := 27) rfl))) (g := (mkF m 165 #[.val (.int v0)] [(.int v0)])) rfl (hb hby d2_165)) _ k) ?_
      by_cases hc167 : (63743 : Int32) < v0
      · have hf := hf.trans (if_pos hc167)
        refine own_st (T' := T) (g' := (mkF m 172 #[.val (.int v0)] [])) (fun _ k => XS.icmpYes (g := (mkF m 167 #[.val (.int v0)] [(.int (63743 : Int32)), (.int v0)])) X.here hx rfl (pc0 := 167) (pc' := 172) rfl (hb hby d2_167) rfl (tlt hc167).2.2.1 (by decide) (by decide) k) ?_
        exact b172 T _ X eT NL  v0 hf
      · have hf := hf.trans (if_neg hc167)
        refine own_st (T' := T) (g' := (mkF m 170 #[.val (.int v0)] [])) (fun _ k => XS.icmpNo (g := (mkF m 167 #[.val (.int v0)] [(.int (63743 : Int32)), (.int v0)])) X.here hx rfl (hb hby d2_167) rfl (flt hc167).2.2.1 k) ?_
        refine own_st (T' := T) (g' := (mkF m 171 #[.val (.int v0)] [(.int (0 : Int32))])) (fun _ k => XS.iconst (g := (mkF m 170 #[.val (.int v0)] [])) X.here hx rfl (hb hby d2_170) k) ?_
        exact own_end (Q := Q2 Z p1 h0 n0) (v := some (.int (nar .boolean (0 : Int32)))) X (fun h => by rw [Bd.returns] at h; cases h) (fun fs hr => retN X hx (t := .boolean) Bd.returns (by simp) (hb hby d2_171) hr) (⟨congrArg (fun z => some (Value.int z)) hf.symm, NL, eT⟩) (by decide) (by decide)
  have b142 : ∀ (T : State) (Lc : List Loc) (X : Stand p l e ({ frames := 0, cells := 0, slots := 0, locals := 0 } : Room) s m #[(.int p1)] below meth c T Lc 0 0) (eT : T.heap = h0) (NL : Fr n0 Lc) (v0 : Int32), own_f2_0 p1 = own_f2_142 v0 → own_Goes p e below (fun o U' => ∃ v L, o = .returned v ∧ Q2 Z p1 h0 n0 v U'.heap L ∧ FrameEnd s o U' L ({ frames := 0, cells := 0, slots := 0, locals := 0 } : Room).cells ({ frames := 0, cells := 0, slots := 0, locals := 0 } : Room).slots) T (mkF m 142 #[.val (.int v0)] []) := by
    intro T Lc X eT NL v0 hf
    refine own_st (T' := T) (g' := (mkF m 143 #[.val (.int v0)] [(.int v0)])) (fun _ k => Jvm.Free.XS.iloadN (g := (mkF m 142 #[.val (.int v0)] [])) X.here hx rfl (hb hby d2_142) rfl k) ?_
    refine own_st (T' := T) (g' := (mkF m 146 #[.val (.int v0)] [(.int (12272 : Int32)), (.int v0)])) (fun _ k => XS.sipush (g := (mkF m 143 #[.val (.int v0)] [(.int v0)])) X.here hx rfl (hb hby d2_143) k) ?_
    by_cases hc146 : v0 < (12272 : Int32)
    · have hf := hf.trans (if_pos hc146)
      refine own_st (T' := T) (g' := (mkF m 158 #[.val (.int v0)] [])) (fun _ k => XS.icmpYes (g := (mkF m 146 #[.val (.int v0)] [(.int (12272 : Int32)), (.int v0)])) X.here hx rfl (pc0 := 146) (pc' := 158) rfl (hb hby d2_146) rfl (tlt hc146).1 (by decide) (by decide) k) ?_
      exact b158 T _ X eT NL  v0 hf
    · have hf := hf.trans (if_neg hc146)
      refine own_st (T' := T) (g' := (mkF m 149 #[.val (.int v0)] [])) (fun _ k => XS.icmpNo (g := (mkF m 146 #[.val (.int v0)] [(.int (12272 : Int32)), (.int v0)])) X.here hx rfl (hb hby d2_146) rfl (flt hc146).1 k) ?_
      refine own_st (T' := T) (g' := (mkF m 150 #[.val (.int v0)] [(.int v0)])) (fun _ k => Jvm.Free.XS.iloadN (g := (mkF m 149 #[.val (.int v0)] [])) X.here hx rfl (hb hby d2_149) rfl k) ?_
      refine own_st (T' := T) (g' := (mkF m 153 #[.val (.int v0)] [(.int (12288 : Int32)), (.int v0)])) (fun _ k => XS.sipush (g := (mkF m 150 #[.val (.int v0)] [(.int v0)])) X.here hx rfl (hb hby d2_150) k) ?_
      by_cases hc153 : (12288 : Int32) < v0
      · have hf := hf.trans (if_pos hc153)
        refine own_st (T' := T) (g' := (mkF m 158 #[.val (.int v0)] [])) (fun _ k => XS.icmpYes (g := (mkF m 153 #[.val (.int v0)] [(.int (12288 : Int32)), (.int v0)])) X.here hx rfl (pc0 := 153) (pc' := 158) rfl (hb hby d2_153) rfl (tlt hc153).2.2.1 (by decide) (by decide) k) ?_
        exact b158 T _ X eT NL  v0 hf
      · have hf := hf.trans (if_neg hc153)
        refine own_st (T' := T) (g' := (mkF m 156 #[.val (.int v0)] [])) (fun _ k => XS.icmpNo (g := (mkF m 153 #[.val (.int v0)] [(.int (12288 : Int32)), (.int v0)])) X.here hx rfl (hb hby d2_153) rfl (flt hc153).2.2.1 k) ?_
        refine own_st (T' := T) (g' := (mkF m 157 #[.val (.int v0)] [(.int (0 : Int32))])) (fun _ k => XS.iconst (g := (mkF m 156 #[.val (.int v0)] [])) X.here hx rfl (hb hby d2_156) k) ?_
        exact own_end (Q := Q2 Z p1 h0 n0) (v := some (.int (nar .boolean (0 : Int32)))) X (fun h => by rw [Bd.returns] at h; cases h) (fun fs hr => retN X hx (t := .boolean) Bd.returns (by simp) (hb hby d2_157) hr) (⟨congrArg (fun z => some (Value.int z)) hf.symm, NL, eT⟩) (by decide) (by decide)
  have b126 : ∀ (T : State) (Lc : List Loc) (X : Stand p l e ({ frames := 0, cells := 0, slots := 0, locals := 0 } : Room) s m #[(.int p1)] below meth c T Lc 0 0) (eT : T.heap = h0) (NL : Fr n0 Lc) (v0 : Int32), own_f2_0 p1 = own_f2_126 v0 → own_Goes p e below (fun o U' => ∃ v L, o = .returned v ∧ Q2 Z p1 h0 n0 v U'.heap L ∧ FrameEnd s o U' L ({ frames := 0, cells := 0, slots := 0, locals := 0 } : Room).cells ({ frames := 0, cells := 0, slots := 0, locals := 0 } : Room).slots) T (mkF m 126 #[.val (.int v0)] []) := by
    intro T Lc X eT NL v0 hf
    refine own_st (T' := T) (g' := (mkF m 127 #[.val (.int v0)] [(.int v0)])) (fun _ k => Jvm.Free.XS.iloadN (g := (mkF m 126 #[.val (.int v0)] [])) X.here hx rfl (hb hby d2_126) rfl k) ?_
    refine own_st (T' := T) (g' := (mkF m 130 #[.val (.int v0)] [(.int (8592 : Int32)), (.int v0)])) (fun _ k => XS.sipush (g := (mkF m 127 #[.val (.int v0)] [(.int v0)])) X.here hx rfl (hb hby d2_127) k) ?_
    by_cases hc130 : v0 < (8592 : Int32)
    · have hf := hf.trans (if_pos hc130)
      refine own_st (T' := T) (g' := (mkF m 142 #[.val (.int v0)] [])) (fun _ k => XS.icmpYes (g := (mkF m 130 #[.val (.int v0)] [(.int (8592 : Int32)), (.int v0)])) X.here hx rfl (pc0 := 130) (pc' := 142) rfl (hb hby d2_130) rfl (tlt hc130).1 (by decide) (by decide) k) ?_
      exact b142 T _ X eT NL  v0 hf
    · have hf := hf.trans (if_neg hc130)
      refine own_st (T' := T) (g' := (mkF m 133 #[.val (.int v0)] [])) (fun _ k => XS.icmpNo (g := (mkF m 130 #[.val (.int v0)] [(.int (8592 : Int32)), (.int v0)])) X.here hx rfl (hb hby d2_130) rfl (flt hc130).1 k) ?_
      refine own_st (T' := T) (g' := (mkF m 134 #[.val (.int v0)] [(.int v0)])) (fun _ k => Jvm.Free.XS.iloadN (g := (mkF m 133 #[.val (.int v0)] [])) X.here hx rfl (hb hby d2_133) rfl k) ?_
      refine own_st (T' := T) (g' := (mkF m 137 #[.val (.int v0)] [(.int (11263 : Int32)), (.int v0)])) (fun _ k => XS.sipush (g := (mkF m 134 #[.val (.int v0)] [(.int v0)])) X.here hx rfl (hb hby d2_134) k) ?_
      by_cases hc137 : (11263 : Int32) < v0
      · have hf := hf.trans (if_pos hc137)
        refine own_st (T' := T) (g' := (mkF m 142 #[.val (.int v0)] [])) (fun _ k => XS.icmpYes (g := (mkF m 137 #[.val (.int v0)] [(.int (11263 : Int32)), (.int v0)])) X.here hx rfl (pc0 := 137) (pc' := 142) rfl (hb hby d2_137) rfl (tlt hc137).2.2.1 (by decide) (by decide) k) ?_
        exact b142 T _ X eT NL  v0 hf
      · have hf := hf.trans (if_neg hc137)
        refine own_st (T' := T) (g' := (mkF m 140 #[.val (.int v0)] [])) (fun _ k => XS.icmpNo (g := (mkF m 137 #[.val (.int v0)] [(.int (11263 : Int32)), (.int v0)])) X.here hx rfl (hb hby d2_137) rfl (flt hc137).2.2.1 k) ?_
        refine own_st (T' := T) (g' := (mkF m 141 #[.val (.int v0)] [(.int (0 : Int32))])) (fun _ k => XS.iconst (g := (mkF m 140 #[.val (.int v0)] [])) X.here hx rfl (hb hby d2_140) k) ?_
        exact own_end (Q := Q2 Z p1 h0 n0) (v := some (.int (nar .boolean (0 : Int32)))) X (fun h => by rw [Bd.returns] at h; cases h) (fun fs hr => retN X hx (t := .boolean) Bd.returns (by simp) (hb hby d2_141) hr) (⟨congrArg (fun z => some (Value.int z)) hf.symm, NL, eT⟩) (by decide) (by decide)
  have b110 : ∀ (T : State) (Lc : List Loc) (X : Stand p l e ({ frames := 0, cells := 0, slots := 0, locals := 0 } : Room) s m #[(.int p1)] below meth c T Lc 0 0) (eT : T.heap = h0) (NL : Fr n0 Lc) (v0 : Int32), own_f2_0 p1 = own_f2_110 v0 → own_Goes p e below (fun o U' => ∃ v L, o = .returned v ∧ Q2 Z p1 h0 n0 v U'.heap L ∧ FrameEnd s o U' L ({ frames := 0, cells := 0, slots := 0, locals := 0 } : Room).cells ({ frames := 0, cells := 0, slots := 0, locals := 0 } : Room).slots) T (mkF m 110 #[.val (.int v0)] []) := by
    intro T Lc X eT NL v0 hf
    refine own_st (T' := T) (g' := (mkF m 111 #[.val (.int v0)] [(.int v0)])) (fun _ k => Jvm.Free.XS.iloadN (g := (mkF m 110 #[.val (.int v0)] [])) X.here hx rfl (hb hby d2_110) rfl k) ?_
    refine own_st (T' := T) (g' := (mkF m 114 #[.val (.int v0)] [(.int (8206 : Int32)), (.int v0)])) (fun _ k => XS.sipush (g := (mkF m 111 #[.val (.int v0)] [(.int v0)])) X.here hx rfl (hb hby d2_111) k) ?_
    by_cases hc114 : v0 < (8206 : Int32)
    · have hf := hf.trans (if_pos hc114)
      refine own_st (T' := T) (g' := (mkF m 126 #[.val (.int v0)] [])) (fun _ k => XS.icmpYes (g := (mkF m 114 #[.val (.int v0)] [(.int (8206 : Int32)), (.int v0)])) X.here hx rfl (pc0 := 114) (pc' := 126) rfl (hb hby d2_114) rfl (tlt hc114).1 (by decide) (by decide) k) ?_
      exact b126 T _ X eT NL  v0 hf
    · have hf := hf.trans (if_neg hc114)
      refine own_st (T' := T) (g' := (mkF m 117 #[.val (.int v0)] [])) (fun _ k => XS.icmpNo (g := (mkF m 114 #[.val (.int v0)] [(.int (8206 : Int32)), (.int v0)])) X.here hx rfl (hb hby d2_114) rfl (flt hc114).1 k) ?_
      refine own_st (T' := T) (g' := (mkF m 118 #[.val (.int v0)] [(.int v0)])) (fun _ k => Jvm.Free.XS.iloadN (g := (mkF m 117 #[.val (.int v0)] [])) X.here hx rfl (hb hby d2_117) rfl k) ?_
      refine own_st (T' := T) (g' := (mkF m 121 #[.val (.int v0)] [(.int (8303 : Int32)), (.int v0)])) (fun _ k => XS.sipush (g := (mkF m 118 #[.val (.int v0)] [(.int v0)])) X.here hx rfl (hb hby d2_118) k) ?_
      by_cases hc121 : (8303 : Int32) < v0
      · have hf := hf.trans (if_pos hc121)
        refine own_st (T' := T) (g' := (mkF m 126 #[.val (.int v0)] [])) (fun _ k => XS.icmpYes (g := (mkF m 121 #[.val (.int v0)] [(.int (8303 : Int32)), (.int v0)])) X.here hx rfl (pc0 := 121) (pc' := 126) rfl (hb hby d2_121) rfl (tlt hc121).2.2.1 (by decide) (by decide) k) ?_
        exact b126 T _ X eT NL  v0 hf
      · have hf := hf.trans (if_neg hc121)
        refine own_st (T' := T) (g' := (mkF m 124 #[.val (.int v0)] [])) (fun _ k => XS.icmpNo (g := (mkF m 121 #[.val (.int v0)] [(.int (8303 : Int32)), (.int v0)])) X.here hx rfl (hb hby d2_121) rfl (flt hc121).2.2.1 k) ?_
        refine own_st (T' := T) (g' := (mkF m 125 #[.val (.int v0)] [(.int (0 : Int32))])) (fun _ k => XS.iconst (g := (mkF m 124 #[.val (.int v0)] [])) X.here hx rfl (hb hby d2_124) k) ?_
        exact own_end (Q := Q2 Z p1 h0 n0) (v := some (.int (nar .boolean (0 : Int32)))) X (fun h => by rw [Bd.returns] at h; cases h) (fun fs hr => retN X hx (t := .boolean) Bd.returns (by simp) (hb hby d2_125) hr) (⟨congrArg (fun z => some (Value.int z)) hf.symm, NL, eT⟩) (by decide) (by decide)
  have b85 : ∀ (T : State) (Lc : List Loc) (X : Stand p l e ({ frames := 0, cells := 0, slots := 0, locals := 0 } : Room) s m #[(.int p1)] below meth c T Lc 0 0) (eT : T.heap = h0) (NL : Fr n0 Lc) (v0 : Int32), own_f2_0 p1 = own_f2_85 v0 → own_Goes p e below (fun o U' => ∃ v L, o = .returned v ∧ Q2 Z p1 h0 n0 v U'.heap L ∧ FrameEnd s o U' L ({ frames := 0, cells := 0, slots := 0, locals := 0 } : Room).cells ({ frames := 0, cells := 0, slots := 0, locals := 0 } : Room).slots) T (mkF m 85 #[.val (.int v0)] []) := by
    intro T Lc X eT NL v0 hf
    refine own_st (T' := T) (g' := (mkF m 86 #[.val (.int v0)] [(.int v0)])) (fun _ k => Jvm.Free.XS.iloadN (g := (mkF m 85 #[.val (.int v0)] [])) X.here hx rfl (hb hby d2_85) rfl k) ?_
    refine own_st (T' := T) (g' := (mkF m 89 #[.val (.int v0)] [(.int (894 : Int32)), (.int v0)])) (fun _ k => XS.sipush (g := (mkF m 86 #[.val (.int v0)] [(.int v0)])) X.here hx rfl (hb hby d2_86) k) ?_
    by_cases hc89 : v0 = (894 : Int32)
    · have hf := hf.trans (if_pos hc89)
      refine own_st (T' := T) (g' := (mkF m 92 #[.val (.int v0)] [])) (fun _ k => XS.icmpNo (g := (mkF m 89 #[.val (.int v0)] [(.int (894 : Int32)), (.int v0)])) X.here hx rfl (hb hby d2_89) rfl (teq hc89).2 k) ?_
      refine own_st (T' := T) (g' := (mkF m 93 #[.val (.int v0)] [(.int (0 : Int32))])) (fun _ k => XS.iconst (g := (mkF m 92 #[.val (.int v0)] [])) X.here hx rfl (hb hby d2_92) k) ?_
      exact own_end (Q := Q2 Z p1 h0 n0) (v := some (.int (nar .boolean (0 : Int32)))) X (fun h => by rw [Bd.returns] at h; cases h) (fun fs hr => retN X hx (t := .boolean) Bd.returns (by simp) (hb hby d2_93) hr) (⟨congrArg (fun z => some (Value.int z)) hf.symm, NL, eT⟩) (by decide) (by decide)
    · have hf := hf.trans (if_neg hc89)
      refine own_st (T' := T) (g' := (mkF m 94 #[.val (.int v0)] [])) (fun _ k => XS.icmpYes (g := (mkF m 89 #[.val (.int v0)] [(.int (894 : Int32)), (.int v0)])) X.here hx rfl (pc0 := 89) (pc' := 94) rfl (hb hby d2_89) rfl (feq hc89).2 (by decide) (by decide) k) ?_
      refine own_st (T' := T) (g' := (mkF m 95 #[.val (.int v0)] [(.int v0)])) (fun _ k => Jvm.Free.XS.iloadN (g := (mkF m 94 #[.val (.int v0)] [])) X.here hx rfl (hb hby d2_94) rfl k) ?_
      refine own_st (T' := T) (g' := (mkF m 98 #[.val (.int v0)] [(.int (8192 : Int32)), (.int v0)])) (fun _ k => XS.sipush (g := (mkF m 95 #[.val (.int v0)] [(.int v0)])) X.here hx rfl (hb hby d2_95) k) ?_
      by_cases hc98 : v0 < (8192 : Int32)
      · have hf := hf.trans (if_pos hc98)
        refine own_st (T' := T) (g' := (mkF m 110 #[.val (.int v0)] [])) (fun _ k => XS.icmpYes (g := (mkF m 98 #[.val (.int v0)] [(.int (8192 : Int32)), (.int v0)])) X.here hx rfl (pc0 := 98) (pc' := 110) rfl (hb hby d2_98) rfl (tlt hc98).1 (by decide) (by decide) k) ?_
        exact b110 T _ X eT NL  v0 hf
      · have hf := hf.trans (if_neg hc98)
        refine own_st (T' := T) (g' := (mkF m 101 #[.val (.int v0)] [])) (fun _ k => XS.icmpNo (g := (mkF m 98 #[.val (.int v0)] [(.int (8192 : Int32)), (.int v0)])) X.here hx rfl (hb hby d2_98) rfl (flt hc98).1 k) ?_
        refine own_st (T' := T) (g' := (mkF m 102 #[.val (.int v0)] [(.int v0)])) (fun _ k => Jvm.Free.XS.iloadN (g := (mkF m 101 #[.val (.int v0)] [])) X.here hx rfl (hb hby d2_101) rfl k) ?_
        refine own_st (T' := T) (g' := (mkF m 105 #[.val (.int v0)] [(.int (8203 : Int32)), (.int v0)])) (fun _ k => XS.sipush (g := (mkF m 102 #[.val (.int v0)] [(.int v0)])) X.here hx rfl (hb hby d2_102) k) ?_
        by_cases hc105 : (8203 : Int32) < v0
        · have hf := hf.trans (if_pos hc105)
          refine own_st (T' := T) (g' := (mkF m 110 #[.val (.int v0)] [])) (fun _ k => XS.icmpYes (g := (mkF m 105 #[.val (.int v0)] [(.int (8203 : Int32)), (.int v0)])) X.here hx rfl (pc0 := 105) (pc' := 110) rfl (hb hby d2_105) rfl (tlt hc105).2.2.1 (by decide) (by decide) k) ?_
          exact b110 T _ X eT NL  v0 hf
        · have hf := hf.trans (if_neg hc105)
          refine own_st (T' := T) (g' := (mkF m 108 #[.val (.int v0)] [])) (fun _ k => XS.icmpNo (g := (mkF m 105 #[.val (.int v0)] [(.int (8203 : Int32)), (.int v0)])) X.here hx rfl (hb hby d2_105) rfl (flt hc105).2.2.1 k) ?_
          refine own_st (T' := T) (g' := (mkF m 109 #[.val (.int v0)] [(.int (0 : Int32))])) (fun _ k => XS.iconst (g := (mkF m 108 #[.val (.int v0)] [])) X.here hx rfl (hb hby d2_108) k) ?_
          exact own_end (Q := Q2 Z p1 h0 n0) (v := some (.int (nar .boolean (0 : Int32)))) X (fun h => by rw [Bd.returns] at h; cases h) (fun fs hr => retN X hx (t := .boolean) Bd.returns (by simp) (hb hby d2_109) hr) (⟨congrArg (fun z => some (Value.int z)) hf.symm, NL, eT⟩) (by decide) (by decide)
  have b51 : ∀ (T : State) (Lc : List Loc) (X : Stand p l e ({ frames := 0, cells := 0, slots := 0, locals := 0 } : Room) s m #[(.int p1)] below meth c T Lc 0 0) (eT : T.heap = h0) (NL : Fr n0 Lc) (v0 : Int32), own_f2_0 p1 = own_f2_51 v0 → own_Goes p e below (fun o U' => ∃ v L, o = .returned v ∧ Q2 Z p1 h0 n0 v U'.heap L ∧ FrameEnd s o U' L ({ frames := 0, cells := 0, slots := 0, locals := 0 } : Room).cells ({ frames := 0, cells := 0, slots := 0, locals := 0 } : Room).slots) T (mkF m 51 #[.val (.int v0)] []) := by
    intro T Lc X eT NL v0 hf
    refine own_st (T' := T) (g' := (mkF m 52 #[.val (.int v0)] [(.int v0)])) (fun _ k => Jvm.Free.XS.iloadN (g := (mkF m 51 #[.val (.int v0)] [])) X.here hx rfl (hb hby d2_51) rfl k) ?_
    refine own_st (T' := T) (g' := (mkF m 55 #[.val (.int v0)] [(.int (215 : Int32)), (.int v0)])) (fun _ k => XS.sipush (g := (mkF m 52 #[.val (.int v0)] [(.int v0)])) X.here hx rfl (hb hby d2_52) k) ?_
    by_cases hc55 : v0 = (215 : Int32)
    · have hf := hf.trans (if_pos hc55)
      refine own_st (T' := T) (g' := (mkF m 58 #[.val (.int v0)] [])) (fun _ k => XS.icmpNo (g := (mkF m 55 #[.val (.int v0)] [(.int (215 : Int32)), (.int v0)])) X.here hx rfl (hb hby d2_55) rfl (teq hc55).2 k) ?_
      refine own_st (T' := T) (g' := (mkF m 59 #[.val (.int v0)] [(.int (0 : Int32))])) (fun _ k => XS.iconst (g := (mkF m 58 #[.val (.int v0)] [])) X.here hx rfl (hb hby d2_58) k) ?_
      exact own_end (Q := Q2 Z p1 h0 n0) (v := some (.int (nar .boolean (0 : Int32)))) X (fun h => by rw [Bd.returns] at h; cases h) (fun fs hr => retN X hx (t := .boolean) Bd.returns (by simp) (hb hby d2_59) hr) (⟨congrArg (fun z => some (Value.int z)) hf.symm, NL, eT⟩) (by decide) (by decide)
    · have hf := hf.trans (if_neg hc55)
      refine own_st (T' := T) (g' := (mkF m 60 #[.val (.int v0)] [])) (fun _ k => XS.icmpYes (g := (mkF m 55 #[.val (.int v0)] [(.int (215 : Int32)), (.int v0)])) X.here hx rfl (pc0 := 55) (pc' := 60) rfl (hb hby d2_55) rfl (feq hc55).2 (by decide) (by decide) k) ?_
      refine own_st (T' := T) (g' := (mkF m 61 #[.val (.int v0)] [(.int v0)])) (fun _ k => Jvm.Free.XS.iloadN (g := (mkF m 60 #[.val (.int v0)] [])) X.here hx rfl (hb hby d2_60) rfl k) ?_
      refine own_st (T' := T) (g' := (mkF m 64 #[.val (.int v0)] [(.int (247 : Int32)), (.int v0)])) (fun _ k => XS.sipush (g := (mkF m 61 #[.val (.int v0)] [(.int v0)])) X.here hx rfl (hb hby d2_61) k) ?_
      by_cases hc64 : v0 = (247 : Int32)
      · have hf := hf.trans (if_pos hc64)
        refine own_st (T' := T) (g' := (mkF m 67 #[.val (.int v0)] [])) (fun _ k => XS.icmpNo (g := (mkF m 64 #[.val (.int v0)] [(.int (247 : Int32)), (.int v0)])) X.here hx rfl (hb hby d2_64) rfl (teq hc64).2 k) ?_
        refine own_st (T' := T) (g' := (mkF m 68 #[.val (.int v0)] [(.int (0 : Int32))])) (fun _ k => XS.iconst (g := (mkF m 67 #[.val (.int v0)] [])) X.here hx rfl (hb hby d2_67) k) ?_
        exact own_end (Q := Q2 Z p1 h0 n0) (v := some (.int (nar .boolean (0 : Int32)))) X (fun h => by rw [Bd.returns] at h; cases h) (fun fs hr => retN X hx (t := .boolean) Bd.returns (by simp) (hb hby d2_68) hr) (⟨congrArg (fun z => some (Value.int z)) hf.symm, NL, eT⟩) (by decide) (by decide)
      · have hf := hf.trans (if_neg hc64)
        refine own_st (T' := T) (g' := (mkF m 69 #[.val (.int v0)] [])) (fun _ k => XS.icmpYes (g := (mkF m 64 #[.val (.int v0)] [(.int (247 : Int32)), (.int v0)])) X.here hx rfl (pc0 := 64) (pc' := 69) rfl (hb hby d2_64) rfl (feq hc64).2 (by decide) (by decide) k) ?_
        refine own_st (T' := T) (g' := (mkF m 70 #[.val (.int v0)] [(.int v0)])) (fun _ k => Jvm.Free.XS.iloadN (g := (mkF m 69 #[.val (.int v0)] [])) X.here hx rfl (hb hby d2_69) rfl k) ?_
        refine own_st (T' := T) (g' := (mkF m 73 #[.val (.int v0)] [(.int (768 : Int32)), (.int v0)])) (fun _ k => XS.sipush (g := (mkF m 70 #[.val (.int v0)] [(.int v0)])) X.here hx rfl (hb hby d2_70) k) ?_
        by_cases hc73 : v0 < (768 : Int32)
        · have hf := hf.trans (if_pos hc73)
          refine own_st (T' := T) (g' := (mkF m 85 #[.val (.int v0)] [])) (fun _ k => XS.icmpYes (g := (mkF m 73 #[.val (.int v0)] [(.int (768 : Int32)), (.int v0)])) X.here hx rfl (pc0 := 73) (pc' := 85) rfl (hb hby d2_73) rfl (tlt hc73).1 (by decide) (by decide) k) ?_
          exact b85 T _ X eT NL  v0 hf
        · have hf := hf.trans (if_neg hc73)
          refine own_st (T' := T) (g' := (mkF m 76 #[.val (.int v0)] [])) (fun _ k => XS.icmpNo (g := (mkF m 73 #[.val (.int v0)] [(.int (768 : Int32)), (.int v0)])) X.here hx rfl (hb hby d2_73) rfl (flt hc73).1 k) ?_
          refine own_st (T' := T) (g' := (mkF m 77 #[.val (.int v0)] [(.int v0)])) (fun _ k => Jvm.Free.XS.iloadN (g := (mkF m 76 #[.val (.int v0)] [])) X.here hx rfl (hb hby d2_76) rfl k) ?_
          refine own_st (T' := T) (g' := (mkF m 80 #[.val (.int v0)] [(.int (879 : Int32)), (.int v0)])) (fun _ k => XS.sipush (g := (mkF m 77 #[.val (.int v0)] [(.int v0)])) X.here hx rfl (hb hby d2_77) k) ?_
          by_cases hc80 : (879 : Int32) < v0
          · have hf := hf.trans (if_pos hc80)
            refine own_st (T' := T) (g' := (mkF m 85 #[.val (.int v0)] [])) (fun _ k => XS.icmpYes (g := (mkF m 80 #[.val (.int v0)] [(.int (879 : Int32)), (.int v0)])) X.here hx rfl (pc0 := 80) (pc' := 85) rfl (hb hby d2_80) rfl (tlt hc80).2.2.1 (by decide) (by decide) k) ?_
            exact b85 T _ X eT NL  v0 hf
          · have hf := hf.trans (if_neg hc80)
            refine own_st (T' := T) (g' := (mkF m 83 #[.val (.int v0)] [])) (fun _ k => XS.icmpNo (g := (mkF m 80 #[.val (.int v0)] [(.int (879 : Int32)), (.int v0)])) X.here hx rfl (hb hby d2_80) rfl (flt hc80).2.2.1 k) ?_
            refine own_st (T' := T) (g' := (mkF m 84 #[.val (.int v0)] [(.int (0 : Int32))])) (fun _ k => XS.iconst (g := (mkF m 83 #[.val (.int v0)] [])) X.here hx rfl (hb hby d2_83) k) ?_
            exact own_end (Q := Q2 Z p1 h0 n0) (v := some (.int (nar .boolean (0 : Int32)))) X (fun h => by rw [Bd.returns] at h; cases h) (fun fs hr => retN X hx (t := .boolean) Bd.returns (by simp) (hb hby d2_84) hr) (⟨congrArg (fun z => some (Value.int z)) hf.symm, NL, eT⟩) (by decide) (by decide)
  have b28 : ∀ (T : State) (Lc : List Loc) (X : Stand p l e ({ frames := 0, cells := 0, slots := 0, locals := 0 } : Room) s m #[(.int p1)] below meth c T Lc 0 0) (eT : T.heap = h0) (NL : Fr n0 Lc) (v0 : Int32), own_f2_0 p1 = own_f2_28 v0 → own_Goes p e below (fun o U' => ∃ v L, o = .returned v ∧ Q2 Z p1 h0 n0 v U'.heap L ∧ FrameEnd s o U' L ({ frames := 0, cells := 0, slots := 0, locals := 0 } : Room).cells ({ frames := 0, cells := 0, slots := 0, locals := 0 } : Room).slots) T (mkF m 28 #[.val (.int v0)] []) := by
    intro T Lc X eT NL v0 hf
    refine own_st (T' := T) (g' := (mkF m 29 #[.val (.int v0)] [(.int v0)])) (fun _ k => Jvm.Free.XS.iloadN (g := (mkF m 28 #[.val (.int v0)] [])) X.here hx rfl (hb hby d2_28) rfl k) ?_
    refine own_st (T' := T) (g' := (mkF m 31 #[.val (.int v0)] [(.int (96 : Int32)), (.int v0)])) (fun _ k => XS.bipush (g := (mkF m 29 #[.val (.int v0)] [(.int v0)])) X.here hx rfl (hb hby d2_29) k) ?_
    by_cases hc31 : v0 = (96 : Int32)
    · have hf := hf.trans (if_pos hc31)
      refine own_st (T' := T) (g' := (mkF m 34 #[.val (.int v0)] [])) (fun _ k => XS.icmpNo (g := (mkF m 31 #[.val (.int v0)] [(.int (96 : Int32)), (.int v0)])) X.here hx rfl (hb hby d2_31) rfl (teq hc31).2 k) ?_
      refine own_st (T' := T) (g' := (mkF m 35 #[.val (.int v0)] [(.int (0 : Int32))])) (fun _ k => XS.iconst (g := (mkF m 34 #[.val (.int v0)] [])) X.here hx rfl (hb hby d2_34) k) ?_
      exact own_end (Q := Q2 Z p1 h0 n0) (v := some (.int (nar .boolean (0 : Int32)))) X (fun h => by rw [Bd.returns] at h; cases h) (fun fs hr => retN X hx (t := .boolean) Bd.returns (by simp) (hb hby d2_35) hr) (⟨congrArg (fun z => some (Value.int z)) hf.symm, NL, eT⟩) (by decide) (by decide)
    · have hf := hf.trans (if_neg hc31)
      refine own_st (T' := T) (g' := (mkF m 36 #[.val (.int v0)] [])) (fun _ k => XS.icmpYes (g := (mkF m 31 #[.val (.int v0)] [(.int (96 : Int32)), (.int v0)])) X.here hx rfl (pc0 := 31) (pc' := 36) rfl (hb hby d2_31) rfl (feq hc31).2 (by decide) (by decide) k) ?_
      refine own_st (T' := T) (g' := (mkF m 37 #[.val (.int v0)] [(.int v0)])) (fun _ k => Jvm.Free.XS.iloadN (g := (mkF m 36 #[.val (.int v0)] [])) X.here hx rfl (hb hby d2_36) rfl k) ?_
      refine own_st (T' := T) (g' := (mkF m 39 #[.val (.int v0)] [(.int (123 : Int32)), (.int v0)])) (fun _ k => XS.bipush (g := (mkF m 37 #[.val (.int v0)] [(.int v0)])) X.here hx rfl (hb hby d2_37) k) ?_
      by_cases hc39 : v0 < (123 : Int32)
      · have hf := hf.trans (if_pos hc39)
        refine own_st (T' := T) (g' := (mkF m 51 #[.val (.int v0)] [])) (fun _ k => XS.icmpYes (g := (mkF m 39 #[.val (.int v0)] [(.int (123 : Int32)), (.int v0)])) X.here hx rfl (pc0 := 39) (pc' := 51) rfl (hb hby d2_39) rfl (tlt hc39).1 (by decide) (by decide) k) ?_
        exact b51 T _ X eT NL  v0 hf
      · have hf := hf.trans (if_neg hc39)
        refine own_st (T' := T) (g' := (mkF m 42 #[.val (.int v0)] [])) (fun _ k => XS.icmpNo (g := (mkF m 39 #[.val (.int v0)] [(.int (123 : Int32)), (.int v0)])) X.here hx rfl (hb hby d2_39) rfl (flt hc39).1 k) ?_
        refine own_st (T' := T) (g' := (mkF m 43 #[.val (.int v0)] [(.int v0)])) (fun _ k => Jvm.Free.XS.iloadN (g := (mkF m 42 #[.val (.int v0)] [])) X.here hx rfl (hb hby d2_42) rfl k) ?_
        refine own_st (T' := T) (g' := (mkF m 46 #[.val (.int v0)] [(.int (191 : Int32)), (.int v0)])) (fun _ k => XS.sipush (g := (mkF m 43 #[.val (.int v0)] [(.int v0)])) X.here hx rfl (hb hby d2_43) k) ?_
        by_cases hc46 : (191 : Int32) < v0
        · have hf := hf.trans (if_pos hc46)
          refine own_st (T' := T) (g' := (mkF m 51 #[.val (.int v0)] [])) (fun _ k => XS.icmpYes (g := (mkF m 46 #[.val (.int v0)] [(.int (191 : Int32)), (.int v0)])) X.here hx rfl (pc0 := 46) (pc' := 51) rfl (hb hby d2_46) rfl (tlt hc46).2.2.1 (by decide) (by decide) k) ?_
          exact b51 T _ X eT NL  v0 hf
        · have hf := hf.trans (if_neg hc46)
          refine own_st (T' := T) (g' := (mkF m 49 #[.val (.int v0)] [])) (fun _ k => XS.icmpNo (g := (mkF m 46 #[.val (.int v0)] [(.int (191 : Int32)), (.int v0)])) X.here hx rfl (hb hby d2_46) rfl (flt hc46).2.2.1 k) ?_
          refine own_st (T' := T) (g' := (mkF m 50 #[.val (.int v0)] [(.int (0 : Int32))])) (fun _ k => XS.iconst (g := (mkF m 49 #[.val (.int v0)] [])) X.here hx rfl (hb hby d2_49) k) ?_
          exact own_end (Q := Q2 Z p1 h0 n0) (v := some (.int (nar .boolean (0 : Int32)))) X (fun h => by rw [Bd.returns] at h; cases h) (fun fs hr => retN X hx (t := .boolean) Bd.returns (by simp) (hb hby d2_50) hr) (⟨congrArg (fun z => some (Value.int z)) hf.symm, NL, eT⟩) (by decide) (by decide)
  have b12 : ∀ (T : State) (Lc : List Loc) (X : Stand p l e ({ frames := 0, cells := 0, slots := 0, locals := 0 } : Room) s m #[(.int p1)] below meth c T Lc 0 0) (eT : T.heap = h0) (NL : Fr n0 Lc) (v0 : Int32), own_f2_0 p1 = own_f2_12 v0 → own_Goes p e below (fun o U' => ∃ v L, o = .returned v ∧ Q2 Z p1 h0 n0 v U'.heap L ∧ FrameEnd s o U' L ({ frames := 0, cells := 0, slots := 0, locals := 0 } : Room).cells ({ frames := 0, cells := 0, slots := 0, locals := 0 } : Room).slots) T (mkF m 12 #[.val (.int v0)] []) := by
    intro T Lc X eT NL v0 hf
    refine own_st (T' := T) (g' := (mkF m 13 #[.val (.int v0)] [(.int (0 : Int32))])) (fun _ k => XS.iconst (g := (mkF m 12 #[.val (.int v0)] [])) X.here hx rfl (hb hby d2_12) k) ?_
    exact own_end (Q := Q2 Z p1 h0 n0) (v := some (.int (nar .boolean (0 : Int32)))) X (fun h => by rw [Bd.returns] at h; cases h) (fun fs hr => retN X hx (t := .boolean) Bd.returns (by simp) (hb hby d2_13) hr) (⟨congrArg (fun z => some (Value.int z)) hf.symm, NL, eT⟩) (by decide) (by decide)
  have hf : own_f2_0 p1 = own_f2_0 p1 := rfl
  refine own_st (T' := s₁) (g' := (mkF m 1 #[.val (.int p1)] [(.int p1)])) (fun _ k => Jvm.Free.XS.iloadN (g := (mkF m 0 #[.val (.int p1)] [])) X0.here hx rfl (hb hby d2_0) rfl k) ?_
  refine own_st (T' := s₁) (g' := (mkF m 3 #[.val (.int p1)] [(.int (65 : Int32)), (.int p1)])) (fun _ k => XS.bipush (g := (mkF m 1 #[.val (.int p1)] [(.int p1)])) X0.here hx rfl (hb hby d2_1) k) ?_
  by_cases hc3 : p1 < (65 : Int32)
  · have hf := hf.trans (if_pos hc3)
    refine own_st (T' := s₁) (g' := (mkF m 12 #[.val (.int p1)] [])) (fun _ k => XS.icmpYes (g := (mkF m 3 #[.val (.int p1)] [(.int (65 : Int32)), (.int p1)])) X0.here hx rfl (pc0 := 3) (pc' := 12) rfl (hb hby d2_3) rfl (tlt hc3).1 (by decide) (by decide) k) ?_
    exact b12 s₁ _ X0 e0 N0  p1 hf
  · have hf := hf.trans (if_neg hc3)
    refine own_st (T' := s₁) (g' := (mkF m 6 #[.val (.int p1)] [])) (fun _ k => XS.icmpNo (g := (mkF m 3 #[.val (.int p1)] [(.int (65 : Int32)), (.int p1)])) X0.here hx rfl (hb hby d2_3) rfl (flt hc3).1 k) ?_
    refine own_st (T' := s₁) (g' := (mkF m 7 #[.val (.int p1)] [(.int p1)])) (fun _ k => Jvm.Free.XS.iloadN (g := (mkF m 6 #[.val (.int p1)] [])) X0.here hx rfl (hb hby d2_6) rfl k) ?_
    refine own_st (T' := s₁) (g' := (mkF m 9 #[.val (.int p1)] [(.int (983039 : Int32)), (.int p1)])) (fun _ k => (X0.ldcInt hx hown (mvT hZ (hw _ (List.mem_of_getElem? (i := 7) rfl))) (g := (mkF m 7 #[.val (.int p1)] [(.int p1)])) rfl (hb hby d2_7)) _ k) ?_
    by_cases hc9 : (983039 : Int32) < p1
    · have hf := hf.trans (if_pos hc9)
      refine own_st (T' := s₁) (g' := (mkF m 12 #[.val (.int p1)] [])) (fun _ k => XS.icmpNo (g := (mkF m 9 #[.val (.int p1)] [(.int (983039 : Int32)), (.int p1)])) X0.here hx rfl (hb hby d2_9) rfl (tlt hc9).2.2.2 k) ?_
      exact b12 s₁ _ X0 e0 N0  p1 hf
    · have hf := hf.trans (if_neg hc9)
      refine own_st (T' := s₁) (g' := (mkF m 14 #[.val (.int p1)] [])) (fun _ k => XS.icmpYes (g := (mkF m 9 #[.val (.int p1)] [(.int (983039 : Int32)), (.int p1)])) X0.here hx rfl (pc0 := 9) (pc' := 14) rfl (hb hby d2_9) rfl (flt hc9).2.2.2 (by decide) (by decide) k) ?_
      refine own_st (T' := s₁) (g' := (mkF m 15 #[.val (.int p1)] [(.int p1)])) (fun _ k => Jvm.Free.XS.iloadN (g := (mkF m 14 #[.val (.int p1)] [])) X0.here hx rfl (hb hby d2_14) rfl k) ?_
      refine own_st (T' := s₁) (g' := (mkF m 17 #[.val (.int p1)] [(.int (91 : Int32)), (.int p1)])) (fun _ k => XS.bipush (g := (mkF m 15 #[.val (.int p1)] [(.int p1)])) X0.here hx rfl (hb hby d2_15) k) ?_
      by_cases hc17 : p1 < (91 : Int32)
      · have hf := hf.trans (if_pos hc17)
        refine own_st (T' := s₁) (g' := (mkF m 28 #[.val (.int p1)] [])) (fun _ k => XS.icmpYes (g := (mkF m 17 #[.val (.int p1)] [(.int (91 : Int32)), (.int p1)])) X0.here hx rfl (pc0 := 17) (pc' := 28) rfl (hb hby d2_17) rfl (tlt hc17).1 (by decide) (by decide) k) ?_
        exact b28 s₁ _ X0 e0 N0  p1 hf
      · have hf := hf.trans (if_neg hc17)
        refine own_st (T' := s₁) (g' := (mkF m 20 #[.val (.int p1)] [])) (fun _ k => XS.icmpNo (g := (mkF m 17 #[.val (.int p1)] [(.int (91 : Int32)), (.int p1)])) X0.here hx rfl (hb hby d2_17) rfl (flt hc17).1 k) ?_
        refine own_st (T' := s₁) (g' := (mkF m 21 #[.val (.int p1)] [(.int p1)])) (fun _ k => Jvm.Free.XS.iloadN (g := (mkF m 20 #[.val (.int p1)] [])) X0.here hx rfl (hb hby d2_20) rfl k) ?_
        refine own_st (T' := s₁) (g' := (mkF m 23 #[.val (.int p1)] [(.int (94 : Int32)), (.int p1)])) (fun _ k => XS.bipush (g := (mkF m 21 #[.val (.int p1)] [(.int p1)])) X0.here hx rfl (hb hby d2_21) k) ?_
        by_cases hc23 : (94 : Int32) < p1
        · have hf := hf.trans (if_pos hc23)
          refine own_st (T' := s₁) (g' := (mkF m 28 #[.val (.int p1)] [])) (fun _ k => XS.icmpYes (g := (mkF m 23 #[.val (.int p1)] [(.int (94 : Int32)), (.int p1)])) X0.here hx rfl (pc0 := 23) (pc' := 28) rfl (hb hby d2_23) rfl (tlt hc23).2.2.1 (by decide) (by decide) k) ?_
          exact b28 s₁ _ X0 e0 N0  p1 hf
        · have hf := hf.trans (if_neg hc23)
          refine own_st (T' := s₁) (g' := (mkF m 26 #[.val (.int p1)] [])) (fun _ k => XS.icmpNo (g := (mkF m 23 #[.val (.int p1)] [(.int (94 : Int32)), (.int p1)])) X0.here hx rfl (hb hby d2_23) rfl (flt hc23).2.2.1 k) ?_
          refine own_st (T' := s₁) (g' := (mkF m 27 #[.val (.int p1)] [(.int (0 : Int32))])) (fun _ k => XS.iconst (g := (mkF m 26 #[.val (.int p1)] [])) X0.here hx rfl (hb hby d2_26) k) ?_
          exact own_end (Q := Q2 Z p1 h0 n0) (v := some (.int (nar .boolean (0 : Int32)))) X0 (fun h => by rw [Bd.returns] at h; cases h) (fun fs hr => retN X0 hx (t := .boolean) Bd.returns (by simp) (hb hby d2_27) hr) (⟨congrArg (fun z => some (Value.int z)) hf.symm, N0, e0⟩) (by decide) (by decide)
theorem own_ltY {c k : Int32} (K : Int) (hk : k.toInt = K) (h : c.toInt < K) : c < k := by rw [Int32.lt_iff_toInt_lt, hk]; exact h
theorem own_ltN {c k : Int32} (K : Int) (hk : k.toInt = K) (h : K ≤ c.toInt) : ¬ c < k := by rw [Int32.lt_iff_toInt_lt, hk]; omega
theorem own_gtY {c k : Int32} (K : Int) (hk : k.toInt = K) (h : K < c.toInt) : k < c := by rw [Int32.lt_iff_toInt_lt, hk]; exact h
theorem own_gtN {c k : Int32} (K : Int) (hk : k.toInt = K) (h : c.toInt ≤ K) : ¬ k < c := by rw [Int32.lt_iff_toInt_lt, hk]; omega
theorem own_eqY {c k : Int32} (K : Int) (hk : k.toInt = K) (h : c.toInt = K) : c = k := by rw [← Int32.toInt_inj, hk]; exact h
theorem own_eqN {c k : Int32} (K : Int) (hk : k.toInt = K) (h : c.toInt ≠ K) : ¬ c = k := by rw [← Int32.toInt_inj, hk]; exact h
theorem own_same_1_0 (c : Int32) (h1 : -2147483648 ≤ c.toInt) (h2 : c.toInt < 65) : own_f1_0 c = 0 := by
  refine Eq.trans (if_pos (own_ltY (97) (by decide) (by omega) : (c < (97 : Int32)))) ?_
  refine Eq.trans (if_pos (own_ltY (65) (by decide) (by omega) : (c < (65 : Int32)))) ?_
  refine Eq.trans (if_neg (own_eqN (95) (by decide) (by omega) : ¬ (c = (95 : Int32)))) ?_
  refine Eq.trans (if_pos (own_ltY (192) (by decide) (by omega) : (c < (192 : Int32)))) ?_
  refine Eq.trans (if_pos (own_ltY (216) (by decide) (by omega) : (c < (216 : Int32)))) ?_
  refine Eq.trans (if_pos (own_ltY (248) (by decide) (by omega) : (c < (248 : Int32)))) ?_
  refine Eq.trans (if_pos (own_ltY (880) (by decide) (by omega) : (c < (880 : Int32)))) ?_
  refine Eq.trans (if_pos (own_ltY (895) (by decide) (by omega) : (c < (895 : Int32)))) ?_
  refine Eq.trans (if_pos (own_ltY (8204) (by decide) (by omega) : (c < (8204 : Int32)))) ?_
  refine Eq.trans (if_pos (own_ltY (8304) (by decide) (by omega) : (c < (8304 : Int32)))) ?_
  refine Eq.trans (if_pos (own_ltY (11264) (by decide) (by omega) : (c < (11264 : Int32)))) ?_
  refine Eq.trans (if_pos (own_ltY (12289) (by decide) (by omega) : (c < (12289 : Int32)))) ?_
  refine Eq.trans (if_pos (own_ltY (63744) (by decide) (by omega) : (c < (63744 : Int32)))) ?_
  refine Eq.trans (if_pos (own_ltY (65008) (by decide) (by omega) : (c < (65008 : Int32)))) ?_
  refine Eq.trans (if_pos (own_ltY (65536) (by decide) (by omega) : (c < (65536 : Int32)))) ?_
  rfl
theorem own_same_2_0 (c : Int32) (h1 : -2147483648 ≤ c.toInt) (h2 : c.toInt < 65) : own_f2_0 c = 0 := by
  refine Eq.trans (if_pos (own_ltY (65) (by decide) (by omega) : (c < (65 : Int32)))) ?_
  rfl
theorem own_same_1_1 (c : Int32) (h1 : 65 ≤ c.toInt) (h2 : c.toInt < 91) : own_f1_0 c = 1 := by
  refine Eq.trans (if_pos (own_ltY (97) (by decide) (by omega) : (c < (97 : Int32)))) ?_
  refine Eq.trans (if_neg (own_ltN (65) (by decide) (by omega) : ¬ (c < (65 : Int32)))) ?_
  refine Eq.trans (if_neg (own_gtN (90) (by decide) (by omega) : ¬ ((90 : Int32) < c))) ?_
  rfl
theorem own_same_2_1 (c : Int32) (h1 : 65 ≤ c.toInt) (h2 : c.toInt < 91) : own_f2_0 c = 1 := by
  refine Eq.trans (if_neg (own_ltN (65) (by decide) (by omega) : ¬ (c < (65 : Int32)))) ?_
  refine Eq.trans (if_neg (own_gtN (983039) (by decide) (by omega) : ¬ ((983039 : Int32) < c))) ?_
  refine Eq.trans (if_pos (own_ltY (91) (by decide) (by omega) : (c < (91 : Int32)))) ?_
  refine Eq.trans (if_neg (own_eqN (96) (by decide) (by omega) : ¬ (c = (96 : Int32)))) ?_
  refine Eq.trans (if_pos (own_ltY (123) (by decide) (by omega) : (c < (123 : Int32)))) ?_
  refine Eq.trans (if_neg (own_eqN (215) (by decide) (by omega) : ¬ (c = (215 : Int32)))) ?_
  refine Eq.trans (if_neg (own_eqN (247) (by decide) (by omega) : ¬ (c = (247 : Int32)))) ?_
  refine Eq.trans (if_pos (own_ltY (768) (by decide) (by omega) : (c < (768 : Int32)))) ?_
  refine Eq.trans (if_neg (own_eqN (894) (by decide) (by omega) : ¬ (c = (894 : Int32)))) ?_
  refine Eq.trans (if_pos (own_ltY (8192) (by decide) (by omega) : (c < (8192 : Int32)))) ?_
  refine Eq.trans (if_pos (own_ltY (8206) (by decide) (by omega) : (c < (8206 : Int32)))) ?_
  refine Eq.trans (if_pos (own_ltY (8592) (by decide) (by omega) : (c < (8592 : Int32)))) ?_
  refine Eq.trans (if_pos (own_ltY (12272) (by decide) (by omega) : (c < (12272 : Int32)))) ?_
  refine Eq.trans (if_pos (own_ltY (55296) (by decide) (by omega) : (c < (55296 : Int32)))) ?_
  refine Eq.trans (if_pos (own_ltY (64976) (by decide) (by omega) : (c < (64976 : Int32)))) ?_
  refine Eq.trans (if_pos (own_ltY (65534) (by decide) (by omega) : (c < (65534 : Int32)))) ?_
  rfl
theorem own_same_1_2 (c : Int32) (h1 : 91 ≤ c.toInt) (h2 : c.toInt < 95) : own_f1_0 c = 0 := by
  refine Eq.trans (if_pos (own_ltY (97) (by decide) (by omega) : (c < (97 : Int32)))) ?_
  refine Eq.trans (if_neg (own_ltN (65) (by decide) (by omega) : ¬ (c < (65 : Int32)))) ?_
  refine Eq.trans (if_pos (own_gtY (90) (by decide) (by omega) : ((90 : Int32) < c))) ?_
  refine Eq.trans (if_neg (own_eqN (95) (by decide) (by omega) : ¬ (c = (95 : Int32)))) ?_
  refine Eq.trans (if_pos (own_ltY (192) (by decide) (by omega) : (c < (192 : Int32)))) ?_
  refine Eq.trans (if_pos (own_ltY (216) (by decide) (by omega) : (c < (216 : Int32)))) ?_
  refine Eq.trans (if_pos (own_ltY (248) (by decide) (by omega) : (c < (248 : Int32)))) ?_
  refine Eq.trans (if_pos (own_ltY (880) (by decide) (by omega) : (c < (880 : Int32)))) ?_
  refine Eq.trans (if_pos (own_ltY (895) (by decide) (by omega) : (c < (895 : Int32)))) ?_
  refine Eq.trans (if_pos (own_ltY (8204) (by decide) (by omega) : (c < (8204 : Int32)))) ?_
  refine Eq.trans (if_pos (own_ltY (8304) (by decide) (by omega) : (c < (8304 : Int32)))) ?_
  refine Eq.trans (if_pos (own_ltY (11264) (by decide) (by omega) : (c < (11264 : Int32)))) ?_
  refine Eq.trans (if_pos (own_ltY (12289) (by decide) (by omega) : (c < (12289 : Int32)))) ?_
  refine Eq.trans (if_pos (own_ltY (63744) (by decide) (by omega) : (c < (63744 : Int32)))) ?_
  refine Eq.trans (if_pos (own_ltY (65008) (by decide) (by omega) : (c < (65008 : Int32)))) ?_
  refine Eq.trans (if_pos (own_ltY (65536) (by decide) (by omega) : (c < (65536 : Int32)))) ?_
  rfl
theorem own_same_2_2 (c : Int32) (h1 : 91 ≤ c.toInt) (h2 : c.toInt < 95) : own_f2_0 c = 0 := by
  refine Eq.trans (if_neg (own_ltN (65) (by decide) (by omega) : ¬ (c < (65 : Int32)))) ?_
  refine Eq.trans (if_neg (own_gtN (983039) (by decide) (by omega) : ¬ ((983039 : Int32) < c))) ?_
  refine Eq.trans (if_neg (own_ltN (91) (by decide) (by omega) : ¬ (c < (91 : Int32)))) ?_
  refine Eq.trans (if_neg (own_gtN (94) (by decide) (by omega) : ¬ ((94 : Int32) < c))) ?_
  rfl
theorem own_same_1_3 (c : Int32) (h1 : 95 ≤ c.toInt) (h2 : c.toInt < 96) : own_f1_0 c = 1 := by
  refine Eq.trans (if_pos (own_ltY (97) (by decide) (by omega) : (c < (97 : Int32)))) ?_
  refine Eq.trans (if_neg (own_ltN (65) (by decide) (by omega) : ¬ (c < (65 : Int32)))) ?_
  refine Eq.trans (if_pos (own_gtY (90) (by decide) (by omega) : ((90 : Int32) < c))) ?_
  refine Eq.trans (if_pos (own_eqY (95) (by decide) (by omega) : (c = (95 : Int32)))) ?_
  rfl
theorem own_same_2_3 (c : Int32) (h1 : 95 ≤ c.toInt) (h2 : c.toInt < 96) : own_f2_0 c = 1 := by
  refine Eq.trans (if_neg (own_ltN (65) (by decide) (by omega) : ¬ (c < (65 : Int32)))) ?_
  refine Eq.trans (if_neg (own_gtN (983039) (by decide) (by omega) : ¬ ((983039 : Int32) < c))) ?_
  refine Eq.trans (if_neg (own_ltN (91) (by decide) (by omega) : ¬ (c < (91 : Int32)))) ?_
  refine Eq.trans (if_pos (own_gtY (94) (by decide) (by omega) : ((94 : Int32) < c))) ?_
  refine Eq.trans (if_neg (own_eqN (96) (by decide) (by omega) : ¬ (c = (96 : Int32)))) ?_
  refine Eq.trans (if_pos (own_ltY (123) (by decide) (by omega) : (c < (123 : Int32)))) ?_
  refine Eq.trans (if_neg (own_eqN (215) (by decide) (by omega) : ¬ (c = (215 : Int32)))) ?_
  refine Eq.trans (if_neg (own_eqN (247) (by decide) (by omega) : ¬ (c = (247 : Int32)))) ?_
  refine Eq.trans (if_pos (own_ltY (768) (by decide) (by omega) : (c < (768 : Int32)))) ?_
  refine Eq.trans (if_neg (own_eqN (894) (by decide) (by omega) : ¬ (c = (894 : Int32)))) ?_
  refine Eq.trans (if_pos (own_ltY (8192) (by decide) (by omega) : (c < (8192 : Int32)))) ?_
  refine Eq.trans (if_pos (own_ltY (8206) (by decide) (by omega) : (c < (8206 : Int32)))) ?_
  refine Eq.trans (if_pos (own_ltY (8592) (by decide) (by omega) : (c < (8592 : Int32)))) ?_
  refine Eq.trans (if_pos (own_ltY (12272) (by decide) (by omega) : (c < (12272 : Int32)))) ?_
  refine Eq.trans (if_pos (own_ltY (55296) (by decide) (by omega) : (c < (55296 : Int32)))) ?_
  refine Eq.trans (if_pos (own_ltY (64976) (by decide) (by omega) : (c < (64976 : Int32)))) ?_
  refine Eq.trans (if_pos (own_ltY (65534) (by decide) (by omega) : (c < (65534 : Int32)))) ?_
  rfl
theorem own_same_1_4 (c : Int32) (h1 : 96 ≤ c.toInt) (h2 : c.toInt < 97) : own_f1_0 c = 0 := by
  refine Eq.trans (if_pos (own_ltY (97) (by decide) (by omega) : (c < (97 : Int32)))) ?_
  refine Eq.trans (if_neg (own_ltN (65) (by decide) (by omega) : ¬ (c < (65 : Int32)))) ?_
  refine Eq.trans (if_pos (own_gtY (90) (by decide) (by omega) : ((90 : Int32) < c))) ?_
  refine Eq.trans (if_neg (own_eqN (95) (by decide) (by omega) : ¬ (c = (95 : Int32)))) ?_
  refine Eq.trans (if_pos (own_ltY (192) (by decide) (by omega) : (c < (192 : Int32)))) ?_
  refine Eq.trans (if_pos (own_ltY (216) (by decide) (by omega) : (c < (216 : Int32)))) ?_
  refine Eq.trans (if_pos (own_ltY (248) (by decide) (by omega) : (c < (248 : Int32)))) ?_
  refine Eq.trans (if_pos (own_ltY (880) (by decide) (by omega) : (c < (880 : Int32)))) ?_
  refine Eq.trans (if_pos (own_ltY (895) (by decide) (by omega) : (c < (895 : Int32)))) ?_
  refine Eq.trans (if_pos (own_ltY (8204) (by decide) (by omega) : (c < (8204 : Int32)))) ?_
  refine Eq.trans (if_pos (own_ltY (8304) (by decide) (by omega) : (c < (8304 : Int32)))) ?_
  refine Eq.trans (if_pos (own_ltY (11264) (by decide) (by omega) : (c < (11264 : Int32)))) ?_
  refine Eq.trans (if_pos (own_ltY (12289) (by decide) (by omega) : (c < (12289 : Int32)))) ?_
  refine Eq.trans (if_pos (own_ltY (63744) (by decide) (by omega) : (c < (63744 : Int32)))) ?_
  refine Eq.trans (if_pos (own_ltY (65008) (by decide) (by omega) : (c < (65008 : Int32)))) ?_
  refine Eq.trans (if_pos (own_ltY (65536) (by decide) (by omega) : (c < (65536 : Int32)))) ?_
  rfl
theorem own_same_2_4 (c : Int32) (h1 : 96 ≤ c.toInt) (h2 : c.toInt < 97) : own_f2_0 c = 0 := by
  refine Eq.trans (if_neg (own_ltN (65) (by decide) (by omega) : ¬ (c < (65 : Int32)))) ?_
  refine Eq.trans (if_neg (own_gtN (983039) (by decide) (by omega) : ¬ ((983039 : Int32) < c))) ?_
  refine Eq.trans (if_neg (own_ltN (91) (by decide) (by omega) : ¬ (c < (91 : Int32)))) ?_
  refine Eq.trans (if_pos (own_gtY (94) (by decide) (by omega) : ((94 : Int32) < c))) ?_
  refine Eq.trans (if_pos (own_eqY (96) (by decide) (by omega) : (c = (96 : Int32)))) ?_
  rfl
theorem own_same_1_5 (c : Int32) (h1 : 97 ≤ c.toInt) (h2 : c.toInt < 123) : own_f1_0 c = 1 := by
  refine Eq.trans (if_neg (own_ltN (97) (by decide) (by omega) : ¬ (c < (97 : Int32)))) ?_
  refine Eq.trans (if_neg (own_gtN (122) (by decide) (by omega) : ¬ ((122 : Int32) < c))) ?_
  rfl
theorem own_same_2_5 (c : Int32) (h1 : 97 ≤ c.toInt) (h2 : c.toInt < 123) : own_f2_0 c = 1 := by
  refine Eq.trans (if_neg (own_ltN (65) (by decide) (by omega) : ¬ (c < (65 : Int32)))) ?_
  refine Eq.trans (if_neg (own_gtN (983039) (by decide) (by omega) : ¬ ((983039 : Int32) < c))) ?_
  refine Eq.trans (if_neg (own_ltN (91) (by decide) (by omega) : ¬ (c < (91 : Int32)))) ?_
  refine Eq.trans (if_pos (own_gtY (94) (by decide) (by omega) : ((94 : Int32) < c))) ?_
  refine Eq.trans (if_neg (own_eqN (96) (by decide) (by omega) : ¬ (c = (96 : Int32)))) ?_
  refine Eq.trans (if_pos (own_ltY (123) (by decide) (by omega) : (c < (123 : Int32)))) ?_
  refine Eq.trans (if_neg (own_eqN (215) (by decide) (by omega) : ¬ (c = (215 : Int32)))) ?_
  refine Eq.trans (if_neg (own_eqN (247) (by decide) (by omega) : ¬ (c = (247 : Int32)))) ?_
  refine Eq.trans (if_pos (own_ltY (768) (by decide) (by omega) : (c < (768 : Int32)))) ?_
  refine Eq.trans (if_neg (own_eqN (894) (by decide) (by omega) : ¬ (c = (894 : Int32)))) ?_
  refine Eq.trans (if_pos (own_ltY (8192) (by decide) (by omega) : (c < (8192 : Int32)))) ?_
  refine Eq.trans (if_pos (own_ltY (8206) (by decide) (by omega) : (c < (8206 : Int32)))) ?_
  refine Eq.trans (if_pos (own_ltY (8592) (by decide) (by omega) : (c < (8592 : Int32)))) ?_
  refine Eq.trans (if_pos (own_ltY (12272) (by decide) (by omega) : (c < (12272 : Int32)))) ?_
  refine Eq.trans (if_pos (own_ltY (55296) (by decide) (by omega) : (c < (55296 : Int32)))) ?_
  refine Eq.trans (if_pos (own_ltY (64976) (by decide) (by omega) : (c < (64976 : Int32)))) ?_
  refine Eq.trans (if_pos (own_ltY (65534) (by decide) (by omega) : (c < (65534 : Int32)))) ?_
  rfl
theorem own_same_1_6 (c : Int32) (h1 : 123 ≤ c.toInt) (h2 : c.toInt < 192) : own_f1_0 c = 0 := by
  refine Eq.trans (if_neg (own_ltN (97) (by decide) (by omega) : ¬ (c < (97 : Int32)))) ?_
  refine Eq.trans (if_pos (own_gtY (122) (by decide) (by omega) : ((122 : Int32) < c))) ?_
  refine Eq.trans (if_neg (own_ltN (65) (by decide) (by omega) : ¬ (c < (65 : Int32)))) ?_
  refine Eq.trans (if_pos (own_gtY (90) (by decide) (by omega) : ((90 : Int32) < c))) ?_
  refine Eq.trans (if_neg (own_eqN (95) (by decide) (by omega) : ¬ (c = (95 : Int32)))) ?_
  refine Eq.trans (if_pos (own_ltY (192) (by decide) (by omega) : (c < (192 : Int32)))) ?_
  refine Eq.trans (if_pos (own_ltY (216) (by decide) (by omega) : (c < (216 : Int32)))) ?_
  refine Eq.trans (if_pos (own_ltY (248) (by decide) (by omega) : (c < (248 : Int32)))) ?_
  refine Eq.trans (if_pos (own_ltY (880) (by decide) (by omega) : (c < (880 : Int32)))) ?_
  refine Eq.trans (if_pos (own_ltY (895) (by decide) (by omega) : (c < (895 : Int32)))) ?_
  refine Eq.trans (if_pos (own_ltY (8204) (by decide) (by omega) : (c < (8204 : Int32)))) ?_
  refine Eq.trans (if_pos (own_ltY (8304) (by decide) (by omega) : (c < (8304 : Int32)))) ?_
  refine Eq.trans (if_pos (own_ltY (11264) (by decide) (by omega) : (c < (11264 : Int32)))) ?_
  refine Eq.trans (if_pos (own_ltY (12289) (by decide) (by omega) : (c < (12289 : Int32)))) ?_
  refine Eq.trans (if_pos (own_ltY (63744) (by decide) (by omega) : (c < (63744 : Int32)))) ?_
  refine Eq.trans (if_pos (own_ltY (65008) (by decide) (by omega) : (c < (65008 : Int32)))) ?_
  refine Eq.trans (if_pos (own_ltY (65536) (by decide) (by omega) : (c < (65536 : Int32)))) ?_
  rfl
theorem own_same_2_6 (c : Int32) (h1 : 123 ≤ c.toInt) (h2 : c.toInt < 192) : own_f2_0 c = 0 := by
  refine Eq.trans (if_neg (own_ltN (65) (by decide) (by omega) : ¬ (c < (65 : Int32)))) ?_
  refine Eq.trans (if_neg (own_gtN (983039) (by decide) (by omega) : ¬ ((983039 : Int32) < c))) ?_
  refine Eq.trans (if_neg (own_ltN (91) (by decide) (by omega) : ¬ (c < (91 : Int32)))) ?_
  refine Eq.trans (if_pos (own_gtY (94) (by decide) (by omega) : ((94 : Int32) < c))) ?_
  refine Eq.trans (if_neg (own_eqN (96) (by decide) (by omega) : ¬ (c = (96 : Int32)))) ?_
  refine Eq.trans (if_neg (own_ltN (123) (by decide) (by omega) : ¬ (c < (123 : Int32)))) ?_
  refine Eq.trans (if_neg (own_gtN (191) (by decide) (by omega) : ¬ ((191 : Int32) < c))) ?_
  rfl
theorem own_same_1_7 (c : Int32) (h1 : 192 ≤ c.toInt) (h2 : c.toInt < 215) : own_f1_0 c = 1 := by
  refine Eq.trans (if_neg (own_ltN (97) (by decide) (by omega) : ¬ (c < (97 : Int32)))) ?_
  refine Eq.trans (if_pos (own_gtY (122) (by decide) (by omega) : ((122 : Int32) < c))) ?_
  refine Eq.trans (if_neg (own_ltN (65) (by decide) (by omega) : ¬ (c < (65 : Int32)))) ?_
  refine Eq.trans (if_pos (own_gtY (90) (by decide) (by omega) : ((90 : Int32) < c))) ?_
  refine Eq.trans (if_neg (own_eqN (95) (by decide) (by omega) : ¬ (c = (95 : Int32)))) ?_
  refine Eq.trans (if_neg (own_ltN (192) (by decide) (by omega) : ¬ (c < (192 : Int32)))) ?_
  refine Eq.trans (if_neg (own_gtN (214) (by decide) (by omega) : ¬ ((214 : Int32) < c))) ?_
  rfl
theorem own_same_2_7 (c : Int32) (h1 : 192 ≤ c.toInt) (h2 : c.toInt < 215) : own_f2_0 c = 1 := by
  refine Eq.trans (if_neg (own_ltN (65) (by decide) (by omega) : ¬ (c < (65 : Int32)))) ?_
  refine Eq.trans (if_neg (own_gtN (983039) (by decide) (by omega) : ¬ ((983039 : Int32) < c))) ?_
  refine Eq.trans (if_neg (own_ltN (91) (by decide) (by omega) : ¬ (c < (91 : Int32)))) ?_
  refine Eq.trans (if_pos (own_gtY (94) (by decide) (by omega) : ((94 : Int32) < c))) ?_
  refine Eq.trans (if_neg (own_eqN (96) (by decide) (by omega) : ¬ (c = (96 : Int32)))) ?_
  refine Eq.trans (if_neg (own_ltN (123) (by decide) (by omega) : ¬ (c < (123 : Int32)))) ?_
  refine Eq.trans (if_pos (own_gtY (191) (by decide) (by omega) : ((191 : Int32) < c))) ?_
  refine Eq.trans (if_neg (own_eqN (215) (by decide) (by omega) : ¬ (c = (215 : Int32)))) ?_
  refine Eq.trans (if_neg (own_eqN (247) (by decide) (by omega) : ¬ (c = (247 : Int32)))) ?_
  refine Eq.trans (if_pos (own_ltY (768) (by decide) (by omega) : (c < (768 : Int32)))) ?_
  refine Eq.trans (if_neg (own_eqN (894) (by decide) (by omega) : ¬ (c = (894 : Int32)))) ?_
  refine Eq.trans (if_pos (own_ltY (8192) (by decide) (by omega) : (c < (8192 : Int32)))) ?_
  refine Eq.trans (if_pos (own_ltY (8206) (by decide) (by omega) : (c < (8206 : Int32)))) ?_
  refine Eq.trans (if_pos (own_ltY (8592) (by decide) (by omega) : (c < (8592 : Int32)))) ?_
  refine Eq.trans (if_pos (own_ltY (12272) (by decide) (by omega) : (c < (12272 : Int32)))) ?_
  refine Eq.trans (if_pos (own_ltY (55296) (by decide) (by omega) : (c < (55296 : Int32)))) ?_
  refine Eq.trans (if_pos (own_ltY (64976) (by decide) (by omega) : (c < (64976 : Int32)))) ?_
  refine Eq.trans (if_pos (own_ltY (65534) (by decide) (by omega) : (c < (65534 : Int32)))) ?_
  rfl
theorem own_same_1_8 (c : Int32) (h1 : 215 ≤ c.toInt) (h2 : c.toInt < 216) : own_f1_0 c = 0 := by
  refine Eq.trans (if_neg (own_ltN (97) (by decide) (by omega) : ¬ (c < (97 : Int32)))) ?_
  refine Eq.trans (if_pos (own_gtY (122) (by decide) (by omega) : ((122 : Int32) < c))) ?_
  refine Eq.trans (if_neg (own_ltN (65) (by decide) (by omega) : ¬ (c < (65 : Int32)))) ?_
  refine Eq.trans (if_pos (own_gtY (90) (by decide) (by omega) : ((90 : Int32) < c))) ?_
  refine Eq.trans (if_neg (own_eqN (95) (by decide) (by omega) : ¬ (c = (95 : Int32)))) ?_
  refine Eq.trans (if_neg (own_ltN (192) (by decide) (by omega) : ¬ (c < (192 : Int32)))) ?_
  refine Eq.trans (if_pos (own_gtY (214) (by decide) (by omega) : ((214 : Int32) < c))) ?_
  refine Eq.trans (if_pos (own_ltY (216) (by decide) (by omega) : (c < (216 : Int32)))) ?_
  refine Eq.trans (if_pos (own_ltY (248) (by decide) (by omega) : (c < (248 : Int32)))) ?_
  refine Eq.trans (if_pos (own_ltY (880) (by decide) (by omega) : (c < (880 : Int32)))) ?_
  refine Eq.trans (if_pos (own_ltY (895) (by decide) (by omega) : (c < (895 : Int32)))) ?_
  refine Eq.trans (if_pos (own_ltY (8204) (by decide) (by omega) : (c < (8204 : Int32)))) ?_
  refine Eq.trans (if_pos (own_ltY (8304) (by decide) (by omega) : (c < (8304 : Int32)))) ?_
  refine Eq.trans (if_pos (own_ltY (11264) (by decide) (by omega) : (c < (11264 : Int32)))) ?_
  refine Eq.trans (if_pos (own_ltY (12289) (by decide) (by omega) : (c < (12289 : Int32)))) ?_
  refine Eq.trans (if_pos (own_ltY (63744) (by decide) (by omega) : (c < (63744 : Int32)))) ?_
  refine Eq.trans (if_pos (own_ltY (65008) (by decide) (by omega) : (c < (65008 : Int32)))) ?_
  refine Eq.trans (if_pos (own_ltY (65536) (by decide) (by omega) : (c < (65536 : Int32)))) ?_
  rfl
theorem own_same_2_8 (c : Int32) (h1 : 215 ≤ c.toInt) (h2 : c.toInt < 216) : own_f2_0 c = 0 := by
  refine Eq.trans (if_neg (own_ltN (65) (by decide) (by omega) : ¬ (c < (65 : Int32)))) ?_
  refine Eq.trans (if_neg (own_gtN (983039) (by decide) (by omega) : ¬ ((983039 : Int32) < c))) ?_
  refine Eq.trans (if_neg (own_ltN (91) (by decide) (by omega) : ¬ (c < (91 : Int32)))) ?_
  refine Eq.trans (if_pos (own_gtY (94) (by decide) (by omega) : ((94 : Int32) < c))) ?_
  refine Eq.trans (if_neg (own_eqN (96) (by decide) (by omega) : ¬ (c = (96 : Int32)))) ?_
  refine Eq.trans (if_neg (own_ltN (123) (by decide) (by omega) : ¬ (c < (123 : Int32)))) ?_
  refine Eq.trans (if_pos (own_gtY (191) (by decide) (by omega) : ((191 : Int32) < c))) ?_
  refine Eq.trans (if_pos (own_eqY (215) (by decide) (by omega) : (c = (215 : Int32)))) ?_
  rfl
theorem own_same_1_9 (c : Int32) (h1 : 216 ≤ c.toInt) (h2 : c.toInt < 247) : own_f1_0 c = 1 := by
  refine Eq.trans (if_neg (own_ltN (97) (by decide) (by omega) : ¬ (c < (97 : Int32)))) ?_
  refine Eq.trans (if_pos (own_gtY (122) (by decide) (by omega) : ((122 : Int32) < c))) ?_
  refine Eq.trans (if_neg (own_ltN (65) (by decide) (by omega) : ¬ (c < (65 : Int32)))) ?_
  refine Eq.trans (if_pos (own_gtY (90) (by decide) (by omega) : ((90 : Int32) < c))) ?_
  refine Eq.trans (if_neg (own_eqN (95) (by decide) (by omega) : ¬ (c = (95 : Int32)))) ?_
  refine Eq.trans (if_neg (own_ltN (192) (by decide) (by omega) : ¬ (c < (192 : Int32)))) ?_
  refine Eq.trans (if_pos (own_gtY (214) (by decide) (by omega) : ((214 : Int32) < c))) ?_
  refine Eq.trans (if_neg (own_ltN (216) (by decide) (by omega) : ¬ (c < (216 : Int32)))) ?_
  refine Eq.trans (if_neg (own_gtN (246) (by decide) (by omega) : ¬ ((246 : Int32) < c))) ?_
  rfl
theorem own_same_2_9 (c : Int32) (h1 : 216 ≤ c.toInt) (h2 : c.toInt < 247) : own_f2_0 c = 1 := by
  refine Eq.trans (if_neg (own_ltN (65) (by decide) (by omega) : ¬ (c < (65 : Int32)))) ?_
  refine Eq.trans (if_neg (own_gtN (983039) (by decide) (by omega) : ¬ ((983039 : Int32) < c))) ?_
  refine Eq.trans (if_neg (own_ltN (91) (by decide) (by omega) : ¬ (c < (91 : Int32)))) ?_
  refine Eq.trans (if_pos (own_gtY (94) (by decide) (by omega) : ((94 : Int32) < c))) ?_
  refine Eq.trans (if_neg (own_eqN (96) (by decide) (by omega) : ¬ (c = (96 : Int32)))) ?_
  refine Eq.trans (if_neg (own_ltN (123) (by decide) (by omega) : ¬ (c < (123 : Int32)))) ?_
  refine Eq.trans (if_pos (own_gtY (191) (by decide) (by omega) : ((191 : Int32) < c))) ?_
  refine Eq.trans (if_neg (own_eqN (215) (by decide) (by omega) : ¬ (c = (215 : Int32)))) ?_
  refine Eq.trans (if_neg (own_eqN (247) (by decide) (by omega) : ¬ (c = (247 : Int32)))) ?_
  refine Eq.trans (if_pos (own_ltY (768) (by decide) (by omega) : (c < (768 : Int32)))) ?_
  refine Eq.trans (if_neg (own_eqN (894) (by decide) (by omega) : ¬ (c = (894 : Int32)))) ?_
  refine Eq.trans (if_pos (own_ltY (8192) (by decide) (by omega) : (c < (8192 : Int32)))) ?_
  refine Eq.trans (if_pos (own_ltY (8206) (by decide) (by omega) : (c < (8206 : Int32)))) ?_
  refine Eq.trans (if_pos (own_ltY (8592) (by decide) (by omega) : (c < (8592 : Int32)))) ?_
  refine Eq.trans (if_pos (own_ltY (12272) (by decide) (by omega) : (c < (12272 : Int32)))) ?_
  refine Eq.trans (if_pos (own_ltY (55296) (by decide) (by omega) : (c < (55296 : Int32)))) ?_
  refine Eq.trans (if_pos (own_ltY (64976) (by decide) (by omega) : (c < (64976 : Int32)))) ?_
  refine Eq.trans (if_pos (own_ltY (65534) (by decide) (by omega) : (c < (65534 : Int32)))) ?_
  rfl
theorem own_same_1_10 (c : Int32) (h1 : 247 ≤ c.toInt) (h2 : c.toInt < 248) : own_f1_0 c = 0 := by
  refine Eq.trans (if_neg (own_ltN (97) (by decide) (by omega) : ¬ (c < (97 : Int32)))) ?_
  refine Eq.trans (if_pos (own_gtY (122) (by decide) (by omega) : ((122 : Int32) < c))) ?_
  refine Eq.trans (if_neg (own_ltN (65) (by decide) (by omega) : ¬ (c < (65 : Int32)))) ?_
  refine Eq.trans (if_pos (own_gtY (90) (by decide) (by omega) : ((90 : Int32) < c))) ?_
  refine Eq.trans (if_neg (own_eqN (95) (by decide) (by omega) : ¬ (c = (95 : Int32)))) ?_
  refine Eq.trans (if_neg (own_ltN (192) (by decide) (by omega) : ¬ (c < (192 : Int32)))) ?_
  refine Eq.trans (if_pos (own_gtY (214) (by decide) (by omega) : ((214 : Int32) < c))) ?_
  refine Eq.trans (if_neg (own_ltN (216) (by decide) (by omega) : ¬ (c < (216 : Int32)))) ?_
  refine Eq.trans (if_pos (own_gtY (246) (by decide) (by omega) : ((246 : Int32) < c))) ?_
  refine Eq.trans (if_pos (own_ltY (248) (by decide) (by omega) : (c < (248 : Int32)))) ?_
  refine Eq.trans (if_pos (own_ltY (880) (by decide) (by omega) : (c < (880 : Int32)))) ?_
  refine Eq.trans (if_pos (own_ltY (895) (by decide) (by omega) : (c < (895 : Int32)))) ?_
  refine Eq.trans (if_pos (own_ltY (8204) (by decide) (by omega) : (c < (8204 : Int32)))) ?_
  refine Eq.trans (if_pos (own_ltY (8304) (by decide) (by omega) : (c < (8304 : Int32)))) ?_
  refine Eq.trans (if_pos (own_ltY (11264) (by decide) (by omega) : (c < (11264 : Int32)))) ?_
  refine Eq.trans (if_pos (own_ltY (12289) (by decide) (by omega) : (c < (12289 : Int32)))) ?_
  refine Eq.trans (if_pos (own_ltY (63744) (by decide) (by omega) : (c < (63744 : Int32)))) ?_
  refine Eq.trans (if_pos (own_ltY (65008) (by decide) (by omega) : (c < (65008 : Int32)))) ?_
  refine Eq.trans (if_pos (own_ltY (65536) (by decide) (by omega) : (c < (65536 : Int32)))) ?_
  rfl
theorem own_same_2_10 (c : Int32) (h1 : 247 ≤ c.toInt) (h2 : c.toInt < 248) : own_f2_0 c = 0 := by
  refine Eq.trans (if_neg (own_ltN (65) (by decide) (by omega) : ¬ (c < (65 : Int32)))) ?_
  refine Eq.trans (if_neg (own_gtN (983039) (by decide) (by omega) : ¬ ((983039 : Int32) < c))) ?_
  refine Eq.trans (if_neg (own_ltN (91) (by decide) (by omega) : ¬ (c < (91 : Int32)))) ?_
  refine Eq.trans (if_pos (own_gtY (94) (by decide) (by omega) : ((94 : Int32) < c))) ?_
  refine Eq.trans (if_neg (own_eqN (96) (by decide) (by omega) : ¬ (c = (96 : Int32)))) ?_
  refine Eq.trans (if_neg (own_ltN (123) (by decide) (by omega) : ¬ (c < (123 : Int32)))) ?_
  refine Eq.trans (if_pos (own_gtY (191) (by decide) (by omega) : ((191 : Int32) < c))) ?_
  refine Eq.trans (if_neg (own_eqN (215) (by decide) (by omega) : ¬ (c = (215 : Int32)))) ?_
  refine Eq.trans (if_pos (own_eqY (247) (by decide) (by omega) : (c = (247 : Int32)))) ?_
  rfl
theorem own_same_1_11 (c : Int32) (h1 : 248 ≤ c.toInt) (h2 : c.toInt < 768) : own_f1_0 c = 1 := by
  refine Eq.trans (if_neg (own_ltN (97) (by decide) (by omega) : ¬ (c < (97 : Int32)))) ?_
  refine Eq.trans (if_pos (own_gtY (122) (by decide) (by omega) : ((122 : Int32) < c))) ?_
  refine Eq.trans (if_neg (own_ltN (65) (by decide) (by omega) : ¬ (c < (65 : Int32)))) ?_
  refine Eq.trans (if_pos (own_gtY (90) (by decide) (by omega) : ((90 : Int32) < c))) ?_
  refine Eq.trans (if_neg (own_eqN (95) (by decide) (by omega) : ¬ (c = (95 : Int32)))) ?_
  refine Eq.trans (if_neg (own_ltN (192) (by decide) (by omega) : ¬ (c < (192 : Int32)))) ?_
  refine Eq.trans (if_pos (own_gtY (214) (by decide) (by omega) : ((214 : Int32) < c))) ?_
  refine Eq.trans (if_neg (own_ltN (216) (by decide) (by omega) : ¬ (c < (216 : Int32)))) ?_
  refine Eq.trans (if_pos (own_gtY (246) (by decide) (by omega) : ((246 : Int32) < c))) ?_
  refine Eq.trans (if_neg (own_ltN (248) (by decide) (by omega) : ¬ (c < (248 : Int32)))) ?_
  refine Eq.trans (if_neg (own_gtN (767) (by decide) (by omega) : ¬ ((767 : Int32) < c))) ?_
  rfl
theorem own_same_2_11 (c : Int32) (h1 : 248 ≤ c.toInt) (h2 : c.toInt < 768) : own_f2_0 c = 1 := by
  refine Eq.trans (if_neg (own_ltN (65) (by decide) (by omega) : ¬ (c < (65 : Int32)))) ?_
  refine Eq.trans (if_neg (own_gtN (983039) (by decide) (by omega) : ¬ ((983039 : Int32) < c))) ?_
  refine Eq.trans (if_neg (own_ltN (91) (by decide) (by omega) : ¬ (c < (91 : Int32)))) ?_
  refine Eq.trans (if_pos (own_gtY (94) (by decide) (by omega) : ((94 : Int32) < c))) ?_
  refine Eq.trans (if_neg (own_eqN (96) (by decide) (by omega) : ¬ (c = (96 : Int32)))) ?_
  refine Eq.trans (if_neg (own_ltN (123) (by decide) (by omega) : ¬ (c < (123 : Int32)))) ?_
  refine Eq.trans (if_pos (own_gtY (191) (by decide) (by omega) : ((191 : Int32) < c))) ?_
  refine Eq.trans (if_neg (own_eqN (215) (by decide) (by omega) : ¬ (c = (215 : Int32)))) ?_
  refine Eq.trans (if_neg (own_eqN (247) (by decide) (by omega) : ¬ (c = (247 : Int32)))) ?_
  refine Eq.trans (if_pos (own_ltY (768) (by decide) (by omega) : (c < (768 : Int32)))) ?_
  refine Eq.trans (if_neg (own_eqN (894) (by decide) (by omega) : ¬ (c = (894 : Int32)))) ?_
  refine Eq.trans (if_pos (own_ltY (8192) (by decide) (by omega) : (c < (8192 : Int32)))) ?_
  refine Eq.trans (if_pos (own_ltY (8206) (by decide) (by omega) : (c < (8206 : Int32)))) ?_
  refine Eq.trans (if_pos (own_ltY (8592) (by decide) (by omega) : (c < (8592 : Int32)))) ?_
  refine Eq.trans (if_pos (own_ltY (12272) (by decide) (by omega) : (c < (12272 : Int32)))) ?_
  refine Eq.trans (if_pos (own_ltY (55296) (by decide) (by omega) : (c < (55296 : Int32)))) ?_
  refine Eq.trans (if_pos (own_ltY (64976) (by decide) (by omega) : (c < (64976 : Int32)))) ?_
  refine Eq.trans (if_pos (own_ltY (65534) (by decide) (by omega) : (c < (65534 : Int32)))) ?_
  rfl
theorem own_same_1_12 (c : Int32) (h1 : 768 ≤ c.toInt) (h2 : c.toInt < 880) : own_f1_0 c = 0 := by
  refine Eq.trans (if_neg (own_ltN (97) (by decide) (by omega) : ¬ (c < (97 : Int32)))) ?_
  refine Eq.trans (if_pos (own_gtY (122) (by decide) (by omega) : ((122 : Int32) < c))) ?_
  refine Eq.trans (if_neg (own_ltN (65) (by decide) (by omega) : ¬ (c < (65 : Int32)))) ?_
  refine Eq.trans (if_pos (own_gtY (90) (by decide) (by omega) : ((90 : Int32) < c))) ?_
  refine Eq.trans (if_neg (own_eqN (95) (by decide) (by omega) : ¬ (c = (95 : Int32)))) ?_
  refine Eq.trans (if_neg (own_ltN (192) (by decide) (by omega) : ¬ (c < (192 : Int32)))) ?_
  refine Eq.trans (if_pos (own_gtY (214) (by decide) (by omega) : ((214 : Int32) < c))) ?_
  refine Eq.trans (if_neg (own_ltN (216) (by decide) (by omega) : ¬ (c < (216 : Int32)))) ?_
  refine Eq.trans (if_pos (own_gtY (246) (by decide) (by omega) : ((246 : Int32) < c))) ?_
  refine Eq.trans (if_neg (own_ltN (248) (by decide) (by omega) : ¬ (c < (248 : Int32)))) ?_
  refine Eq.trans (if_pos (own_gtY (767) (by decide) (by omega) : ((767 : Int32) < c))) ?_
  refine Eq.trans (if_pos (own_ltY (880) (by decide) (by omega) : (c < (880 : Int32)))) ?_
  refine Eq.trans (if_pos (own_ltY (895) (by decide) (by omega) : (c < (895 : Int32)))) ?_
  refine Eq.trans (if_pos (own_ltY (8204) (by decide) (by omega) : (c < (8204 : Int32)))) ?_
  refine Eq.trans (if_pos (own_ltY (8304) (by decide) (by omega) : (c < (8304 : Int32)))) ?_
  refine Eq.trans (if_pos (own_ltY (11264) (by decide) (by omega) : (c < (11264 : Int32)))) ?_
  refine Eq.trans (if_pos (own_ltY (12289) (by decide) (by omega) : (c < (12289 : Int32)))) ?_
  refine Eq.trans (if_pos (own_ltY (63744) (by decide) (by omega) : (c < (63744 : Int32)))) ?_
  refine Eq.trans (if_pos (own_ltY (65008) (by decide) (by omega) : (c < (65008 : Int32)))) ?_
  refine Eq.trans (if_pos (own_ltY (65536) (by decide) (by omega) : (c < (65536 : Int32)))) ?_
  rfl
theorem own_same_2_12 (c : Int32) (h1 : 768 ≤ c.toInt) (h2 : c.toInt < 880) : own_f2_0 c = 0 := by
  refine Eq.trans (if_neg (own_ltN (65) (by decide) (by omega) : ¬ (c < (65 : Int32)))) ?_
  refine Eq.trans (if_neg (own_gtN (983039) (by decide) (by omega) : ¬ ((983039 : Int32) < c))) ?_
  refine Eq.trans (if_neg (own_ltN (91) (by decide) (by omega) : ¬ (c < (91 : Int32)))) ?_
  refine Eq.trans (if_pos (own_gtY (94) (by decide) (by omega) : ((94 : Int32) < c))) ?_
  refine Eq.trans (if_neg (own_eqN (96) (by decide) (by omega) : ¬ (c = (96 : Int32)))) ?_
  refine Eq.trans (if_neg (own_ltN (123) (by decide) (by omega) : ¬ (c < (123 : Int32)))) ?_
  refine Eq.trans (if_pos (own_gtY (191) (by decide) (by omega) : ((191 : Int32) < c))) ?_
  refine Eq.trans (if_neg (own_eqN (215) (by decide) (by omega) : ¬ (c = (215 : Int32)))) ?_
  refine Eq.trans (if_neg (own_eqN (247) (by decide) (by omega) : ¬ (c = (247 : Int32)))) ?_
  refine Eq.trans (if_neg (own_ltN (768) (by decide) (by omega) : ¬ (c < (768 : Int32)))) ?_
  refine Eq.trans (if_neg (own_gtN (879) (by decide) (by omega) : ¬ ((879 : Int32) < c))) ?_
  rfl
theorem own_same_1_13 (c : Int32) (h1 : 880 ≤ c.toInt) (h2 : c.toInt < 894) : own_f1_0 c = 1 := by
  refine Eq.trans (if_neg (own_ltN (97) (by decide) (by omega) : ¬ (c < (97 : Int32)))) ?_
  refine Eq.trans (if_pos (own_gtY (122) (by decide) (by omega) : ((122 : Int32) < c))) ?_
  refine Eq.trans (if_neg (own_ltN (65) (by decide) (by omega) : ¬ (c < (65 : Int32)))) ?_
  refine Eq.trans (if_pos (own_gtY (90) (by decide) (by omega) : ((90 : Int32) < c))) ?_
  refine Eq.trans (if_neg (own_eqN (95) (by decide) (by omega) : ¬ (c = (95 : Int32)))) ?_
  refine Eq.trans (if_neg (own_ltN (192) (by decide) (by omega) : ¬ (c < (192 : Int32)))) ?_
  refine Eq.trans (if_pos (own_gtY (214) (by decide) (by omega) : ((214 : Int32) < c))) ?_
  refine Eq.trans (if_neg (own_ltN (216) (by decide) (by omega) : ¬ (c < (216 : Int32)))) ?_
  refine Eq.trans (if_pos (own_gtY (246) (by decide) (by omega) : ((246 : Int32) < c))) ?_
  refine Eq.trans (if_neg (own_ltN (248) (by decide) (by omega) : ¬ (c < (248 : Int32)))) ?_
  refine Eq.trans (if_pos (own_gtY (767) (by decide) (by omega) : ((767 : Int32) < c))) ?_
  refine Eq.trans (if_neg (own_ltN (880) (by decide) (by omega) : ¬ (c < (880 : Int32)))) ?_
  refine Eq.trans (if_neg (own_gtN (893) (by decide) (by omega) : ¬ ((893 : Int32) < c))) ?_
  rfl
theorem own_same_2_13 (c : Int32) (h1 : 880 ≤ c.toInt) (h2 : c.toInt < 894) : own_f2_0 c = 1 := by
  refine Eq.trans (if_neg (own_ltN (65) (by decide) (by omega) : ¬ (c < (65 : Int32)))) ?_
  refine Eq.trans (if_neg (own_gtN (983039) (by decide) (by omega) : ¬ ((983039 : Int32) < c))) ?_
  refine Eq.trans (if_neg (own_ltN (91) (by decide) (by omega) : ¬ (c < (91 : Int32)))) ?_
  refine Eq.trans (if_pos (own_gtY (94) (by decide) (by omega) : ((94 : Int32) < c))) ?_
  refine Eq.trans (if_neg (own_eqN (96) (by decide) (by omega) : ¬ (c = (96 : Int32)))) ?_
  refine Eq.trans (if_neg (own_ltN (123) (by decide) (by omega) : ¬ (c < (123 : Int32)))) ?_
  refine Eq.trans (if_pos (own_gtY (191) (by decide) (by omega) : ((191 : Int32) < c))) ?_
  refine Eq.trans (if_neg (own_eqN (215) (by decide) (by omega) : ¬ (c = (215 : Int32)))) ?_
  refine Eq.trans (if_neg (own_eqN (247) (by decide) (by omega) : ¬ (c = (247 : Int32)))) ?_
  refine Eq.trans (if_neg (own_ltN (768) (by decide) (by omega) : ¬ (c < (768 : Int32)))) ?_
  refine Eq.trans (if_pos (own_gtY (879) (by decide) (by omega) : ((879 : Int32) < c))) ?_
  refine Eq.trans (if_neg (own_eqN (894) (by decide) (by omega) : ¬ (c = (894 : Int32)))) ?_
  refine Eq.trans (if_pos (own_ltY (8192) (by decide) (by omega) : (c < (8192 : Int32)))) ?_
  refine Eq.trans (if_pos (own_ltY (8206) (by decide) (by omega) : (c < (8206 : Int32)))) ?_
  refine Eq.trans (if_pos (own_ltY (8592) (by decide) (by omega) : (c < (8592 : Int32)))) ?_
  refine Eq.trans (if_pos (own_ltY (12272) (by decide) (by omega) : (c < (12272 : Int32)))) ?_
  refine Eq.trans (if_pos (own_ltY (55296) (by decide) (by omega) : (c < (55296 : Int32)))) ?_
  refine Eq.trans (if_pos (own_ltY (64976) (by decide) (by omega) : (c < (64976 : Int32)))) ?_
  refine Eq.trans (if_pos (own_ltY (65534) (by decide) (by omega) : (c < (65534 : Int32)))) ?_
  rfl
theorem own_same_1_14 (c : Int32) (h1 : 894 ≤ c.toInt) (h2 : c.toInt < 895) : own_f1_0 c = 0 := by
  refine Eq.trans (if_neg (own_ltN (97) (by decide) (by omega) : ¬ (c < (97 : Int32)))) ?_
  refine Eq.trans (if_pos (own_gtY (122) (by decide) (by omega) : ((122 : Int32) < c))) ?_
  refine Eq.trans (if_neg (own_ltN (65) (by decide) (by omega) : ¬ (c < (65 : Int32)))) ?_
  refine Eq.trans (if_pos (own_gtY (90) (by decide) (by omega) : ((90 : Int32) < c))) ?_
  refine Eq.trans (if_neg (own_eqN (95) (by decide) (by omega) : ¬ (c = (95 : Int32)))) ?_
  refine Eq.trans (if_neg (own_ltN (192) (by decide) (by omega) : ¬ (c < (192 : Int32)))) ?_
  refine Eq.trans (if_pos (own_gtY (214) (by decide) (by omega) : ((214 : Int32) < c))) ?_
  refine Eq.trans (if_neg (own_ltN (216) (by decide) (by omega) : ¬ (c < (216 : Int32)))) ?_
  refine Eq.trans (if_pos (own_gtY (246) (by decide) (by omega) : ((246 : Int32) < c))) ?_
  refine Eq.trans (if_neg (own_ltN (248) (by decide) (by omega) : ¬ (c < (248 : Int32)))) ?_
  refine Eq.trans (if_pos (own_gtY (767) (by decide) (by omega) : ((767 : Int32) < c))) ?_
  refine Eq.trans (if_neg (own_ltN (880) (by decide) (by omega) : ¬ (c < (880 : Int32)))) ?_
  refine Eq.trans (if_pos (own_gtY (893) (by decide) (by omega) : ((893 : Int32) < c))) ?_
  refine Eq.trans (if_pos (own_ltY (895) (by decide) (by omega) : (c < (895 : Int32)))) ?_
  refine Eq.trans (if_pos (own_ltY (8204) (by decide) (by omega) : (c < (8204 : Int32)))) ?_
  refine Eq.trans (if_pos (own_ltY (8304) (by decide) (by omega) : (c < (8304 : Int32)))) ?_
  refine Eq.trans (if_pos (own_ltY (11264) (by decide) (by omega) : (c < (11264 : Int32)))) ?_
  refine Eq.trans (if_pos (own_ltY (12289) (by decide) (by omega) : (c < (12289 : Int32)))) ?_
  refine Eq.trans (if_pos (own_ltY (63744) (by decide) (by omega) : (c < (63744 : Int32)))) ?_
  refine Eq.trans (if_pos (own_ltY (65008) (by decide) (by omega) : (c < (65008 : Int32)))) ?_
  refine Eq.trans (if_pos (own_ltY (65536) (by decide) (by omega) : (c < (65536 : Int32)))) ?_
  rfl
theorem own_same_2_14 (c : Int32) (h1 : 894 ≤ c.toInt) (h2 : c.toInt < 895) : own_f2_0 c = 0 := by
  refine Eq.trans (if_neg (own_ltN (65) (by decide) (by omega) : ¬ (c < (65 : Int32)))) ?_
  refine Eq.trans (if_neg (own_gtN (983039) (by decide) (by omega) : ¬ ((983039 : Int32) < c))) ?_
  refine Eq.trans (if_neg (own_ltN (91) (by decide) (by omega) : ¬ (c < (91 : Int32)))) ?_
  refine Eq.trans (if_pos (own_gtY (94) (by decide) (by omega) : ((94 : Int32) < c))) ?_
  refine Eq.trans (if_neg (own_eqN (96) (by decide) (by omega) : ¬ (c = (96 : Int32)))) ?_
  refine Eq.trans (if_neg (own_ltN (123) (by decide) (by omega) : ¬ (c < (123 : Int32)))) ?_
  refine Eq.trans (if_pos (own_gtY (191) (by decide) (by omega) : ((191 : Int32) < c))) ?_
  refine Eq.trans (if_neg (own_eqN (215) (by decide) (by omega) : ¬ (c = (215 : Int32)))) ?_
  refine Eq.trans (if_neg (own_eqN (247) (by decide) (by omega) : ¬ (c = (247 : Int32)))) ?_
  refine Eq.trans (if_neg (own_ltN (768) (by decide) (by omega) : ¬ (c < (768 : Int32)))) ?_
  refine Eq.trans (if_pos (own_gtY (879) (by decide) (by omega) : ((879 : Int32) < c))) ?_
  refine Eq.trans (if_pos (own_eqY (894) (by decide) (by omega) : (c = (894 : Int32)))) ?_
  rfl
theorem own_same_1_15 (c : Int32) (h1 : 895 ≤ c.toInt) (h2 : c.toInt < 8192) : own_f1_0 c = 1 := by
  refine Eq.trans (if_neg (own_ltN (97) (by decide) (by omega) : ¬ (c < (97 : Int32)))) ?_
  refine Eq.trans (if_pos (own_gtY (122) (by decide) (by omega) : ((122 : Int32) < c))) ?_
  refine Eq.trans (if_neg (own_ltN (65) (by decide) (by omega) : ¬ (c < (65 : Int32)))) ?_
  refine Eq.trans (if_pos (own_gtY (90) (by decide) (by omega) : ((90 : Int32) < c))) ?_
  refine Eq.trans (if_neg (own_eqN (95) (by decide) (by omega) : ¬ (c = (95 : Int32)))) ?_
  refine Eq.trans (if_neg (own_ltN (192) (by decide) (by omega) : ¬ (c < (192 : Int32)))) ?_
  refine Eq.trans (if_pos (own_gtY (214) (by decide) (by omega) : ((214 : Int32) < c))) ?_
  refine Eq.trans (if_neg (own_ltN (216) (by decide) (by omega) : ¬ (c < (216 : Int32)))) ?_
  refine Eq.trans (if_pos (own_gtY (246) (by decide) (by omega) : ((246 : Int32) < c))) ?_
  refine Eq.trans (if_neg (own_ltN (248) (by decide) (by omega) : ¬ (c < (248 : Int32)))) ?_
  refine Eq.trans (if_pos (own_gtY (767) (by decide) (by omega) : ((767 : Int32) < c))) ?_
  refine Eq.trans (if_neg (own_ltN (880) (by decide) (by omega) : ¬ (c < (880 : Int32)))) ?_
  refine Eq.trans (if_pos (own_gtY (893) (by decide) (by omega) : ((893 : Int32) < c))) ?_
  refine Eq.trans (if_neg (own_ltN (895) (by decide) (by omega) : ¬ (c < (895 : Int32)))) ?_
  refine Eq.trans (if_neg (own_gtN (8191) (by decide) (by omega) : ¬ ((8191 : Int32) < c))) ?_
  rfl
theorem own_same_2_15 (c : Int32) (h1 : 895 ≤ c.toInt) (h2 : c.toInt < 8192) : own_f2_0 c = 1 := by
  refine Eq.trans (if_neg (own_ltN (65) (by decide) (by omega) : ¬ (c < (65 : Int32)))) ?_
  refine Eq.trans (if_neg (own_gtN (983039) (by decide) (by omega) : ¬ ((983039 : Int32) < c))) ?_
  refine Eq.trans (if_neg (own_ltN (91) (by decide) (by omega) : ¬ (c < (91 : Int32)))) ?_
  refine Eq.trans (if_pos (own_gtY (94) (by decide) (by omega) : ((94 : Int32) < c))) ?_
  refine Eq.trans (if_neg (own_eqN (96) (by decide) (by omega) : ¬ (c = (96 : Int32)))) ?_
  refine Eq.trans (if_neg (own_ltN (123) (by decide) (by omega) : ¬ (c < (123 : Int32)))) ?_
  refine Eq.trans (if_pos (own_gtY (191) (by decide) (by omega) : ((191 : Int32) < c))) ?_
  refine Eq.trans (if_neg (own_eqN (215) (by decide) (by omega) : ¬ (c = (215 : Int32)))) ?_
  refine Eq.trans (if_neg (own_eqN (247) (by decide) (by omega) : ¬ (c = (247 : Int32)))) ?_
  refine Eq.trans (if_neg (own_ltN (768) (by decide) (by omega) : ¬ (c < (768 : Int32)))) ?_
  refine Eq.trans (if_pos (own_gtY (879) (by decide) (by omega) : ((879 : Int32) < c))) ?_
  refine Eq.trans (if_neg (own_eqN (894) (by decide) (by omega) : ¬ (c = (894 : Int32)))) ?_
  refine Eq.trans (if_pos (own_ltY (8192) (by decide) (by omega) : (c < (8192 : Int32)))) ?_
  refine Eq.trans (if_pos (own_ltY (8206) (by decide) (by omega) : (c < (8206 : Int32)))) ?_
  refine Eq.trans (if_pos (own_ltY (8592) (by decide) (by omega) : (c < (8592 : Int32)))) ?_
  refine Eq.trans (if_pos (own_ltY (12272) (by decide) (by omega) : (c < (12272 : Int32)))) ?_
  refine Eq.trans (if_pos (own_ltY (55296) (by decide) (by omega) : (c < (55296 : Int32)))) ?_
  refine Eq.trans (if_pos (own_ltY (64976) (by decide) (by omega) : (c < (64976 : Int32)))) ?_
  refine Eq.trans (if_pos (own_ltY (65534) (by decide) (by omega) : (c < (65534 : Int32)))) ?_
  rfl
theorem own_same_1_16 (c : Int32) (h1 : 8192 ≤ c.toInt) (h2 : c.toInt < 8204) : own_f1_0 c = 0 := by
  refine Eq.trans (if_neg (own_ltN (97) (by decide) (by omega) : ¬ (c < (97 : Int32)))) ?_
  refine Eq.trans (if_pos (own_gtY (122) (by decide) (by omega) : ((122 : Int32) < c))) ?_
  refine Eq.trans (if_neg (own_ltN (65) (by decide) (by omega) : ¬ (c < (65 : Int32)))) ?_
  refine Eq.trans (if_pos (own_gtY (90) (by decide) (by omega) : ((90 : Int32) < c))) ?_
  refine Eq.trans (if_neg (own_eqN (95) (by decide) (by omega) : ¬ (c = (95 : Int32)))) ?_
  refine Eq.trans (if_neg (own_ltN (192) (by decide) (by omega) : ¬ (c < (192 : Int32)))) ?_
  refine Eq.trans (if_pos (own_gtY (214) (by decide) (by omega) : ((214 : Int32) < c))) ?_
  refine Eq.trans (if_neg (own_ltN (216) (by decide) (by omega) : ¬ (c < (216 : Int32)))) ?_
  refine Eq.trans (if_pos (own_gtY (246) (by decide) (by omega) : ((246 : Int32) < c))) ?_
  refine Eq.trans (if_neg (own_ltN (248) (by decide) (by omega) : ¬ (c < (248 : Int32)))) ?_
  refine Eq.trans (if_pos (own_gtY (767) (by decide) (by omega) : ((767 : Int32) < c))) ?_
  refine Eq.trans (if_neg (own_ltN (880) (by decide) (by omega) : ¬ (c < (880 : Int32)))) ?_
  refine Eq.trans (if_pos (own_gtY (893) (by decide) (by omega) : ((893 : Int32) < c))) ?_
  refine Eq.trans (if_neg (own_ltN (895) (by decide) (by omega) : ¬ (c < (895 : Int32)))) ?_
  refine Eq.trans (if_pos (own_gtY (8191) (by decide) (by omega) : ((8191 : Int32) < c))) ?_
  refine Eq.trans (if_pos (own_ltY (8204) (by decide) (by omega) : (c < (8204 : Int32)))) ?_
  refine Eq.trans (if_pos (own_ltY (8304) (by decide) (by omega) : (c < (8304 : Int32)))) ?_
  refine Eq.trans (if_pos (own_ltY (11264) (by decide) (by omega) : (c < (11264 : Int32)))) ?_
  refine Eq.trans (if_pos (own_ltY (12289) (by decide) (by omega) : (c < (12289 : Int32)))) ?_
  refine Eq.trans (if_pos (own_ltY (63744) (by decide) (by omega) : (c < (63744 : Int32)))) ?_
  refine Eq.trans (if_pos (own_ltY (65008) (by decide) (by omega) : (c < (65008 : Int32)))) ?_
  refine Eq.trans (if_pos (own_ltY (65536) (by decide) (by omega) : (c < (65536 : Int32)))) ?_
  rfl
theorem own_same_2_16 (c : Int32) (h1 : 8192 ≤ c.toInt) (h2 : c.toInt < 8204) : own_f2_0 c = 0 := by
  refine Eq.trans (if_neg (own_ltN (65) (by decide) (by omega) : ¬ (c < (65 : Int32)))) ?_
  refine Eq.trans (if_neg (own_gtN (983039) (by decide) (by omega) : ¬ ((983039 : Int32) < c))) ?_
  refine Eq.trans (if_neg (own_ltN (91) (by decide) (by omega) : ¬ (c < (91 : Int32)))) ?_
  refine Eq.trans (if_pos (own_gtY (94) (by decide) (by omega) : ((94 : Int32) < c))) ?_
  refine Eq.trans (if_neg (own_eqN (96) (by decide) (by omega) : ¬ (c = (96 : Int32)))) ?_
  refine Eq.trans (if_neg (own_ltN (123) (by decide) (by omega) : ¬ (c < (123 : Int32)))) ?_
  refine Eq.trans (if_pos (own_gtY (191) (by decide) (by omega) : ((191 : Int32) < c))) ?_
  refine Eq.trans (if_neg (own_eqN (215) (by decide) (by omega) : ¬ (c = (215 : Int32)))) ?_
  refine Eq.trans (if_neg (own_eqN (247) (by decide) (by omega) : ¬ (c = (247 : Int32)))) ?_
  refine Eq.trans (if_neg (own_ltN (768) (by decide) (by omega) : ¬ (c < (768 : Int32)))) ?_
  refine Eq.trans (if_pos (own_gtY (879) (by decide) (by omega) : ((879 : Int32) < c))) ?_
  refine Eq.trans (if_neg (own_eqN (894) (by decide) (by omega) : ¬ (c = (894 : Int32)))) ?_
  refine Eq.trans (if_neg (own_ltN (8192) (by decide) (by omega) : ¬ (c < (8192 : Int32)))) ?_
  refine Eq.trans (if_neg (own_gtN (8203) (by decide) (by omega) : ¬ ((8203 : Int32) < c))) ?_
  rfl
theorem own_same_1_17 (c : Int32) (h1 : 8204 ≤ c.toInt) (h2 : c.toInt < 8206) : own_f1_0 c = 1 := by
  refine Eq.trans (if_neg (own_ltN (97) (by decide) (by omega) : ¬ (c < (97 : Int32)))) ?_
  refine Eq.trans (if_pos (own_gtY (122) (by decide) (by omega) : ((122 : Int32) < c))) ?_
  refine Eq.trans (if_neg (own_ltN (65) (by decide) (by omega) : ¬ (c < (65 : Int32)))) ?_
  refine Eq.trans (if_pos (own_gtY (90) (by decide) (by omega) : ((90 : Int32) < c))) ?_
  refine Eq.trans (if_neg (own_eqN (95) (by decide) (by omega) : ¬ (c = (95 : Int32)))) ?_
  refine Eq.trans (if_neg (own_ltN (192) (by decide) (by omega) : ¬ (c < (192 : Int32)))) ?_
  refine Eq.trans (if_pos (own_gtY (214) (by decide) (by omega) : ((214 : Int32) < c))) ?_
  refine Eq.trans (if_neg (own_ltN (216) (by decide) (by omega) : ¬ (c < (216 : Int32)))) ?_
  refine Eq.trans (if_pos (own_gtY (246) (by decide) (by omega) : ((246 : Int32) < c))) ?_
  refine Eq.trans (if_neg (own_ltN (248) (by decide) (by omega) : ¬ (c < (248 : Int32)))) ?_
  refine Eq.trans (if_pos (own_gtY (767) (by decide) (by omega) : ((767 : Int32) < c))) ?_
  refine Eq.trans (if_neg (own_ltN (880) (by decide) (by omega) : ¬ (c < (880 : Int32)))) ?_
  refine Eq.trans (if_pos (own_gtY (893) (by decide) (by omega) : ((893 : Int32) < c))) ?_
  refine Eq.trans (if_neg (own_ltN (895) (by decide) (by omega) : ¬ (c < (895 : Int32)))) ?_
  refine Eq.trans (if_pos (own_gtY (8191) (by decide) (by omega) : ((8191 : Int32) < c))) ?_
  refine Eq.trans (if_neg (own_ltN (8204) (by decide) (by omega) : ¬ (c < (8204 : Int32)))) ?_
  refine Eq.trans (if_neg (own_gtN (8205) (by decide) (by omega) : ¬ ((8205 : Int32) < c))) ?_
  rfl
theorem own_same_2_17 (c : Int32) (h1 : 8204 ≤ c.toInt) (h2 : c.toInt < 8206) : own_f2_0 c = 1 := by
  refine Eq.trans (if_neg (own_ltN (65) (by decide) (by omega) : ¬ (c < (65 : Int32)))) ?_
  refine Eq.trans (if_neg (own_gtN (983039) (by decide) (by omega) : ¬ ((983039 : Int32) < c))) ?_
  refine Eq.trans (if_neg (own_ltN (91) (by decide) (by omega) : ¬ (c < (91 : Int32)))) ?_
  refine Eq.trans (if_pos (own_gtY (94) (by decide) (by omega) : ((94 : Int32) < c))) ?_
  refine Eq.trans (if_neg (own_eqN (96) (by decide) (by omega) : ¬ (c = (96 : Int32)))) ?_
  refine Eq.trans (if_neg (own_ltN (123) (by decide) (by omega) : ¬ (c < (123 : Int32)))) ?_
  refine Eq.trans (if_pos (own_gtY (191) (by decide) (by omega) : ((191 : Int32) < c))) ?_
  refine Eq.trans (if_neg (own_eqN (215) (by decide) (by omega) : ¬ (c = (215 : Int32)))) ?_
  refine Eq.trans (if_neg (own_eqN (247) (by decide) (by omega) : ¬ (c = (247 : Int32)))) ?_
  refine Eq.trans (if_neg (own_ltN (768) (by decide) (by omega) : ¬ (c < (768 : Int32)))) ?_
  refine Eq.trans (if_pos (own_gtY (879) (by decide) (by omega) : ((879 : Int32) < c))) ?_
  refine Eq.trans (if_neg (own_eqN (894) (by decide) (by omega) : ¬ (c = (894 : Int32)))) ?_
  refine Eq.trans (if_neg (own_ltN (8192) (by decide) (by omega) : ¬ (c < (8192 : Int32)))) ?_
  refine Eq.trans (if_pos (own_gtY (8203) (by decide) (by omega) : ((8203 : Int32) < c))) ?_
  refine Eq.trans (if_pos (own_ltY (8206) (by decide) (by omega) : (c < (8206 : Int32)))) ?_
  refine Eq.trans (if_pos (own_ltY (8592) (by decide) (by omega) : (c < (8592 : Int32)))) ?_
  refine Eq.trans (if_pos (own_ltY (12272) (by decide) (by omega) : (c < (12272 : Int32)))) ?_
  refine Eq.trans (if_pos (own_ltY (55296) (by decide) (by omega) : (c < (55296 : Int32)))) ?_
  refine Eq.trans (if_pos (own_ltY (64976) (by decide) (by omega) : (c < (64976 : Int32)))) ?_
  refine Eq.trans (if_pos (own_ltY (65534) (by decide) (by omega) : (c < (65534 : Int32)))) ?_
  rfl
theorem own_same_1_18 (c : Int32) (h1 : 8206 ≤ c.toInt) (h2 : c.toInt < 8304) : own_f1_0 c = 0 := by
  refine Eq.trans (if_neg (own_ltN (97) (by decide) (by omega) : ¬ (c < (97 : Int32)))) ?_
  refine Eq.trans (if_pos (own_gtY (122) (by decide) (by omega) : ((122 : Int32) < c))) ?_
  refine Eq.trans (if_neg (own_ltN (65) (by decide) (by omega) : ¬ (c < (65 : Int32)))) ?_
  refine Eq.trans (if_pos (own_gtY (90) (by decide) (by omega) : ((90 : Int32) < c))) ?_
  refine Eq.trans (if_neg (own_eqN (95) (by decide) (by omega) : ¬ (c = (95 : Int32)))) ?_
  refine Eq.trans (if_neg (own_ltN (192) (by decide) (by omega) : ¬ (c < (192 : Int32)))) ?_
  refine Eq.trans (if_pos (own_gtY (214) (by decide) (by omega) : ((214 : Int32) < c))) ?_
  refine Eq.trans (if_neg (own_ltN (216) (by decide) (by omega) : ¬ (c < (216 : Int32)))) ?_
  refine Eq.trans (if_pos (own_gtY (246) (by decide) (by omega) : ((246 : Int32) < c))) ?_
  refine Eq.trans (if_neg (own_ltN (248) (by decide) (by omega) : ¬ (c < (248 : Int32)))) ?_
  refine Eq.trans (if_pos (own_gtY (767) (by decide) (by omega) : ((767 : Int32) < c))) ?_
  refine Eq.trans (if_neg (own_ltN (880) (by decide) (by omega) : ¬ (c < (880 : Int32)))) ?_
  refine Eq.trans (if_pos (own_gtY (893) (by decide) (by omega) : ((893 : Int32) < c))) ?_
  refine Eq.trans (if_neg (own_ltN (895) (by decide) (by omega) : ¬ (c < (895 : Int32)))) ?_
  refine Eq.trans (if_pos (own_gtY (8191) (by decide) (by omega) : ((8191 : Int32) < c))) ?_
  refine Eq.trans (if_neg (own_ltN (8204) (by decide) (by omega) : ¬ (c < (8204 : Int32)))) ?_
  refine Eq.trans (if_pos (own_gtY (8205) (by decide) (by omega) : ((8205 : Int32) < c))) ?_
  refine Eq.trans (if_pos (own_ltY (8304) (by decide) (by omega) : (c < (8304 : Int32)))) ?_
  refine Eq.trans (if_pos (own_ltY (11264) (by decide) (by omega) : (c < (11264 : Int32)))) ?_
  refine Eq.trans (if_pos (own_ltY (12289) (by decide) (by omega) : (c < (12289 : Int32)))) ?_
  refine Eq.trans (if_pos (own_ltY (63744) (by decide) (by omega) : (c < (63744 : Int32)))) ?_
  refine Eq.trans (if_pos (own_ltY (65008) (by decide) (by omega) : (c < (65008 : Int32)))) ?_
  refine Eq.trans (if_pos (own_ltY (65536) (by decide) (by omega) : (c < (65536 : Int32)))) ?_
  rfl
theorem own_same_2_18 (c : Int32) (h1 : 8206 ≤ c.toInt) (h2 : c.toInt < 8304) : own_f2_0 c = 0 := by
  refine Eq.trans (if_neg (own_ltN (65) (by decide) (by omega) : ¬ (c < (65 : Int32)))) ?_
  refine Eq.trans (if_neg (own_gtN (983039) (by decide) (by omega) : ¬ ((983039 : Int32) < c))) ?_
  refine Eq.trans (if_neg (own_ltN (91) (by decide) (by omega) : ¬ (c < (91 : Int32)))) ?_
  refine Eq.trans (if_pos (own_gtY (94) (by decide) (by omega) : ((94 : Int32) < c))) ?_
  refine Eq.trans (if_neg (own_eqN (96) (by decide) (by omega) : ¬ (c = (96 : Int32)))) ?_
  refine Eq.trans (if_neg (own_ltN (123) (by decide) (by omega) : ¬ (c < (123 : Int32)))) ?_
  refine Eq.trans (if_pos (own_gtY (191) (by decide) (by omega) : ((191 : Int32) < c))) ?_
  refine Eq.trans (if_neg (own_eqN (215) (by decide) (by omega) : ¬ (c = (215 : Int32)))) ?_
  refine Eq.trans (if_neg (own_eqN (247) (by decide) (by omega) : ¬ (c = (247 : Int32)))) ?_
  refine Eq.trans (if_neg (own_ltN (768) (by decide) (by omega) : ¬ (c < (768 : Int32)))) ?_
  refine Eq.trans (if_pos (own_gtY (879) (by decide) (by omega) : ((879 : Int32) < c))) ?_
  refine Eq.trans (if_neg (own_eqN (894) (by decide) (by omega) : ¬ (c = (894 : Int32)))) ?_
  refine Eq.trans (if_neg (own_ltN (8192) (by decide) (by omega) : ¬ (c < (8192 : Int32)))) ?_
  refine Eq.trans (if_pos (own_gtY (8203) (by decide) (by omega) : ((8203 : Int32) < c))) ?_
  refine Eq.trans (if_neg (own_ltN (8206) (by decide) (by omega) : ¬ (c < (8206 : Int32)))) ?_
  refine Eq.trans (if_neg (own_gtN (8303) (by decide) (by omega) : ¬ ((8303 : Int32) < c))) ?_
  rfl
theorem own_same_1_19 (c : Int32) (h1 : 8304 ≤ c.toInt) (h2 : c.toInt < 8592) : own_f1_0 c = 1 := by
  refine Eq.trans (if_neg (own_ltN (97) (by decide) (by omega) : ¬ (c < (97 : Int32)))) ?_
  refine Eq.trans (if_pos (own_gtY (122) (by decide) (by omega) : ((122 : Int32) < c))) ?_
  refine Eq.trans (if_neg (own_ltN (65) (by decide) (by omega) : ¬ (c < (65 : Int32)))) ?_
  refine Eq.trans (if_pos (own_gtY (90) (by decide) (by omega) : ((90 : Int32) < c))) ?_
  refine Eq.trans (if_neg (own_eqN (95) (by decide) (by omega) : ¬ (c = (95 : Int32)))) ?_
  refine Eq.trans (if_neg (own_ltN (192) (by decide) (by omega) : ¬ (c < (192 : Int32)))) ?_
  refine Eq.trans (if_pos (own_gtY (214) (by decide) (by omega) : ((214 : Int32) < c))) ?_
  refine Eq.trans (if_neg (own_ltN (216) (by decide) (by omega) : ¬ (c < (216 : Int32)))) ?_
  refine Eq.trans (if_pos (own_gtY (246) (by decide) (by omega) : ((246 : Int32) < c))) ?_
  refine Eq.trans (if_neg (own_ltN (248) (by decide) (by omega) : ¬ (c < (248 : Int32)))) ?_
  refine Eq.trans (if_pos (own_gtY (767) (by decide) (by omega) : ((767 : Int32) < c))) ?_
  refine Eq.trans (if_neg (own_ltN (880) (by decide) (by omega) : ¬ (c < (880 : Int32)))) ?_
  refine Eq.trans (if_pos (own_gtY (893) (by decide) (by omega) : ((893 : Int32) < c))) ?_
  refine Eq.trans (if_neg (own_ltN (895) (by decide) (by omega) : ¬ (c < (895 : Int32)))) ?_
  refine Eq.trans (if_pos (own_gtY (8191) (by decide) (by omega) : ((8191 : Int32) < c))) ?_
  refine Eq.trans (if_neg (own_ltN (8204) (by decide) (by omega) : ¬ (c < (8204 : Int32)))) ?_
  refine Eq.trans (if_pos (own_gtY (8205) (by decide) (by omega) : ((8205 : Int32) < c))) ?_
  refine Eq.trans (if_neg (own_ltN (8304) (by decide) (by omega) : ¬ (c < (8304 : Int32)))) ?_
  refine Eq.trans (if_neg (own_gtN (8591) (by decide) (by omega) : ¬ ((8591 : Int32) < c))) ?_
  rfl
theorem own_same_2_19 (c : Int32) (h1 : 8304 ≤ c.toInt) (h2 : c.toInt < 8592) : own_f2_0 c = 1 := by
  refine Eq.trans (if_neg (own_ltN (65) (by decide) (by omega) : ¬ (c < (65 : Int32)))) ?_
  refine Eq.trans (if_neg (own_gtN (983039) (by decide) (by omega) : ¬ ((983039 : Int32) < c))) ?_
  refine Eq.trans (if_neg (own_ltN (91) (by decide) (by omega) : ¬ (c < (91 : Int32)))) ?_
  refine Eq.trans (if_pos (own_gtY (94) (by decide) (by omega) : ((94 : Int32) < c))) ?_
  refine Eq.trans (if_neg (own_eqN (96) (by decide) (by omega) : ¬ (c = (96 : Int32)))) ?_
  refine Eq.trans (if_neg (own_ltN (123) (by decide) (by omega) : ¬ (c < (123 : Int32)))) ?_
  refine Eq.trans (if_pos (own_gtY (191) (by decide) (by omega) : ((191 : Int32) < c))) ?_
  refine Eq.trans (if_neg (own_eqN (215) (by decide) (by omega) : ¬ (c = (215 : Int32)))) ?_
  refine Eq.trans (if_neg (own_eqN (247) (by decide) (by omega) : ¬ (c = (247 : Int32)))) ?_
  refine Eq.trans (if_neg (own_ltN (768) (by decide) (by omega) : ¬ (c < (768 : Int32)))) ?_
  refine Eq.trans (if_pos (own_gtY (879) (by decide) (by omega) : ((879 : Int32) < c))) ?_
  refine Eq.trans (if_neg (own_eqN (894) (by decide) (by omega) : ¬ (c = (894 : Int32)))) ?_
  refine Eq.trans (if_neg (own_ltN (8192) (by decide) (by omega) : ¬ (c < (8192 : Int32)))) ?_
  refine Eq.trans (if_pos (own_gtY (8203) (by decide) (by omega) : ((8203 : Int32) < c))) ?_
  refine Eq.trans (if_neg (own_ltN (8206) (by decide) (by omega) : ¬ (c < (8206 : Int32)))) ?_
  refine Eq.trans (if_pos (own_gtY (8303) (by decide) (by omega) : ((8303 : Int32) < c))) ?_
  refine Eq.trans (if_pos (own_ltY (8592) (by decide) (by omega) : (c < (8592 : Int32)))) ?_
  refine Eq.trans (if_pos (own_ltY (12272) (by decide) (by omega) : (c < (12272 : Int32)))) ?_
  refine Eq.trans (if_pos (own_ltY (55296) (by decide) (by omega) : (c < (55296 : Int32)))) ?_
  refine Eq.trans (if_pos (own_ltY (64976) (by decide) (by omega) : (c < (64976 : Int32)))) ?_
  refine Eq.trans (if_pos (own_ltY (65534) (by decide) (by omega) : (c < (65534 : Int32)))) ?_
  rfl
theorem own_same_1_20 (c : Int32) (h1 : 8592 ≤ c.toInt) (h2 : c.toInt < 11264) : own_f1_0 c = 0 := by
  refine Eq.trans (if_neg (own_ltN (97) (by decide) (by omega) : ¬ (c < (97 : Int32)))) ?_
  refine Eq.trans (if_pos (own_gtY (122) (by decide) (by omega) : ((122 : Int32) < c))) ?_
  refine Eq.trans (if_neg (own_ltN (65) (by decide) (by omega) : ¬ (c < (65 : Int32)))) ?_
  refine Eq.trans (if_pos (own_gtY (90) (by decide) (by omega) : ((90 : Int32) < c))) ?_
  refine Eq.trans (if_neg (own_eqN (95) (by decide) (by omega) : ¬ (c = (95 : Int32)))) ?_
  refine Eq.trans (if_neg (own_ltN (192) (by decide) (by omega) : ¬ (c < (192 : Int32)))) ?_
  refine Eq.trans (if_pos (own_gtY (214) (by decide) (by omega) : ((214 : Int32) < c))) ?_
  refine Eq.trans (if_neg (own_ltN (216) (by decide) (by omega) : ¬ (c < (216 : Int32)))) ?_
  refine Eq.trans (if_pos (own_gtY (246) (by decide) (by omega) : ((246 : Int32) < c))) ?_
  refine Eq.trans (if_neg (own_ltN (248) (by decide) (by omega) : ¬ (c < (248 : Int32)))) ?_
  refine Eq.trans (if_pos (own_gtY (767) (by decide) (by omega) : ((767 : Int32) < c))) ?_
  refine Eq.trans (if_neg (own_ltN (880) (by decide) (by omega) : ¬ (c < (880 : Int32)))) ?_
  refine Eq.trans (if_pos (own_gtY (893) (by decide) (by omega) : ((893 : Int32) < c))) ?_
  refine Eq.trans (if_neg (own_ltN (895) (by decide) (by omega) : ¬ (c < (895 : Int32)))) ?_
  refine Eq.trans (if_pos (own_gtY (8191) (by decide) (by omega) : ((8191 : Int32) < c))) ?_
  refine Eq.trans (if_neg (own_ltN (8204) (by decide) (by omega) : ¬ (c < (8204 : Int32)))) ?_
  refine Eq.trans (if_pos (own_gtY (8205) (by decide) (by omega) : ((8205 : Int32) < c))) ?_
  refine Eq.trans (if_neg (own_ltN (8304) (by decide) (by omega) : ¬ (c < (8304 : Int32)))) ?_
  refine Eq.trans (if_pos (own_gtY (8591) (by decide) (by omega) : ((8591 : Int32) < c))) ?_
  refine Eq.trans (if_pos (own_ltY (11264) (by decide) (by omega) : (c < (11264 : Int32)))) ?_
  refine Eq.trans (if_pos (own_ltY (12289) (by decide) (by omega) : (c < (12289 : Int32)))) ?_
  refine Eq.trans (if_pos (own_ltY (63744) (by decide) (by omega) : (c < (63744 : Int32)))) ?_
  refine Eq.trans (if_pos (own_ltY (65008) (by decide) (by omega) : (c < (65008 : Int32)))) ?_
  refine Eq.trans (if_pos (own_ltY (65536) (by decide) (by omega) : (c < (65536 : Int32)))) ?_
  rfl
theorem own_same_2_20 (c : Int32) (h1 : 8592 ≤ c.toInt) (h2 : c.toInt < 11264) : own_f2_0 c = 0 := by
  refine Eq.trans (if_neg (own_ltN (65) (by decide) (by omega) : ¬ (c < (65 : Int32)))) ?_
  refine Eq.trans (if_neg (own_gtN (983039) (by decide) (by omega) : ¬ ((983039 : Int32) < c))) ?_
  refine Eq.trans (if_neg (own_ltN (91) (by decide) (by omega) : ¬ (c < (91 : Int32)))) ?_
  refine Eq.trans (if_pos (own_gtY (94) (by decide) (by omega) : ((94 : Int32) < c))) ?_
  refine Eq.trans (if_neg (own_eqN (96) (by decide) (by omega) : ¬ (c = (96 : Int32)))) ?_
  refine Eq.trans (if_neg (own_ltN (123) (by decide) (by omega) : ¬ (c < (123 : Int32)))) ?_
  refine Eq.trans (if_pos (own_gtY (191) (by decide) (by omega) : ((191 : Int32) < c))) ?_
  refine Eq.trans (if_neg (own_eqN (215) (by decide) (by omega) : ¬ (c = (215 : Int32)))) ?_
  refine Eq.trans (if_neg (own_eqN (247) (by decide) (by omega) : ¬ (c = (247 : Int32)))) ?_
  refine Eq.trans (if_neg (own_ltN (768) (by decide) (by omega) : ¬ (c < (768 : Int32)))) ?_
  refine Eq.trans (if_pos (own_gtY (879) (by decide) (by omega) : ((879 : Int32) < c))) ?_
  refine Eq.trans (if_neg (own_eqN (894) (by decide) (by omega) : ¬ (c = (894 : Int32)))) ?_
  refine Eq.trans (if_neg (own_ltN (8192) (by decide) (by omega) : ¬ (c < (8192 : Int32)))) ?_
  refine Eq.trans (if_pos (own_gtY (8203) (by decide) (by omega) : ((8203 : Int32) < c))) ?_
  refine Eq.trans (if_neg (own_ltN (8206) (by decide) (by omega) : ¬ (c < (8206 : Int32)))) ?_
  refine Eq.trans (if_pos (own_gtY (8303) (by decide) (by omega) : ((8303 : Int32) < c))) ?_
  refine Eq.trans (if_neg (own_ltN (8592) (by decide) (by omega) : ¬ (c < (8592 : Int32)))) ?_
  refine Eq.trans (if_neg (own_gtN (11263) (by decide) (by omega) : ¬ ((11263 : Int32) < c))) ?_
  rfl
theorem own_same_1_21 (c : Int32) (h1 : 11264 ≤ c.toInt) (h2 : c.toInt < 12272) : own_f1_0 c = 1 := by
  refine Eq.trans (if_neg (own_ltN (97) (by decide) (by omega) : ¬ (c < (97 : Int32)))) ?_
  refine Eq.trans (if_pos (own_gtY (122) (by decide) (by omega) : ((122 : Int32) < c))) ?_
  refine Eq.trans (if_neg (own_ltN (65) (by decide) (by omega) : ¬ (c < (65 : Int32)))) ?_
  refine Eq.trans (if_pos (own_gtY (90) (by decide) (by omega) : ((90 : Int32) < c))) ?_
  refine Eq.trans (if_neg (own_eqN (95) (by decide) (by omega) : ¬ (c = (95 : Int32)))) ?_
  refine Eq.trans (if_neg (own_ltN (192) (by decide) (by omega) : ¬ (c < (192 : Int32)))) ?_
  refine Eq.trans (if_pos (own_gtY (214) (by decide) (by omega) : ((214 : Int32) < c))) ?_
  refine Eq.trans (if_neg (own_ltN (216) (by decide) (by omega) : ¬ (c < (216 : Int32)))) ?_
  refine Eq.trans (if_pos (own_gtY (246) (by decide) (by omega) : ((246 : Int32) < c))) ?_
  refine Eq.trans (if_neg (own_ltN (248) (by decide) (by omega) : ¬ (c < (248 : Int32)))) ?_
  refine Eq.trans (if_pos (own_gtY (767) (by decide) (by omega) : ((767 : Int32) < c))) ?_
  refine Eq.trans (if_neg (own_ltN (880) (by decide) (by omega) : ¬ (c < (880 : Int32)))) ?_
  refine Eq.trans (if_pos (own_gtY (893) (by decide) (by omega) : ((893 : Int32) < c))) ?_
  refine Eq.trans (if_neg (own_ltN (895) (by decide) (by omega) : ¬ (c < (895 : Int32)))) ?_
  refine Eq.trans (if_pos (own_gtY (8191) (by decide) (by omega) : ((8191 : Int32) < c))) ?_
  refine Eq.trans (if_neg (own_ltN (8204) (by decide) (by omega) : ¬ (c < (8204 : Int32)))) ?_
  refine Eq.trans (if_pos (own_gtY (8205) (by decide) (by omega) : ((8205 : Int32) < c))) ?_
  refine Eq.trans (if_neg (own_ltN (8304) (by decide) (by omega) : ¬ (c < (8304 : Int32)))) ?_
  refine Eq.trans (if_pos (own_gtY (8591) (by decide) (by omega) : ((8591 : Int32) < c))) ?_
  refine Eq.trans (if_neg (own_ltN (11264) (by decide) (by omega) : ¬ (c < (11264 : Int32)))) ?_
  refine Eq.trans (if_neg (own_gtN (12271) (by decide) (by omega) : ¬ ((12271 : Int32) < c))) ?_
  rfl
theorem own_same_2_21 (c : Int32) (h1 : 11264 ≤ c.toInt) (h2 : c.toInt < 12272) : own_f2_0 c = 1 := by
  refine Eq.trans (if_neg (own_ltN (65) (by decide) (by omega) : ¬ (c < (65 : Int32)))) ?_
  refine Eq.trans (if_neg (own_gtN (983039) (by decide) (by omega) : ¬ ((983039 : Int32) < c))) ?_
  refine Eq.trans (if_neg (own_ltN (91) (by decide) (by omega) : ¬ (c < (91 : Int32)))) ?_
  refine Eq.trans (if_pos (own_gtY (94) (by decide) (by omega) : ((94 : Int32) < c))) ?_
  refine Eq.trans (if_neg (own_eqN (96) (by decide) (by omega) : ¬ (c = (96 : Int32)))) ?_
  refine Eq.trans (if_neg (own_ltN (123) (by decide) (by omega) : ¬ (c < (123 : Int32)))) ?_
  refine Eq.trans (if_pos (own_gtY (191) (by decide) (by omega) : ((191 : Int32) < c))) ?_
  refine Eq.trans (if_neg (own_eqN (215) (by decide) (by omega) : ¬ (c = (215 : Int32)))) ?_
  refine Eq.trans (if_neg (own_eqN (247) (by decide) (by omega) : ¬ (c = (247 : Int32)))) ?_
  refine Eq.trans (if_neg (own_ltN (768) (by decide) (by omega) : ¬ (c < (768 : Int32)))) ?_
  refine Eq.trans (if_pos (own_gtY (879) (by decide) (by omega) : ((879 : Int32) < c))) ?_
  refine Eq.trans (if_neg (own_eqN (894) (by decide) (by omega) : ¬ (c = (894 : Int32)))) ?_
  refine Eq.trans (if_neg (own_ltN (8192) (by decide) (by omega) : ¬ (c < (8192 : Int32)))) ?_
  refine Eq.trans (if_pos (own_gtY (8203) (by decide) (by omega) : ((8203 : Int32) < c))) ?_
  refine Eq.trans (if_neg (own_ltN (8206) (by decide) (by omega) : ¬ (c < (8206 : Int32)))) ?_
  refine Eq.trans (if_pos (own_gtY (8303) (by decide) (by omega) : ((8303 : Int32) < c))) ?_
  refine Eq.trans (if_neg (own_ltN (8592) (by decide) (by omega) : ¬ (c < (8592 : Int32)))) ?_
  refine Eq.trans (if_pos (own_gtY (11263) (by decide) (by omega) : ((11263 : Int32) < c))) ?_
  refine Eq.trans (if_pos (own_ltY (12272) (by decide) (by omega) : (c < (12272 : Int32)))) ?_
  refine Eq.trans (if_pos (own_ltY (55296) (by decide) (by omega) : (c < (55296 : Int32)))) ?_
  refine Eq.trans (if_pos (own_ltY (64976) (by decide) (by omega) : (c < (64976 : Int32)))) ?_
  refine Eq.trans (if_pos (own_ltY (65534) (by decide) (by omega) : (c < (65534 : Int32)))) ?_
  rfl
theorem own_same_1_22 (c : Int32) (h1 : 12272 ≤ c.toInt) (h2 : c.toInt < 12289) : own_f1_0 c = 0 := by
  refine Eq.trans (if_neg (own_ltN (97) (by decide) (by omega) : ¬ (c < (97 : Int32)))) ?_
  refine Eq.trans (if_pos (own_gtY (122) (by decide) (by omega) : ((122 : Int32) < c))) ?_
  refine Eq.trans (if_neg (own_ltN (65) (by decide) (by omega) : ¬ (c < (65 : Int32)))) ?_
  refine Eq.trans (if_pos (own_gtY (90) (by decide) (by omega) : ((90 : Int32) < c))) ?_
  refine Eq.trans (if_neg (own_eqN (95) (by decide) (by omega) : ¬ (c = (95 : Int32)))) ?_
  refine Eq.trans (if_neg (own_ltN (192) (by decide) (by omega) : ¬ (c < (192 : Int32)))) ?_
  refine Eq.trans (if_pos (own_gtY (214) (by decide) (by omega) : ((214 : Int32) < c))) ?_
  refine Eq.trans (if_neg (own_ltN (216) (by decide) (by omega) : ¬ (c < (216 : Int32)))) ?_
  refine Eq.trans (if_pos (own_gtY (246) (by decide) (by omega) : ((246 : Int32) < c))) ?_
  refine Eq.trans (if_neg (own_ltN (248) (by decide) (by omega) : ¬ (c < (248 : Int32)))) ?_
  refine Eq.trans (if_pos (own_gtY (767) (by decide) (by omega) : ((767 : Int32) < c))) ?_
  refine Eq.trans (if_neg (own_ltN (880) (by decide) (by omega) : ¬ (c < (880 : Int32)))) ?_
  refine Eq.trans (if_pos (own_gtY (893) (by decide) (by omega) : ((893 : Int32) < c))) ?_
  refine Eq.trans (if_neg (own_ltN (895) (by decide) (by omega) : ¬ (c < (895 : Int32)))) ?_
  refine Eq.trans (if_pos (own_gtY (8191) (by decide) (by omega) : ((8191 : Int32) < c))) ?_
  refine Eq.trans (if_neg (own_ltN (8204) (by decide) (by omega) : ¬ (c < (8204 : Int32)))) ?_
  refine Eq.trans (if_pos (own_gtY (8205) (by decide) (by omega) : ((8205 : Int32) < c))) ?_
  refine Eq.trans (if_neg (own_ltN (8304) (by decide) (by omega) : ¬ (c < (8304 : Int32)))) ?_
  refine Eq.trans (if_pos (own_gtY (8591) (by decide) (by omega) : ((8591 : Int32) < c))) ?_
  refine Eq.trans (if_neg (own_ltN (11264) (by decide) (by omega) : ¬ (c < (11264 : Int32)))) ?_
  refine Eq.trans (if_pos (own_gtY (12271) (by decide) (by omega) : ((12271 : Int32) < c))) ?_
  refine Eq.trans (if_pos (own_ltY (12289) (by decide) (by omega) : (c < (12289 : Int32)))) ?_
  refine Eq.trans (if_pos (own_ltY (63744) (by decide) (by omega) : (c < (63744 : Int32)))) ?_
  refine Eq.trans (if_pos (own_ltY (65008) (by decide) (by omega) : (c < (65008 : Int32)))) ?_
  refine Eq.trans (if_pos (own_ltY (65536) (by decide) (by omega) : (c < (65536 : Int32)))) ?_
  rfl
theorem own_same_2_22 (c : Int32) (h1 : 12272 ≤ c.toInt) (h2 : c.toInt < 12289) : own_f2_0 c = 0 := by
  refine Eq.trans (if_neg (own_ltN (65) (by decide) (by omega) : ¬ (c < (65 : Int32)))) ?_
  refine Eq.trans (if_neg (own_gtN (983039) (by decide) (by omega) : ¬ ((983039 : Int32) < c))) ?_
  refine Eq.trans (if_neg (own_ltN (91) (by decide) (by omega) : ¬ (c < (91 : Int32)))) ?_
  refine Eq.trans (if_pos (own_gtY (94) (by decide) (by omega) : ((94 : Int32) < c))) ?_
  refine Eq.trans (if_neg (own_eqN (96) (by decide) (by omega) : ¬ (c = (96 : Int32)))) ?_
  refine Eq.trans (if_neg (own_ltN (123) (by decide) (by omega) : ¬ (c < (123 : Int32)))) ?_
  refine Eq.trans (if_pos (own_gtY (191) (by decide) (by omega) : ((191 : Int32) < c))) ?_
  refine Eq.trans (if_neg (own_eqN (215) (by decide) (by omega) : ¬ (c = (215 : Int32)))) ?_
  refine Eq.trans (if_neg (own_eqN (247) (by decide) (by omega) : ¬ (c = (247 : Int32)))) ?_
  refine Eq.trans (if_neg (own_ltN (768) (by decide) (by omega) : ¬ (c < (768 : Int32)))) ?_
  refine Eq.trans (if_pos (own_gtY (879) (by decide) (by omega) : ((879 : Int32) < c))) ?_
  refine Eq.trans (if_neg (own_eqN (894) (by decide) (by omega) : ¬ (c = (894 : Int32)))) ?_
  refine Eq.trans (if_neg (own_ltN (8192) (by decide) (by omega) : ¬ (c < (8192 : Int32)))) ?_
  refine Eq.trans (if_pos (own_gtY (8203) (by decide) (by omega) : ((8203 : Int32) < c))) ?_
  refine Eq.trans (if_neg (own_ltN (8206) (by decide) (by omega) : ¬ (c < (8206 : Int32)))) ?_
  refine Eq.trans (if_pos (own_gtY (8303) (by decide) (by omega) : ((8303 : Int32) < c))) ?_
  refine Eq.trans (if_neg (own_ltN (8592) (by decide) (by omega) : ¬ (c < (8592 : Int32)))) ?_
  refine Eq.trans (if_pos (own_gtY (11263) (by decide) (by omega) : ((11263 : Int32) < c))) ?_
  refine Eq.trans (if_neg (own_ltN (12272) (by decide) (by omega) : ¬ (c < (12272 : Int32)))) ?_
  refine Eq.trans (if_neg (own_gtN (12288) (by decide) (by omega) : ¬ ((12288 : Int32) < c))) ?_
  rfl
theorem own_same_1_23 (c : Int32) (h1 : 12289 ≤ c.toInt) (h2 : c.toInt < 55296) : own_f1_0 c = 1 := by
  refine Eq.trans (if_neg (own_ltN (97) (by decide) (by omega) : ¬ (c < (97 : Int32)))) ?_
  refine Eq.trans (if_pos (own_gtY (122) (by decide) (by omega) : ((122 : Int32) < c))) ?_
  refine Eq.trans (if_neg (own_ltN (65) (by decide) (by omega) : ¬ (c < (65 : Int32)))) ?_
  refine Eq.trans (if_pos (own_gtY (90) (by decide) (by omega) : ((90 : Int32) < c))) ?_
  refine Eq.trans (if_neg (own_eqN (95) (by decide) (by omega) : ¬ (c = (95 : Int32)))) ?_
  refine Eq.trans (if_neg (own_ltN (192) (by decide) (by omega) : ¬ (c < (192 : Int32)))) ?_
  refine Eq.trans (if_pos (own_gtY (214) (by decide) (by omega) : ((214 : Int32) < c))) ?_
  refine Eq.trans (if_neg (own_ltN (216) (by decide) (by omega) : ¬ (c < (216 : Int32)))) ?_
  refine Eq.trans (if_pos (own_gtY (246) (by decide) (by omega) : ((246 : Int32) < c))) ?_
  refine Eq.trans (if_neg (own_ltN (248) (by decide) (by omega) : ¬ (c < (248 : Int32)))) ?_
  refine Eq.trans (if_pos (own_gtY (767) (by decide) (by omega) : ((767 : Int32) < c))) ?_
  refine Eq.trans (if_neg (own_ltN (880) (by decide) (by omega) : ¬ (c < (880 : Int32)))) ?_
  refine Eq.trans (if_pos (own_gtY (893) (by decide) (by omega) : ((893 : Int32) < c))) ?_
  refine Eq.trans (if_neg (own_ltN (895) (by decide) (by omega) : ¬ (c < (895 : Int32)))) ?_
  refine Eq.trans (if_pos (own_gtY (8191) (by decide) (by omega) : ((8191 : Int32) < c))) ?_
  refine Eq.trans (if_neg (own_ltN (8204) (by decide) (by omega) : ¬ (c < (8204 : Int32)))) ?_
  refine Eq.trans (if_pos (own_gtY (8205) (by decide) (by omega) : ((8205 : Int32) < c))) ?_
  refine Eq.trans (if_neg (own_ltN (8304) (by decide) (by omega) : ¬ (c < (8304 : Int32)))) ?_
  refine Eq.trans (if_pos (own_gtY (8591) (by decide) (by omega) : ((8591 : Int32) < c))) ?_
  refine Eq.trans (if_neg (own_ltN (11264) (by decide) (by omega) : ¬ (c < (11264 : Int32)))) ?_
  refine Eq.trans (if_pos (own_gtY (12271) (by decide) (by omega) : ((12271 : Int32) < c))) ?_
  refine Eq.trans (if_neg (own_ltN (12289) (by decide) (by omega) : ¬ (c < (12289 : Int32)))) ?_
  refine Eq.trans (if_neg (own_gtN (55295) (by decide) (by omega) : ¬ ((55295 : Int32) < c))) ?_
  rfl
theorem own_same_2_23 (c : Int32) (h1 : 12289 ≤ c.toInt) (h2 : c.toInt < 55296) : own_f2_0 c = 1 := by
  refine Eq.trans (if_neg (own_ltN (65) (by decide) (by omega) : ¬ (c < (65 : Int32)))) ?_
  refine Eq.trans (if_neg (own_gtN (983039) (by decide) (by omega) : ¬ ((983039 : Int32) < c))) ?_
  refine Eq.trans (if_neg (own_ltN (91) (by decide) (by omega) : ¬ (c < (91 : Int32)))) ?_
  refine Eq.trans (if_pos (own_gtY (94) (by decide) (by omega) : ((94 : Int32) < c))) ?_
  refine Eq.trans (if_neg (own_eqN (96) (by decide) (by omega) : ¬ (c = (96 : Int32)))) ?_
  refine Eq.trans (if_neg (own_ltN (123) (by decide) (by omega) : ¬ (c < (123 : Int32)))) ?_
  refine Eq.trans (if_pos (own_gtY (191) (by decide) (by omega) : ((191 : Int32) < c))) ?_
  refine Eq.trans (if_neg (own_eqN (215) (by decide) (by omega) : ¬ (c = (215 : Int32)))) ?_
  refine Eq.trans (if_neg (own_eqN (247) (by decide) (by omega) : ¬ (c = (247 : Int32)))) ?_
  refine Eq.trans (if_neg (own_ltN (768) (by decide) (by omega) : ¬ (c < (768 : Int32)))) ?_
  refine Eq.trans (if_pos (own_gtY (879) (by decide) (by omega) : ((879 : Int32) < c))) ?_
  refine Eq.trans (if_neg (own_eqN (894) (by decide) (by omega) : ¬ (c = (894 : Int32)))) ?_
  refine Eq.trans (if_neg (own_ltN (8192) (by decide) (by omega) : ¬ (c < (8192 : Int32)))) ?_
  refine Eq.trans (if_pos (own_gtY (8203) (by decide) (by omega) : ((8203 : Int32) < c))) ?_
  refine Eq.trans (if_neg (own_ltN (8206) (by decide) (by omega) : ¬ (c < (8206 : Int32)))) ?_
  refine Eq.trans (if_pos (own_gtY (8303) (by decide) (by omega) : ((8303 : Int32) < c))) ?_
  refine Eq.trans (if_neg (own_ltN (8592) (by decide) (by omega) : ¬ (c < (8592 : Int32)))) ?_
  refine Eq.trans (if_pos (own_gtY (11263) (by decide) (by omega) : ((11263 : Int32) < c))) ?_
  refine Eq.trans (if_neg (own_ltN (12272) (by decide) (by omega) : ¬ (c < (12272 : Int32)))) ?_
  refine Eq.trans (if_pos (own_gtY (12288) (by decide) (by omega) : ((12288 : Int32) < c))) ?_
  refine Eq.trans (if_pos (own_ltY (55296) (by decide) (by omega) : (c < (55296 : Int32)))) ?_
  refine Eq.trans (if_pos (own_ltY (64976) (by decide) (by omega) : (c < (64976 : Int32)))) ?_
  refine Eq.trans (if_pos (own_ltY (65534) (by decide) (by omega) : (c < (65534 : Int32)))) ?_
  rfl
theorem own_same_1_24 (c : Int32) (h1 : 55296 ≤ c.toInt) (h2 : c.toInt < 63744) : own_f1_0 c = 0 := by
  refine Eq.trans (if_neg (own_ltN (97) (by decide) (by omega) : ¬ (c < (97 : Int32)))) ?_
  refine Eq.trans (if_pos (own_gtY (122) (by decide) (by omega) : ((122 : Int32) < c))) ?_
  refine Eq.trans (if_neg (own_ltN (65) (by decide) (by omega) : ¬ (c < (65 : Int32)))) ?_
  refine Eq.trans (if_pos (own_gtY (90) (by decide) (by omega) : ((90 : Int32) < c))) ?_
  refine Eq.trans (if_neg (own_eqN (95) (by decide) (by omega) : ¬ (c = (95 : Int32)))) ?_
  refine Eq.trans (if_neg (own_ltN (192) (by decide) (by omega) : ¬ (c < (192 : Int32)))) ?_
  refine Eq.trans (if_pos (own_gtY (214) (by decide) (by omega) : ((214 : Int32) < c))) ?_
  refine Eq.trans (if_neg (own_ltN (216) (by decide) (by omega) : ¬ (c < (216 : Int32)))) ?_
  refine Eq.trans (if_pos (own_gtY (246) (by decide) (by omega) : ((246 : Int32) < c))) ?_
  refine Eq.trans (if_neg (own_ltN (248) (by decide) (by omega) : ¬ (c < (248 : Int32)))) ?_
  refine Eq.trans (if_pos (own_gtY (767) (by decide) (by omega) : ((767 : Int32) < c))) ?_
  refine Eq.trans (if_neg (own_ltN (880) (by decide) (by omega) : ¬ (c < (880 : Int32)))) ?_
  refine Eq.trans (if_pos (own_gtY (893) (by decide) (by omega) : ((893 : Int32) < c))) ?_
  refine Eq.trans (if_neg (own_ltN (895) (by decide) (by omega) : ¬ (c < (895 : Int32)))) ?_
  refine Eq.trans (if_pos (own_gtY (8191) (by decide) (by omega) : ((8191 : Int32) < c))) ?_
  refine Eq.trans (if_neg (own_ltN (8204) (by decide) (by omega) : ¬ (c < (8204 : Int32)))) ?_
  refine Eq.trans (if_pos (own_gtY (8205) (by decide) (by omega) : ((8205 : Int32) < c))) ?_
  refine Eq.trans (if_neg (own_ltN (8304) (by decide) (by omega) : ¬ (c < (8304 : Int32)))) ?_
  refine Eq.trans (if_pos (own_gtY (8591) (by decide) (by omega) : ((8591 : Int32) < c))) ?_
  refine Eq.trans (if_neg (own_ltN (11264) (by decide) (by omega) : ¬ (c < (11264 : Int32)))) ?_
  refine Eq.trans (if_pos (own_gtY (12271) (by decide) (by omega) : ((12271 : Int32) < c))) ?_
  refine Eq.trans (if_neg (own_ltN (12289) (by decide) (by omega) : ¬ (c < (12289 : Int32)))) ?_
  refine Eq.trans (if_pos (own_gtY (55295) (by decide) (by omega) : ((55295 : Int32) < c))) ?_
  refine Eq.trans (if_pos (own_ltY (63744) (by decide) (by omega) : (c < (63744 : Int32)))) ?_
  refine Eq.trans (if_pos (own_ltY (65008) (by decide) (by omega) : (c < (65008 : Int32)))) ?_
  refine Eq.trans (if_pos (own_ltY (65536) (by decide) (by omega) : (c < (65536 : Int32)))) ?_
  rfl
theorem own_same_2_24 (c : Int32) (h1 : 55296 ≤ c.toInt) (h2 : c.toInt < 63744) : own_f2_0 c = 0 := by
  refine Eq.trans (if_neg (own_ltN (65) (by decide) (by omega) : ¬ (c < (65 : Int32)))) ?_
  refine Eq.trans (if_neg (own_gtN (983039) (by decide) (by omega) : ¬ ((983039 : Int32) < c))) ?_
  refine Eq.trans (if_neg (own_ltN (91) (by decide) (by omega) : ¬ (c < (91 : Int32)))) ?_
  refine Eq.trans (if_pos (own_gtY (94) (by decide) (by omega) : ((94 : Int32) < c))) ?_
  refine Eq.trans (if_neg (own_eqN (96) (by decide) (by omega) : ¬ (c = (96 : Int32)))) ?_
  refine Eq.trans (if_neg (own_ltN (123) (by decide) (by omega) : ¬ (c < (123 : Int32)))) ?_
  refine Eq.trans (if_pos (own_gtY (191) (by decide) (by omega) : ((191 : Int32) < c))) ?_
  refine Eq.trans (if_neg (own_eqN (215) (by decide) (by omega) : ¬ (c = (215 : Int32)))) ?_
  refine Eq.trans (if_neg (own_eqN (247) (by decide) (by omega) : ¬ (c = (247 : Int32)))) ?_
  refine Eq.trans (if_neg (own_ltN (768) (by decide) (by omega) : ¬ (c < (768 : Int32)))) ?_
  refine Eq.trans (if_pos (own_gtY (879) (by decide) (by omega) : ((879 : Int32) < c))) ?_
  refine Eq.trans (if_neg (own_eqN (894) (by decide) (by omega) : ¬ (c = (894 : Int32)))) ?_
  refine Eq.trans (if_neg (own_ltN (8192) (by decide) (by omega) : ¬ (c < (8192 : Int32)))) ?_
  refine Eq.trans (if_pos (own_gtY (8203) (by decide) (by omega) : ((8203 : Int32) < c))) ?_
  refine Eq.trans (if_neg (own_ltN (8206) (by decide) (by omega) : ¬ (c < (8206 : Int32)))) ?_
  refine Eq.trans (if_pos (own_gtY (8303) (by decide) (by omega) : ((8303 : Int32) < c))) ?_
  refine Eq.trans (if_neg (own_ltN (8592) (by decide) (by omega) : ¬ (c < (8592 : Int32)))) ?_
  refine Eq.trans (if_pos (own_gtY (11263) (by decide) (by omega) : ((11263 : Int32) < c))) ?_
  refine Eq.trans (if_neg (own_ltN (12272) (by decide) (by omega) : ¬ (c < (12272 : Int32)))) ?_
  refine Eq.trans (if_pos (own_gtY (12288) (by decide) (by omega) : ((12288 : Int32) < c))) ?_
  refine Eq.trans (if_neg (own_ltN (55296) (by decide) (by omega) : ¬ (c < (55296 : Int32)))) ?_
  refine Eq.trans (if_neg (own_gtN (63743) (by decide) (by omega) : ¬ ((63743 : Int32) < c))) ?_
  rfl
theorem own_same_1_25 (c : Int32) (h1 : 63744 ≤ c.toInt) (h2 : c.toInt < 64976) : own_f1_0 c = 1 := by
  refine Eq.trans (if_neg (own_ltN (97) (by decide) (by omega) : ¬ (c < (97 : Int32)))) ?_
  refine Eq.trans (if_pos (own_gtY (122) (by decide) (by omega) : ((122 : Int32) < c))) ?_
  refine Eq.trans (if_neg (own_ltN (65) (by decide) (by omega) : ¬ (c < (65 : Int32)))) ?_
  refine Eq.trans (if_pos (own_gtY (90) (by decide) (by omega) : ((90 : Int32) < c))) ?_
  refine Eq.trans (if_neg (own_eqN (95) (by decide) (by omega) : ¬ (c = (95 : Int32)))) ?_
  refine Eq.trans (if_neg (own_ltN (192) (by decide) (by omega) : ¬ (c < (192 : Int32)))) ?_
  refine Eq.trans (if_pos (own_gtY (214) (by decide) (by omega) : ((214 : Int32) < c))) ?_
  refine Eq.trans (if_neg (own_ltN (216) (by decide) (by omega) : ¬ (c < (216 : Int32)))) ?_
  refine Eq.trans (if_pos (own_gtY (246) (by decide) (by omega) : ((246 : Int32) < c))) ?_
  refine Eq.trans (if_neg (own_ltN (248) (by decide) (by omega) : ¬ (c < (248 : Int32)))) ?_
  refine Eq.trans (if_pos (own_gtY (767) (by decide) (by omega) : ((767 : Int32) < c))) ?_
  refine Eq.trans (if_neg (own_ltN (880) (by decide) (by omega) : ¬ (c < (880 : Int32)))) ?_
  refine Eq.trans (if_pos (own_gtY (893) (by decide) (by omega) : ((893 : Int32) < c))) ?_
  refine Eq.trans (if_neg (own_ltN (895) (by decide) (by omega) : ¬ (c < (895 : Int32)))) ?_
  refine Eq.trans (if_pos (own_gtY (8191) (by decide) (by omega) : ((8191 : Int32) < c))) ?_
  refine Eq.trans (if_neg (own_ltN (8204) (by decide) (by omega) : ¬ (c < (8204 : Int32)))) ?_
  refine Eq.trans (if_pos (own_gtY (8205) (by decide) (by omega) : ((8205 : Int32) < c))) ?_
  refine Eq.trans (if_neg (own_ltN (8304) (by decide) (by omega) : ¬ (c < (8304 : Int32)))) ?_
  refine Eq.trans (if_pos (own_gtY (8591) (by decide) (by omega) : ((8591 : Int32) < c))) ?_
  refine Eq.trans (if_neg (own_ltN (11264) (by decide) (by omega) : ¬ (c < (11264 : Int32)))) ?_
  refine Eq.trans (if_pos (own_gtY (12271) (by decide) (by omega) : ((12271 : Int32) < c))) ?_
  refine Eq.trans (if_neg (own_ltN (12289) (by decide) (by omega) : ¬ (c < (12289 : Int32)))) ?_
  refine Eq.trans (if_pos (own_gtY (55295) (by decide) (by omega) : ((55295 : Int32) < c))) ?_
  refine Eq.trans (if_neg (own_ltN (63744) (by decide) (by omega) : ¬ (c < (63744 : Int32)))) ?_
  refine Eq.trans (if_neg (own_gtN (64975) (by decide) (by omega) : ¬ ((64975 : Int32) < c))) ?_
  rfl
theorem own_same_2_25 (c : Int32) (h1 : 63744 ≤ c.toInt) (h2 : c.toInt < 64976) : own_f2_0 c = 1 := by
  refine Eq.trans (if_neg (own_ltN (65) (by decide) (by omega) : ¬ (c < (65 : Int32)))) ?_
  refine Eq.trans (if_neg (own_gtN (983039) (by decide) (by omega) : ¬ ((983039 : Int32) < c))) ?_
  refine Eq.trans (if_neg (own_ltN (91) (by decide) (by omega) : ¬ (c < (91 : Int32)))) ?_
  refine Eq.trans (if_pos (own_gtY (94) (by decide) (by omega) : ((94 : Int32) < c))) ?_
  refine Eq.trans (if_neg (own_eqN (96) (by decide) (by omega) : ¬ (c = (96 : Int32)))) ?_
  refine Eq.trans (if_neg (own_ltN (123) (by decide) (by omega) : ¬ (c < (123 : Int32)))) ?_
  refine Eq.trans (if_pos (own_gtY (191) (by decide) (by omega) : ((191 : Int32) < c))) ?_
  refine Eq.trans (if_neg (own_eqN (215) (by decide) (by omega) : ¬ (c = (215 : Int32)))) ?_
  refine Eq.trans (if_neg (own_eqN (247) (by decide) (by omega) : ¬ (c = (247 : Int32)))) ?_
  refine Eq.trans (if_neg (own_ltN (768) (by decide) (by omega) : ¬ (c < (768 : Int32)))) ?_
  refine Eq.trans (if_pos (own_gtY (879) (by decide) (by omega) : ((879 : Int32) < c))) ?_
  refine Eq.trans (if_neg (own_eqN (894) (by decide) (by omega) : ¬ (c = (894 : Int32)))) ?_
  refine Eq.trans (if_neg (own_ltN (8192) (by decide) (by omega) : ¬ (c < (8192 : Int32)))) ?_
  refine Eq.trans (if_pos (own_gtY (8203) (by decide) (by omega) : ((8203 : Int32) < c))) ?_
  refine Eq.trans (if_neg (own_ltN (8206) (by decide) (by omega) : ¬ (c < (8206 : Int32)))) ?_
  refine Eq.trans (if_pos (own_gtY (8303) (by decide) (by omega) : ((8303 : Int32) < c))) ?_
  refine Eq.trans (if_neg (own_ltN (8592) (by decide) (by omega) : ¬ (c < (8592 : Int32)))) ?_
  refine Eq.trans (if_pos (own_gtY (11263) (by decide) (by omega) : ((11263 : Int32) < c))) ?_
  refine Eq.trans (if_neg (own_ltN (12272) (by decide) (by omega) : ¬ (c < (12272 : Int32)))) ?_
  refine Eq.trans (if_pos (own_gtY (12288) (by decide) (by omega) : ((12288 : Int32) < c))) ?_
  refine Eq.trans (if_neg (own_ltN (55296) (by decide) (by omega) : ¬ (c < (55296 : Int32)))) ?_
  refine Eq.trans (if_pos (own_gtY (63743) (by decide) (by omega) : ((63743 : Int32) < c))) ?_
  refine Eq.trans (if_pos (own_ltY (64976) (by decide) (by omega) : (c < (64976 : Int32)))) ?_
  refine Eq.trans (if_pos (own_ltY (65534) (by decide) (by omega) : (c < (65534 : Int32)))) ?_
  rfl
theorem own_same_1_26 (c : Int32) (h1 : 64976 ≤ c.toInt) (h2 : c.toInt < 65008) : own_f1_0 c = 0 := by
  refine Eq.trans (if_neg (own_ltN (97) (by decide) (by omega) : ¬ (c < (97 : Int32)))) ?_
  refine Eq.trans (if_pos (own_gtY (122) (by decide) (by omega) : ((122 : Int32) < c))) ?_
  refine Eq.trans (if_neg (own_ltN (65) (by decide) (by omega) : ¬ (c < (65 : Int32)))) ?_
  refine Eq.trans (if_pos (own_gtY (90) (by decide) (by omega) : ((90 : Int32) < c))) ?_
  refine Eq.trans (if_neg (own_eqN (95) (by decide) (by omega) : ¬ (c = (95 : Int32)))) ?_
  refine Eq.trans (if_neg (own_ltN (192) (by decide) (by omega) : ¬ (c < (192 : Int32)))) ?_
  refine Eq.trans (if_pos (own_gtY (214) (by decide) (by omega) : ((214 : Int32) < c))) ?_
  refine Eq.trans (if_neg (own_ltN (216) (by decide) (by omega) : ¬ (c < (216 : Int32)))) ?_
  refine Eq.trans (if_pos (own_gtY (246) (by decide) (by omega) : ((246 : Int32) < c))) ?_
  refine Eq.trans (if_neg (own_ltN (248) (by decide) (by omega) : ¬ (c < (248 : Int32)))) ?_
  refine Eq.trans (if_pos (own_gtY (767) (by decide) (by omega) : ((767 : Int32) < c))) ?_
  refine Eq.trans (if_neg (own_ltN (880) (by decide) (by omega) : ¬ (c < (880 : Int32)))) ?_
  refine Eq.trans (if_pos (own_gtY (893) (by decide) (by omega) : ((893 : Int32) < c))) ?_
  refine Eq.trans (if_neg (own_ltN (895) (by decide) (by omega) : ¬ (c < (895 : Int32)))) ?_
  refine Eq.trans (if_pos (own_gtY (8191) (by decide) (by omega) : ((8191 : Int32) < c))) ?_
  refine Eq.trans (if_neg (own_ltN (8204) (by decide) (by omega) : ¬ (c < (8204 : Int32)))) ?_
  refine Eq.trans (if_pos (own_gtY (8205) (by decide) (by omega) : ((8205 : Int32) < c))) ?_
  refine Eq.trans (if_neg (own_ltN (8304) (by decide) (by omega) : ¬ (c < (8304 : Int32)))) ?_
  refine Eq.trans (if_pos (own_gtY (8591) (by decide) (by omega) : ((8591 : Int32) < c))) ?_
  refine Eq.trans (if_neg (own_ltN (11264) (by decide) (by omega) : ¬ (c < (11264 : Int32)))) ?_
  refine Eq.trans (if_pos (own_gtY (12271) (by decide) (by omega) : ((12271 : Int32) < c))) ?_
  refine Eq.trans (if_neg (own_ltN (12289) (by decide) (by omega) : ¬ (c < (12289 : Int32)))) ?_
  refine Eq.trans (if_pos (own_gtY (55295) (by decide) (by omega) : ((55295 : Int32) < c))) ?_
  refine Eq.trans (if_neg (own_ltN (63744) (by decide) (by omega) : ¬ (c < (63744 : Int32)))) ?_
  refine Eq.trans (if_pos (own_gtY (64975) (by decide) (by omega) : ((64975 : Int32) < c))) ?_
  refine Eq.trans (if_pos (own_ltY (65008) (by decide) (by omega) : (c < (65008 : Int32)))) ?_
  refine Eq.trans (if_pos (own_ltY (65536) (by decide) (by omega) : (c < (65536 : Int32)))) ?_
  rfl
theorem own_same_2_26 (c : Int32) (h1 : 64976 ≤ c.toInt) (h2 : c.toInt < 65008) : own_f2_0 c = 0 := by
  refine Eq.trans (if_neg (own_ltN (65) (by decide) (by omega) : ¬ (c < (65 : Int32)))) ?_
  refine Eq.trans (if_neg (own_gtN (983039) (by decide) (by omega) : ¬ ((983039 : Int32) < c))) ?_
  refine Eq.trans (if_neg (own_ltN (91) (by decide) (by omega) : ¬ (c < (91 : Int32)))) ?_
  refine Eq.trans (if_pos (own_gtY (94) (by decide) (by omega) : ((94 : Int32) < c))) ?_
  refine Eq.trans (if_neg (own_eqN (96) (by decide) (by omega) : ¬ (c = (96 : Int32)))) ?_
  refine Eq.trans (if_neg (own_ltN (123) (by decide) (by omega) : ¬ (c < (123 : Int32)))) ?_
  refine Eq.trans (if_pos (own_gtY (191) (by decide) (by omega) : ((191 : Int32) < c))) ?_
  refine Eq.trans (if_neg (own_eqN (215) (by decide) (by omega) : ¬ (c = (215 : Int32)))) ?_
  refine Eq.trans (if_neg (own_eqN (247) (by decide) (by omega) : ¬ (c = (247 : Int32)))) ?_
  refine Eq.trans (if_neg (own_ltN (768) (by decide) (by omega) : ¬ (c < (768 : Int32)))) ?_
  refine Eq.trans (if_pos (own_gtY (879) (by decide) (by omega) : ((879 : Int32) < c))) ?_
  refine Eq.trans (if_neg (own_eqN (894) (by decide) (by omega) : ¬ (c = (894 : Int32)))) ?_
  refine Eq.trans (if_neg (own_ltN (8192) (by decide) (by omega) : ¬ (c < (8192 : Int32)))) ?_
  refine Eq.trans (if_pos (own_gtY (8203) (by decide) (by omega) : ((8203 : Int32) < c))) ?_
  refine Eq.trans (if_neg (own_ltN (8206) (by decide) (by omega) : ¬ (c < (8206 : Int32)))) ?_
  refine Eq.trans (if_pos (own_gtY (8303) (by decide) (by omega) : ((8303 : Int32) < c))) ?_
  refine Eq.trans (if_neg (own_ltN (8592) (by decide) (by omega) : ¬ (c < (8592 : Int32)))) ?_
  refine Eq.trans (if_pos (own_gtY (11263) (by decide) (by omega) : ((11263 : Int32) < c))) ?_
  refine Eq.trans (if_neg (own_ltN (12272) (by decide) (by omega) : ¬ (c < (12272 : Int32)))) ?_
  refine Eq.trans (if_pos (own_gtY (12288) (by decide) (by omega) : ((12288 : Int32) < c))) ?_
  refine Eq.trans (if_neg (own_ltN (55296) (by decide) (by omega) : ¬ (c < (55296 : Int32)))) ?_
  refine Eq.trans (if_pos (own_gtY (63743) (by decide) (by omega) : ((63743 : Int32) < c))) ?_
  refine Eq.trans (if_neg (own_ltN (64976) (by decide) (by omega) : ¬ (c < (64976 : Int32)))) ?_
  refine Eq.trans (if_neg (own_gtN (65007) (by decide) (by omega) : ¬ ((65007 : Int32) < c))) ?_
  rfl
theorem own_same_1_27 (c : Int32) (h1 : 65008 ≤ c.toInt) (h2 : c.toInt < 65534) : own_f1_0 c = 1 := by
  refine Eq.trans (if_neg (own_ltN (97) (by decide) (by omega) : ¬ (c < (97 : Int32)))) ?_
  refine Eq.trans (if_pos (own_gtY (122) (by decide) (by omega) : ((122 : Int32) < c))) ?_
  refine Eq.trans (if_neg (own_ltN (65) (by decide) (by omega) : ¬ (c < (65 : Int32)))) ?_
  refine Eq.trans (if_pos (own_gtY (90) (by decide) (by omega) : ((90 : Int32) < c))) ?_
  refine Eq.trans (if_neg (own_eqN (95) (by decide) (by omega) : ¬ (c = (95 : Int32)))) ?_
  refine Eq.trans (if_neg (own_ltN (192) (by decide) (by omega) : ¬ (c < (192 : Int32)))) ?_
  refine Eq.trans (if_pos (own_gtY (214) (by decide) (by omega) : ((214 : Int32) < c))) ?_
  refine Eq.trans (if_neg (own_ltN (216) (by decide) (by omega) : ¬ (c < (216 : Int32)))) ?_
  refine Eq.trans (if_pos (own_gtY (246) (by decide) (by omega) : ((246 : Int32) < c))) ?_
  refine Eq.trans (if_neg (own_ltN (248) (by decide) (by omega) : ¬ (c < (248 : Int32)))) ?_
  refine Eq.trans (if_pos (own_gtY (767) (by decide) (by omega) : ((767 : Int32) < c))) ?_
  refine Eq.trans (if_neg (own_ltN (880) (by decide) (by omega) : ¬ (c < (880 : Int32)))) ?_
  refine Eq.trans (if_pos (own_gtY (893) (by decide) (by omega) : ((893 : Int32) < c))) ?_
  refine Eq.trans (if_neg (own_ltN (895) (by decide) (by omega) : ¬ (c < (895 : Int32)))) ?_
  refine Eq.trans (if_pos (own_gtY (8191) (by decide) (by omega) : ((8191 : Int32) < c))) ?_
  refine Eq.trans (if_neg (own_ltN (8204) (by decide) (by omega) : ¬ (c < (8204 : Int32)))) ?_
  refine Eq.trans (if_pos (own_gtY (8205) (by decide) (by omega) : ((8205 : Int32) < c))) ?_
  refine Eq.trans (if_neg (own_ltN (8304) (by decide) (by omega) : ¬ (c < (8304 : Int32)))) ?_
  refine Eq.trans (if_pos (own_gtY (8591) (by decide) (by omega) : ((8591 : Int32) < c))) ?_
  refine Eq.trans (if_neg (own_ltN (11264) (by decide) (by omega) : ¬ (c < (11264 : Int32)))) ?_
  refine Eq.trans (if_pos (own_gtY (12271) (by decide) (by omega) : ((12271 : Int32) < c))) ?_
  refine Eq.trans (if_neg (own_ltN (12289) (by decide) (by omega) : ¬ (c < (12289 : Int32)))) ?_
  refine Eq.trans (if_pos (own_gtY (55295) (by decide) (by omega) : ((55295 : Int32) < c))) ?_
  refine Eq.trans (if_neg (own_ltN (63744) (by decide) (by omega) : ¬ (c < (63744 : Int32)))) ?_
  refine Eq.trans (if_pos (own_gtY (64975) (by decide) (by omega) : ((64975 : Int32) < c))) ?_
  refine Eq.trans (if_neg (own_ltN (65008) (by decide) (by omega) : ¬ (c < (65008 : Int32)))) ?_
  refine Eq.trans (if_neg (own_gtN (65533) (by decide) (by omega) : ¬ ((65533 : Int32) < c))) ?_
  rfl
theorem own_same_2_27 (c : Int32) (h1 : 65008 ≤ c.toInt) (h2 : c.toInt < 65534) : own_f2_0 c = 1 := by
  refine Eq.trans (if_neg (own_ltN (65) (by decide) (by omega) : ¬ (c < (65 : Int32)))) ?_
  refine Eq.trans (if_neg (own_gtN (983039) (by decide) (by omega) : ¬ ((983039 : Int32) < c))) ?_
  refine Eq.trans (if_neg (own_ltN (91) (by decide) (by omega) : ¬ (c < (91 : Int32)))) ?_
  refine Eq.trans (if_pos (own_gtY (94) (by decide) (by omega) : ((94 : Int32) < c))) ?_
  refine Eq.trans (if_neg (own_eqN (96) (by decide) (by omega) : ¬ (c = (96 : Int32)))) ?_
  refine Eq.trans (if_neg (own_ltN (123) (by decide) (by omega) : ¬ (c < (123 : Int32)))) ?_
  refine Eq.trans (if_pos (own_gtY (191) (by decide) (by omega) : ((191 : Int32) < c))) ?_
  refine Eq.trans (if_neg (own_eqN (215) (by decide) (by omega) : ¬ (c = (215 : Int32)))) ?_
  refine Eq.trans (if_neg (own_eqN (247) (by decide) (by omega) : ¬ (c = (247 : Int32)))) ?_
  refine Eq.trans (if_neg (own_ltN (768) (by decide) (by omega) : ¬ (c < (768 : Int32)))) ?_
  refine Eq.trans (if_pos (own_gtY (879) (by decide) (by omega) : ((879 : Int32) < c))) ?_
  refine Eq.trans (if_neg (own_eqN (894) (by decide) (by omega) : ¬ (c = (894 : Int32)))) ?_
  refine Eq.trans (if_neg (own_ltN (8192) (by decide) (by omega) : ¬ (c < (8192 : Int32)))) ?_
  refine Eq.trans (if_pos (own_gtY (8203) (by decide) (by omega) : ((8203 : Int32) < c))) ?_
  refine Eq.trans (if_neg (own_ltN (8206) (by decide) (by omega) : ¬ (c < (8206 : Int32)))) ?_
  refine Eq.trans (if_pos (own_gtY (8303) (by decide) (by omega) : ((8303 : Int32) < c))) ?_
  refine Eq.trans (if_neg (own_ltN (8592) (by decide) (by omega) : ¬ (c < (8592 : Int32)))) ?_
  refine Eq.trans (if_pos (own_gtY (11263) (by decide) (by omega) : ((11263 : Int32) < c))) ?_
  refine Eq.trans (if_neg (own_ltN (12272) (by decide) (by omega) : ¬ (c < (12272 : Int32)))) ?_
  refine Eq.trans (if_pos (own_gtY (12288) (by decide) (by omega) : ((12288 : Int32) < c))) ?_
  refine Eq.trans (if_neg (own_ltN (55296) (by decide) (by omega) : ¬ (c < (55296 : Int32)))) ?_
  refine Eq.trans (if_pos (own_gtY (63743) (by decide) (by omega) : ((63743 : Int32) < c))) ?_
  refine Eq.trans (if_neg (own_ltN (64976) (by decide) (by omega) : ¬ (c < (64976 : Int32)))) ?_
  refine Eq.trans (if_pos (own_gtY (65007) (by decide) (by omega) : ((65007 : Int32) < c))) ?_
  refine Eq.trans (if_pos (own_ltY (65534) (by decide) (by omega) : (c < (65534 : Int32)))) ?_
  rfl
theorem own_same_1_28 (c : Int32) (h1 : 65534 ≤ c.toInt) (h2 : c.toInt < 65536) : own_f1_0 c = 0 := by
  refine Eq.trans (if_neg (own_ltN (97) (by decide) (by omega) : ¬ (c < (97 : Int32)))) ?_
  refine Eq.trans (if_pos (own_gtY (122) (by decide) (by omega) : ((122 : Int32) < c))) ?_
  refine Eq.trans (if_neg (own_ltN (65) (by decide) (by omega) : ¬ (c < (65 : Int32)))) ?_
  refine Eq.trans (if_pos (own_gtY (90) (by decide) (by omega) : ((90 : Int32) < c))) ?_
  refine Eq.trans (if_neg (own_eqN (95) (by decide) (by omega) : ¬ (c = (95 : Int32)))) ?_
  refine Eq.trans (if_neg (own_ltN (192) (by decide) (by omega) : ¬ (c < (192 : Int32)))) ?_
  refine Eq.trans (if_pos (own_gtY (214) (by decide) (by omega) : ((214 : Int32) < c))) ?_
  refine Eq.trans (if_neg (own_ltN (216) (by decide) (by omega) : ¬ (c < (216 : Int32)))) ?_
  refine Eq.trans (if_pos (own_gtY (246) (by decide) (by omega) : ((246 : Int32) < c))) ?_
  refine Eq.trans (if_neg (own_ltN (248) (by decide) (by omega) : ¬ (c < (248 : Int32)))) ?_
  refine Eq.trans (if_pos (own_gtY (767) (by decide) (by omega) : ((767 : Int32) < c))) ?_
  refine Eq.trans (if_neg (own_ltN (880) (by decide) (by omega) : ¬ (c < (880 : Int32)))) ?_
  refine Eq.trans (if_pos (own_gtY (893) (by decide) (by omega) : ((893 : Int32) < c))) ?_
  refine Eq.trans (if_neg (own_ltN (895) (by decide) (by omega) : ¬ (c < (895 : Int32)))) ?_
  refine Eq.trans (if_pos (own_gtY (8191) (by decide) (by omega) : ((8191 : Int32) < c))) ?_
  refine Eq.trans (if_neg (own_ltN (8204) (by decide) (by omega) : ¬ (c < (8204 : Int32)))) ?_
  refine Eq.trans (if_pos (own_gtY (8205) (by decide) (by omega) : ((8205 : Int32) < c))) ?_
  refine Eq.trans (if_neg (own_ltN (8304) (by decide) (by omega) : ¬ (c < (8304 : Int32)))) ?_
  refine Eq.trans (if_pos (own_gtY (8591) (by decide) (by omega) : ((8591 : Int32) < c))) ?_
  refine Eq.trans (if_neg (own_ltN (11264) (by decide) (by omega) : ¬ (c < (11264 : Int32)))) ?_
  refine Eq.trans (if_pos (own_gtY (12271) (by decide) (by omega) : ((12271 : Int32) < c))) ?_
  refine Eq.trans (if_neg (own_ltN (12289) (by decide) (by omega) : ¬ (c < (12289 : Int32)))) ?_
  refine Eq.trans (if_pos (own_gtY (55295) (by decide) (by omega) : ((55295 : Int32) < c))) ?_
  refine Eq.trans (if_neg (own_ltN (63744) (by decide) (by omega) : ¬ (c < (63744 : Int32)))) ?_
  refine Eq.trans (if_pos (own_gtY (64975) (by decide) (by omega) : ((64975 : Int32) < c))) ?_
  refine Eq.trans (if_neg (own_ltN (65008) (by decide) (by omega) : ¬ (c < (65008 : Int32)))) ?_
  refine Eq.trans (if_pos (own_gtY (65533) (by decide) (by omega) : ((65533 : Int32) < c))) ?_
  refine Eq.trans (if_pos (own_ltY (65536) (by decide) (by omega) : (c < (65536 : Int32)))) ?_
  rfl
theorem own_same_2_28 (c : Int32) (h1 : 65534 ≤ c.toInt) (h2 : c.toInt < 65536) : own_f2_0 c = 0 := by
  refine Eq.trans (if_neg (own_ltN (65) (by decide) (by omega) : ¬ (c < (65 : Int32)))) ?_
  refine Eq.trans (if_neg (own_gtN (983039) (by decide) (by omega) : ¬ ((983039 : Int32) < c))) ?_
  refine Eq.trans (if_neg (own_ltN (91) (by decide) (by omega) : ¬ (c < (91 : Int32)))) ?_
  refine Eq.trans (if_pos (own_gtY (94) (by decide) (by omega) : ((94 : Int32) < c))) ?_
  refine Eq.trans (if_neg (own_eqN (96) (by decide) (by omega) : ¬ (c = (96 : Int32)))) ?_
  refine Eq.trans (if_neg (own_ltN (123) (by decide) (by omega) : ¬ (c < (123 : Int32)))) ?_
  refine Eq.trans (if_pos (own_gtY (191) (by decide) (by omega) : ((191 : Int32) < c))) ?_
  refine Eq.trans (if_neg (own_eqN (215) (by decide) (by omega) : ¬ (c = (215 : Int32)))) ?_
  refine Eq.trans (if_neg (own_eqN (247) (by decide) (by omega) : ¬ (c = (247 : Int32)))) ?_
  refine Eq.trans (if_neg (own_ltN (768) (by decide) (by omega) : ¬ (c < (768 : Int32)))) ?_
  refine Eq.trans (if_pos (own_gtY (879) (by decide) (by omega) : ((879 : Int32) < c))) ?_
  refine Eq.trans (if_neg (own_eqN (894) (by decide) (by omega) : ¬ (c = (894 : Int32)))) ?_
  refine Eq.trans (if_neg (own_ltN (8192) (by decide) (by omega) : ¬ (c < (8192 : Int32)))) ?_
  refine Eq.trans (if_pos (own_gtY (8203) (by decide) (by omega) : ((8203 : Int32) < c))) ?_
  refine Eq.trans (if_neg (own_ltN (8206) (by decide) (by omega) : ¬ (c < (8206 : Int32)))) ?_
  refine Eq.trans (if_pos (own_gtY (8303) (by decide) (by omega) : ((8303 : Int32) < c))) ?_
  refine Eq.trans (if_neg (own_ltN (8592) (by decide) (by omega) : ¬ (c < (8592 : Int32)))) ?_
  refine Eq.trans (if_pos (own_gtY (11263) (by decide) (by omega) : ((11263 : Int32) < c))) ?_
  refine Eq.trans (if_neg (own_ltN (12272) (by decide) (by omega) : ¬ (c < (12272 : Int32)))) ?_
  refine Eq.trans (if_pos (own_gtY (12288) (by decide) (by omega) : ((12288 : Int32) < c))) ?_
  refine Eq.trans (if_neg (own_ltN (55296) (by decide) (by omega) : ¬ (c < (55296 : Int32)))) ?_
  refine Eq.trans (if_pos (own_gtY (63743) (by decide) (by omega) : ((63743 : Int32) < c))) ?_
  refine Eq.trans (if_neg (own_ltN (64976) (by decide) (by omega) : ¬ (c < (64976 : Int32)))) ?_
  refine Eq.trans (if_pos (own_gtY (65007) (by decide) (by omega) : ((65007 : Int32) < c))) ?_
  refine Eq.trans (if_neg (own_ltN (65534) (by decide) (by omega) : ¬ (c < (65534 : Int32)))) ?_
  refine Eq.trans (if_neg (own_gtN (65535) (by decide) (by omega) : ¬ ((65535 : Int32) < c))) ?_
  rfl
theorem own_same_1_29 (c : Int32) (h1 : 65536 ≤ c.toInt) (h2 : c.toInt < 983040) : own_f1_0 c = 1 := by
  refine Eq.trans (if_neg (own_ltN (97) (by decide) (by omega) : ¬ (c < (97 : Int32)))) ?_
  refine Eq.trans (if_pos (own_gtY (122) (by decide) (by omega) : ((122 : Int32) < c))) ?_
  refine Eq.trans (if_neg (own_ltN (65) (by decide) (by omega) : ¬ (c < (65 : Int32)))) ?_
  refine Eq.trans (if_pos (own_gtY (90) (by decide) (by omega) : ((90 : Int32) < c))) ?_
  refine Eq.trans (if_neg (own_eqN (95) (by decide) (by omega) : ¬ (c = (95 : Int32)))) ?_
  refine Eq.trans (if_neg (own_ltN (192) (by decide) (by omega) : ¬ (c < (192 : Int32)))) ?_
  refine Eq.trans (if_pos (own_gtY (214) (by decide) (by omega) : ((214 : Int32) < c))) ?_
  refine Eq.trans (if_neg (own_ltN (216) (by decide) (by omega) : ¬ (c < (216 : Int32)))) ?_
  refine Eq.trans (if_pos (own_gtY (246) (by decide) (by omega) : ((246 : Int32) < c))) ?_
  refine Eq.trans (if_neg (own_ltN (248) (by decide) (by omega) : ¬ (c < (248 : Int32)))) ?_
  refine Eq.trans (if_pos (own_gtY (767) (by decide) (by omega) : ((767 : Int32) < c))) ?_
  refine Eq.trans (if_neg (own_ltN (880) (by decide) (by omega) : ¬ (c < (880 : Int32)))) ?_
  refine Eq.trans (if_pos (own_gtY (893) (by decide) (by omega) : ((893 : Int32) < c))) ?_
  refine Eq.trans (if_neg (own_ltN (895) (by decide) (by omega) : ¬ (c < (895 : Int32)))) ?_
  refine Eq.trans (if_pos (own_gtY (8191) (by decide) (by omega) : ((8191 : Int32) < c))) ?_
  refine Eq.trans (if_neg (own_ltN (8204) (by decide) (by omega) : ¬ (c < (8204 : Int32)))) ?_
  refine Eq.trans (if_pos (own_gtY (8205) (by decide) (by omega) : ((8205 : Int32) < c))) ?_
  refine Eq.trans (if_neg (own_ltN (8304) (by decide) (by omega) : ¬ (c < (8304 : Int32)))) ?_
  refine Eq.trans (if_pos (own_gtY (8591) (by decide) (by omega) : ((8591 : Int32) < c))) ?_
  refine Eq.trans (if_neg (own_ltN (11264) (by decide) (by omega) : ¬ (c < (11264 : Int32)))) ?_
  refine Eq.trans (if_pos (own_gtY (12271) (by decide) (by omega) : ((12271 : Int32) < c))) ?_
  refine Eq.trans (if_neg (own_ltN (12289) (by decide) (by omega) : ¬ (c < (12289 : Int32)))) ?_
  refine Eq.trans (if_pos (own_gtY (55295) (by decide) (by omega) : ((55295 : Int32) < c))) ?_
  refine Eq.trans (if_neg (own_ltN (63744) (by decide) (by omega) : ¬ (c < (63744 : Int32)))) ?_
  refine Eq.trans (if_pos (own_gtY (64975) (by decide) (by omega) : ((64975 : Int32) < c))) ?_
  refine Eq.trans (if_neg (own_ltN (65008) (by decide) (by omega) : ¬ (c < (65008 : Int32)))) ?_
  refine Eq.trans (if_pos (own_gtY (65533) (by decide) (by omega) : ((65533 : Int32) < c))) ?_
  refine Eq.trans (if_neg (own_ltN (65536) (by decide) (by omega) : ¬ (c < (65536 : Int32)))) ?_
  refine Eq.trans (if_neg (own_gtN (983039) (by decide) (by omega) : ¬ ((983039 : Int32) < c))) ?_
  rfl
theorem own_same_2_29 (c : Int32) (h1 : 65536 ≤ c.toInt) (h2 : c.toInt < 983040) : own_f2_0 c = 1 := by
  refine Eq.trans (if_neg (own_ltN (65) (by decide) (by omega) : ¬ (c < (65 : Int32)))) ?_
  refine Eq.trans (if_neg (own_gtN (983039) (by decide) (by omega) : ¬ ((983039 : Int32) < c))) ?_
  refine Eq.trans (if_neg (own_ltN (91) (by decide) (by omega) : ¬ (c < (91 : Int32)))) ?_
  refine Eq.trans (if_pos (own_gtY (94) (by decide) (by omega) : ((94 : Int32) < c))) ?_
  refine Eq.trans (if_neg (own_eqN (96) (by decide) (by omega) : ¬ (c = (96 : Int32)))) ?_
  refine Eq.trans (if_neg (own_ltN (123) (by decide) (by omega) : ¬ (c < (123 : Int32)))) ?_
  refine Eq.trans (if_pos (own_gtY (191) (by decide) (by omega) : ((191 : Int32) < c))) ?_
  refine Eq.trans (if_neg (own_eqN (215) (by decide) (by omega) : ¬ (c = (215 : Int32)))) ?_
  refine Eq.trans (if_neg (own_eqN (247) (by decide) (by omega) : ¬ (c = (247 : Int32)))) ?_
  refine Eq.trans (if_neg (own_ltN (768) (by decide) (by omega) : ¬ (c < (768 : Int32)))) ?_
  refine Eq.trans (if_pos (own_gtY (879) (by decide) (by omega) : ((879 : Int32) < c))) ?_
  refine Eq.trans (if_neg (own_eqN (894) (by decide) (by omega) : ¬ (c = (894 : Int32)))) ?_
  refine Eq.trans (if_neg (own_ltN (8192) (by decide) (by omega) : ¬ (c < (8192 : Int32)))) ?_
  refine Eq.trans (if_pos (own_gtY (8203) (by decide) (by omega) : ((8203 : Int32) < c))) ?_
  refine Eq.trans (if_neg (own_ltN (8206) (by decide) (by omega) : ¬ (c < (8206 : Int32)))) ?_
  refine Eq.trans (if_pos (own_gtY (8303) (by decide) (by omega) : ((8303 : Int32) < c))) ?_
  refine Eq.trans (if_neg (own_ltN (8592) (by decide) (by omega) : ¬ (c < (8592 : Int32)))) ?_
  refine Eq.trans (if_pos (own_gtY (11263) (by decide) (by omega) : ((11263 : Int32) < c))) ?_
  refine Eq.trans (if_neg (own_ltN (12272) (by decide) (by omega) : ¬ (c < (12272 : Int32)))) ?_
  refine Eq.trans (if_pos (own_gtY (12288) (by decide) (by omega) : ((12288 : Int32) < c))) ?_
  refine Eq.trans (if_neg (own_ltN (55296) (by decide) (by omega) : ¬ (c < (55296 : Int32)))) ?_
  refine Eq.trans (if_pos (own_gtY (63743) (by decide) (by omega) : ((63743 : Int32) < c))) ?_
  refine Eq.trans (if_neg (own_ltN (64976) (by decide) (by omega) : ¬ (c < (64976 : Int32)))) ?_
  refine Eq.trans (if_pos (own_gtY (65007) (by decide) (by omega) : ((65007 : Int32) < c))) ?_
  refine Eq.trans (if_neg (own_ltN (65534) (by decide) (by omega) : ¬ (c < (65534 : Int32)))) ?_
  refine Eq.trans (if_pos (own_gtY (65535) (by decide) (by omega) : ((65535 : Int32) < c))) ?_
  rfl
theorem own_same_1_30 (c : Int32) (h1 : 983040 ≤ c.toInt) (h2 : c.toInt < 2147483648) : own_f1_0 c = 0 := by
  refine Eq.trans (if_neg (own_ltN (97) (by decide) (by omega) : ¬ (c < (97 : Int32)))) ?_
  refine Eq.trans (if_pos (own_gtY (122) (by decide) (by omega) : ((122 : Int32) < c))) ?_
  refine Eq.trans (if_neg (own_ltN (65) (by decide) (by omega) : ¬ (c < (65 : Int32)))) ?_
  refine Eq.trans (if_pos (own_gtY (90) (by decide) (by omega) : ((90 : Int32) < c))) ?_
  refine Eq.trans (if_neg (own_eqN (95) (by decide) (by omega) : ¬ (c = (95 : Int32)))) ?_
  refine Eq.trans (if_neg (own_ltN (192) (by decide) (by omega) : ¬ (c < (192 : Int32)))) ?_
  refine Eq.trans (if_pos (own_gtY (214) (by decide) (by omega) : ((214 : Int32) < c))) ?_
  refine Eq.trans (if_neg (own_ltN (216) (by decide) (by omega) : ¬ (c < (216 : Int32)))) ?_
  refine Eq.trans (if_pos (own_gtY (246) (by decide) (by omega) : ((246 : Int32) < c))) ?_
  refine Eq.trans (if_neg (own_ltN (248) (by decide) (by omega) : ¬ (c < (248 : Int32)))) ?_
  refine Eq.trans (if_pos (own_gtY (767) (by decide) (by omega) : ((767 : Int32) < c))) ?_
  refine Eq.trans (if_neg (own_ltN (880) (by decide) (by omega) : ¬ (c < (880 : Int32)))) ?_
  refine Eq.trans (if_pos (own_gtY (893) (by decide) (by omega) : ((893 : Int32) < c))) ?_
  refine Eq.trans (if_neg (own_ltN (895) (by decide) (by omega) : ¬ (c < (895 : Int32)))) ?_
  refine Eq.trans (if_pos (own_gtY (8191) (by decide) (by omega) : ((8191 : Int32) < c))) ?_
  refine Eq.trans (if_neg (own_ltN (8204) (by decide) (by omega) : ¬ (c < (8204 : Int32)))) ?_
  refine Eq.trans (if_pos (own_gtY (8205) (by decide) (by omega) : ((8205 : Int32) < c))) ?_
  refine Eq.trans (if_neg (own_ltN (8304) (by decide) (by omega) : ¬ (c < (8304 : Int32)))) ?_
  refine Eq.trans (if_pos (own_gtY (8591) (by decide) (by omega) : ((8591 : Int32) < c))) ?_
  refine Eq.trans (if_neg (own_ltN (11264) (by decide) (by omega) : ¬ (c < (11264 : Int32)))) ?_
  refine Eq.trans (if_pos (own_gtY (12271) (by decide) (by omega) : ((12271 : Int32) < c))) ?_
  refine Eq.trans (if_neg (own_ltN (12289) (by decide) (by omega) : ¬ (c < (12289 : Int32)))) ?_
  refine Eq.trans (if_pos (own_gtY (55295) (by decide) (by omega) : ((55295 : Int32) < c))) ?_
  refine Eq.trans (if_neg (own_ltN (63744) (by decide) (by omega) : ¬ (c < (63744 : Int32)))) ?_
  refine Eq.trans (if_pos (own_gtY (64975) (by decide) (by omega) : ((64975 : Int32) < c))) ?_
  refine Eq.trans (if_neg (own_ltN (65008) (by decide) (by omega) : ¬ (c < (65008 : Int32)))) ?_
  refine Eq.trans (if_pos (own_gtY (65533) (by decide) (by omega) : ((65533 : Int32) < c))) ?_
  refine Eq.trans (if_neg (own_ltN (65536) (by decide) (by omega) : ¬ (c < (65536 : Int32)))) ?_
  refine Eq.trans (if_pos (own_gtY (983039) (by decide) (by omega) : ((983039 : Int32) < c))) ?_
  rfl
theorem own_same_2_30 (c : Int32) (h1 : 983040 ≤ c.toInt) (h2 : c.toInt < 2147483648) : own_f2_0 c = 0 := by
  refine Eq.trans (if_neg (own_ltN (65) (by decide) (by omega) : ¬ (c < (65 : Int32)))) ?_
  refine Eq.trans (if_pos (own_gtY (983039) (by decide) (by omega) : ((983039 : Int32) < c))) ?_
  rfl
theorem own_same (c : Int32) : own_f1_0 c = own_f2_0 c := by
  have r := rng32 c
  by_cases q0 : c.toInt < 65
  · exact (own_same_1_0 c (by omega) (by omega)).trans (own_same_2_0 c (by omega) (by omega)).symm
  by_cases q1 : c.toInt < 91
  · exact (own_same_1_1 c (by omega) (by omega)).trans (own_same_2_1 c (by omega) (by omega)).symm
  by_cases q2 : c.toInt < 95
  · exact (own_same_1_2 c (by omega) (by omega)).trans (own_same_2_2 c (by omega) (by omega)).symm
  by_cases q3 : c.toInt < 96
  · exact (own_same_1_3 c (by omega) (by omega)).trans (own_same_2_3 c (by omega) (by omega)).symm
  by_cases q4 : c.toInt < 97
  · exact (own_same_1_4 c (by omega) (by omega)).trans (own_same_2_4 c (by omega) (by omega)).symm
  by_cases q5 : c.toInt < 123
  · exact (own_same_1_5 c (by omega) (by omega)).trans (own_same_2_5 c (by omega) (by omega)).symm
  by_cases q6 : c.toInt < 192
  · exact (own_same_1_6 c (by omega) (by omega)).trans (own_same_2_6 c (by omega) (by omega)).symm
  by_cases q7 : c.toInt < 215
  · exact (own_same_1_7 c (by omega) (by omega)).trans (own_same_2_7 c (by omega) (by omega)).symm
  by_cases q8 : c.toInt < 216
  · exact (own_same_1_8 c (by omega) (by omega)).trans (own_same_2_8 c (by omega) (by omega)).symm
  by_cases q9 : c.toInt < 247
  · exact (own_same_1_9 c (by omega) (by omega)).trans (own_same_2_9 c (by omega) (by omega)).symm
  by_cases q10 : c.toInt < 248
  · exact (own_same_1_10 c (by omega) (by omega)).trans (own_same_2_10 c (by omega) (by omega)).symm
  by_cases q11 : c.toInt < 768
  · exact (own_same_1_11 c (by omega) (by omega)).trans (own_same_2_11 c (by omega) (by omega)).symm
  by_cases q12 : c.toInt < 880
  · exact (own_same_1_12 c (by omega) (by omega)).trans (own_same_2_12 c (by omega) (by omega)).symm
  by_cases q13 : c.toInt < 894
  · exact (own_same_1_13 c (by omega) (by omega)).trans (own_same_2_13 c (by omega) (by omega)).symm
  by_cases q14 : c.toInt < 895
  · exact (own_same_1_14 c (by omega) (by omega)).trans (own_same_2_14 c (by omega) (by omega)).symm
  by_cases q15 : c.toInt < 8192
  · exact (own_same_1_15 c (by omega) (by omega)).trans (own_same_2_15 c (by omega) (by omega)).symm
  by_cases q16 : c.toInt < 8204
  · exact (own_same_1_16 c (by omega) (by omega)).trans (own_same_2_16 c (by omega) (by omega)).symm
  by_cases q17 : c.toInt < 8206
  · exact (own_same_1_17 c (by omega) (by omega)).trans (own_same_2_17 c (by omega) (by omega)).symm
  by_cases q18 : c.toInt < 8304
  · exact (own_same_1_18 c (by omega) (by omega)).trans (own_same_2_18 c (by omega) (by omega)).symm
  by_cases q19 : c.toInt < 8592
  · exact (own_same_1_19 c (by omega) (by omega)).trans (own_same_2_19 c (by omega) (by omega)).symm
  by_cases q20 : c.toInt < 11264
  · exact (own_same_1_20 c (by omega) (by omega)).trans (own_same_2_20 c (by omega) (by omega)).symm
  by_cases q21 : c.toInt < 12272
  · exact (own_same_1_21 c (by omega) (by omega)).trans (own_same_2_21 c (by omega) (by omega)).symm
  by_cases q22 : c.toInt < 12289
  · exact (own_same_1_22 c (by omega) (by omega)).trans (own_same_2_22 c (by omega) (by omega)).symm
  by_cases q23 : c.toInt < 55296
  · exact (own_same_1_23 c (by omega) (by omega)).trans (own_same_2_23 c (by omega) (by omega)).symm
  by_cases q24 : c.toInt < 63744
  · exact (own_same_1_24 c (by omega) (by omega)).trans (own_same_2_24 c (by omega) (by omega)).symm
  by_cases q25 : c.toInt < 64976
  · exact (own_same_1_25 c (by omega) (by omega)).trans (own_same_2_25 c (by omega) (by omega)).symm
  by_cases q26 : c.toInt < 65008
  · exact (own_same_1_26 c (by omega) (by omega)).trans (own_same_2_26 c (by omega) (by omega)).symm
  by_cases q27 : c.toInt < 65534
  · exact (own_same_1_27 c (by omega) (by omega)).trans (own_same_2_27 c (by omega) (by omega)).symm
  by_cases q28 : c.toInt < 65536
  · exact (own_same_1_28 c (by omega) (by omega)).trans (own_same_2_28 c (by omega) (by omega)).symm
  by_cases q29 : c.toInt < 983040
  · exact (own_same_1_29 c (by omega) (by omega)).trans (own_same_2_29 c (by omega) (by omega)).symm
  exact (own_same_1_30 c (by omega) (by omega)).trans (own_same_2_30 c (by omega) (by omega)).symm
theorem own_pn0 : plainName "com/example/hollow_tree/hollowtree/xml/XmlCharsIsNameStartCharPinLaw" = true := by first | (simp [plainName, overriddenIn]; done) | decide +kernel
theorem own_pd0_0 : parseMethodDescriptor "(I)Z" = some ⟨[.int], some .boolean⟩ := by decide +kernel
theorem own_ef0 (m : MethodId) (x0 : Int32) (x1 : Int32) (x2 : Int32) : entryFrame m #[(.int x0), (.int x1), (.int x2)] maxLocals = mkF m 0 #[.val (.int x0), .val (.int x1), .val (.int x2), .unset, .unset, .unset, .unset] [] := by first | (simp [entryFrame, mkF, argsToLocals, Value.category, maxLocals]; done) | rfl
def Q0 (Z : State) (p1 : Int32) (p2 : Int32) (p3 : Int32) (h0 : Heap) (n0 : Nat) (v : Option Value) (h : Heap) (L : List Loc) : Prop := v = some (.int 1) ∧ Fr n0 L
set_option maxRecDepth 65536 in
set_option maxHeartbeats 40000000 in
theorem rm0 (l : Launch) (Z : State) (a0 : Array Value) (hw : ∀ d ∈ tables_1, d.before a0 Z = true) (ws : List Jvm.Cond) (p1 : Int32) (p2 : Int32) (p3 : Int32) (h0 : Heap) (n0 : Nat) (Z0 : n0 ≤ h0.size)  :
    MetFree l x (head1 (Jvm.Cond.code x code maxLocals ret :: ws) room_1) (fun a U => a = #[(.int p1), (.int p2), (.int p3)] ∧ Z.Warmed39 U.vm ∧ U.heap = h0) (fun _ _ _ _ _ => True) (fun _ U o U' => ∃ v L, o = .returned v ∧ Q0 Z p1 p2 p3 h0 n0 v U'.heap L ∧ FrameEnd U o U' L room_1.cells room_1.slots) := by
  refine MetFree.of_bodySF (plainFor_of_name own_pn0) hisR ?_
  intro p e s m args below meth c s₁ Bd hml0 hP hK
  obtain ⟨rfl, hZ, hh⟩ := hP
  have hx := Bd.exec
  have hby := Bd.bytes
  have hml : c.maxLocals = 7 := hml0
  have hown : s.vm.findClass "com/example/hollow_tree/hollowtree/xml/XmlCharsIsNameStartCharPinLaw" = some m.cls := findClass_of_methodNamed Bd.named
  have hnm := (name_of_methodNamed Bd.named Bd.method).1
  have hlk := Bd.notSynchronized
  have X0 : Stand p l e room_1 s m #[(.int p1), (.int p2), (.int p3)] below meth c s₁ [] 0 0 := Stand.of_body Bd
  have e0 : s₁.heap = h0 := by rw [← hh, Bd.state]; rfl
  have N0 := Fr.nil n0
  show own_Goes p e below (fun o U' => ∃ v L, o = .returned v ∧ Q0 Z p1 p2 p3 h0 n0 v U'.heap L ∧ FrameEnd s o U' L room_1.cells room_1.slots) s₁ (entryFrame m #[(.int p1), (.int p2), (.int p3)] maxLocals)
  refine own_st (T' := s₁) (g' := mkF m 0 #[.val (.int p1), .val (.int p2), .val (.int p3), .unset, .unset, .unset, .unset] []) (fun _ k => castTop (own_ef0 m p1 p2 p3) k) ?_
  refine own_st (T' := s₁) (g' := (mkF m 2 #[.val (.int p1), .val (.int p2), .val (.int p3), .unset, .unset, .unset, .unset] [(.int (29 : Int32))])) (fun _ k => XS.bipush (g := (mkF m 0 #[.val (.int p1), .val (.int p2), .val (.int p3), .unset, .unset, .unset, .unset] [])) X0.here hx rfl (hb hby at_0) k) ?_
  obtain ⟨T1, h1, k1, X1, e1, E1, A1, st1⟩ := newP X0 hx hZ (hw _ (List.mem_of_getElem? (i := 0) rfl)) e0 (g := (mkF m 2 #[.val (.int p1), .val (.int p2), .val (.int p3), .unset, .unset, .unset, .unset] [(.int (29 : Int32))])) rfl (hb hby at_2) rfl (by decide) (cap := 29) (by decide) (by decide) (by decide) (by decide)
  obtain ⟨b1, g1⟩ : ∃ z, z = h0.size := ⟨_, rfl⟩
  rw [← g1] at A1 st1
  have gn_b1 : n0 ≤ b1 := Nat.le_trans Z0 (Nat.le_of_eq g1.symm)
  have Zs1 : n0 ≤ h1.size := Nat.le_trans Z0 E1.1
  have V1 : Arv Z h1 b1 k1 .int (29 : Int32) [(.int (0 : Int32)), (.int (0 : Int32)), (.int (0 : Int32)), (.int (0 : Int32)), (.int (0 : Int32)), (.int (0 : Int32)), (.int (0 : Int32)), (.int (0 : Int32)), (.int (0 : Int32)), (.int (0 : Int32)), (.int (0 : Int32)), (.int (0 : Int32)), (.int (0 : Int32)), (.int (0 : Int32)), (.int (0 : Int32)), (.int (0 : Int32)), (.int (0 : Int32)), (.int (0 : Int32)), (.int (0 : Int32)), (.int (0 : Int32)), (.int (0 : Int32)), (.int (0 : Int32)), (.int (0 : Int32)), (.int (0 : Int32)), (.int (0 : Int32)), (.int (0 : Int32)), (.int (0 : Int32)), (.int (0 : Int32)), (.int (0 : Int32))] (.int (0 : Int32)) := (Arv.new A1 (by decide)).pad (pad_rep [] (.int (0 : Int32)) 29)
  refine own_st (T' := T1) (g' := (mkF m 4 #[.val (.int p1), .val (.int p2), .val (.int p3), .unset, .unset, .unset, .unset] [(.ref b1)])) (fun _ k => (st1) _ k) ?_
  refine own_st (T' := T1) (g' := (mkF m 5 #[.val (.int p1), .val (.int p2), .val (.int p3), .unset, .unset, .unset, .unset] [(.ref b1), (.ref b1)])) (fun _ k => XS.dup (g := (mkF m 4 #[.val (.int p1), .val (.int p2), .val (.int p3), .unset, .unset, .unset, .unset] [(.ref b1)])) X1.here hx rfl (hb hby at_4) rfl rfl k) ?_
  refine own_st (T' := T1) (g' := (mkF m 6 #[.val (.int p1), .val (.int p2), .val (.int p3), .unset, .unset, .unset, .unset] [(.int (0 : Int32)), (.ref b1), (.ref b1)])) (fun _ k => XS.iconst (g := (mkF m 5 #[.val (.int p1), .val (.int p2), .val (.int p3), .unset, .unset, .unset, .unset] [(.ref b1), (.ref b1)])) X1.here hx rfl (hb hby at_5) k) ?_
  refine own_st (T' := T1) (g' := (mkF m 8 #[.val (.int p1), .val (.int p2), .val (.int p3), .unset, .unset, .unset, .unset] [(.int (65 : Int32)), (.int (0 : Int32)), (.ref b1), (.ref b1)])) (fun _ k => XS.bipush (g := (mkF m 6 #[.val (.int p1), .val (.int p2), .val (.int p3), .unset, .unset, .unset, .unset] [(.int (0 : Int32)), (.ref b1), (.ref b1)])) X1.here hx rfl (hb hby at_6) k) ?_
  obtain ⟨cl2, Ar2, qk2, Sz2, Nn2, Hs2, Gs2⟩ := V1
  have hin2 : ¬ ((0 : Int32) < 0 ∨ cl2.slots.size ≤ ((0 : Int32)).toNatClampNeg) := inb_of Sz2 ⟨by decide, by decide⟩
  obtain ⟨T2, h2, X2, e2, W2, st2⟩ := stI X1 hx hZ e1 Ar2 (j := (0 : Int32)) hin2 (g := (mkF m 8 #[.val (.int p1), .val (.int p2), .val (.int p3), .unset, .unset, .unset, .unset] [(.int (65 : Int32)), (.int (0 : Int32)), (.ref b1), (.ref b1)])) rfl rfl (hb hby at_8)
  have V2 : Arv Z h2 b1 k1 .int (29 : Int32) [(.int (65 : Int32)), (.int (0 : Int32)), (.int (0 : Int32)), (.int (0 : Int32)), (.int (0 : Int32)), (.int (0 : Int32)), (.int (0 : Int32)), (.int (0 : Int32)), (.int (0 : Int32)), (.int (0 : Int32)), (.int (0 : Int32)), (.int (0 : Int32)), (.int (0 : Int32)), (.int (0 : Int32)), (.int (0 : Int32)), (.int (0 : Int32)), (.int (0 : Int32)), (.int (0 : Int32)), (.int (0 : Int32)), (.int (0 : Int32)), (.int (0 : Int32)), (.int (0 : Int32)), (.int (0 : Int32)), (.int (0 : Int32)), (.int (0 : Int32)), (.int (0 : Int32)), (.int (0 : Int32)), (.int (0 : Int32)), (.int (0 : Int32))] (.int (0 : Int32)) := Arv.set Ar2 qk2 Sz2 Nn2 Hs2 Gs2 rfl W2 0 rfl (Nat.le_of_ble_eq_true rfl)
  have Zs2 : n0 ≤ h2.size := Nat.le_trans Zs1 (Keep.of_wr W2).1
  obtain ⟨lc2, X2, N2⟩ := own_loc X2 (Fr.snoc X2 N0 gn_b1)
  refine own_st (T' := T2) (g' := (mkF m 9 #[.val (.int p1), .val (.int p2), .val (.int p3), .unset, .unset, .unset, .unset] [(.ref b1)])) (fun _ k => (st2) _ k) ?_
  refine own_st (T' := T2) (g' := (mkF m 10 #[.val (.int p1), .val (.int p2), .val (.int p3), .unset, .unset, .unset, .unset] [(.ref b1), (.ref b1)])) (fun _ k => XS.dup (g := (mkF m 9 #[.val (.int p1), .val (.int p2), .val (.int p3), .unset, .unset, .unset, .unset] [(.ref b1)])) X2.here hx rfl (hb hby at_9) rfl rfl k) ?_
  refine own_st (T' := T2) (g' := (mkF m 11 #[.val (.int p1), .val (.int p2), .val (.int p3), .unset, .unset, .unset, .unset] [(.int (1 : Int32)), (.ref b1), (.ref b1)])) (fun _ k => XS.iconst (g := (mkF m 10 #[.val (.int p1), .val (.int p2), .val (.int p3), .unset, .unset, .unset, .unset] [(.ref b1), (.ref b1)])) X2.here hx rfl (hb hby at_10) k) ?_
  refine own_st (T' := T2) (g' := (mkF m 13 #[.val (.int p1), .val (.int p2), .val (.int p3), .unset, .unset, .unset, .unset] [(.int (90 : Int32)), (.int (1 : Int32)), (.ref b1), (.ref b1)])) (fun _ k => XS.bipush (g := (mkF m 11 #[.val (.int p1), .val (.int p2), .val (.int p3), .unset, .unset, .unset, .unset] [(.int (1 : Int32)), (.ref b1), (.ref b1)])) X2.here hx rfl (hb hby at_11) k) ?_
  obtain ⟨cl3, Ar3, qk3, Sz3, Nn3, Hs3, Gs3⟩ := V2
  have hin3 : ¬ ((1 : Int32) < 0 ∨ cl3.slots.size ≤ ((1 : Int32)).toNatClampNeg) := inb_of Sz3 ⟨by decide, by decide⟩
  obtain ⟨T3, h3, X3, e3, W3, st3⟩ := stI X2 hx hZ e2 Ar3 (j := (1 : Int32)) hin3 (g := (mkF m 13 #[.val (.int p1), .val (.int p2), .val (.int p3), .unset, .unset, .unset, .unset] [(.int (90 : Int32)), (.int (1 : Int32)), (.ref b1), (.ref b1)])) rfl rfl (hb hby at_13)
  have V3 : Arv Z h3 b1 k1 .int (29 : Int32) [(.int (65 : Int32)), (.int (90 : Int32)), (.int (0 : Int32)), (.int (0 : Int32)), (.int (0 : Int32)), (.int (0 : Int32)), (.int (0 : Int32)), (.int (0 : Int32)), (.int (0 : Int32)), (.int (0 : Int32)), (.int (0 : Int32)), (.int (0 : Int32)), (.int (0 : Int32)), (.int (0 : Int32)), (.int (0 : Int32)), (.int (0 : Int32)), (.int (0 : Int32)), (.int (0 : Int32)), (.int (0 : Int32)), (.int (0 : Int32)), (.int (0 : Int32)), (.int (0 : Int32)), (.int (0 : Int32)), (.int (0 : Int32)), (.int (0 : Int32)), (.int (0 : Int32)), (.int (0 : Int32)), (.int (0 : Int32)), (.int (0 : Int32))] (.int (0 : Int32)) := Arv.set Ar3 qk3 Sz3 Nn3 Hs3 Gs3 rfl W3 1 rfl (Nat.le_of_ble_eq_true rfl)
  have Zs3 : n0 ≤ h3.size := Nat.le_trans Zs2 (Keep.of_wr W3).1
  obtain ⟨lc3, X3, N3⟩ := own_loc X3 (Fr.snoc X3 N2 gn_b1)
  refine own_st (T' := T3) (g' := (mkF m 14 #[.val (.int p1), .val (.int p2), .val (.int p3), .unset, .unset, .unset, .unset] [(.ref b1)])) (fun _ k => (st3) _ k) ?_
  refine own_st (T' := T3) (g' := (mkF m 15 #[.val (.int p1), .val (.int p2), .val (.int p3), .unset, .unset, .unset, .unset] [(.ref b1), (.ref b1)])) (fun _ k => XS.dup (g := (mkF m 14 #[.val (.int p1), .val (.int p2), .val (.int p3), .unset, .unset, .unset, .unset] [(.ref b1)])) X3.here hx rfl (hb hby at_14) rfl rfl k) ?_
  refine own_st (T' := T3) (g' := (mkF m 16 #[.val (.int p1), .val (.int p2), .val (.int p3), .unset, .unset, .unset, .unset] [(.int (2 : Int32)), (.ref b1), (.ref b1)])) (fun _ k => XS.iconst (g := (mkF m 15 #[.val (.int p1), .val (.int p2), .val (.int p3), .unset, .unset, .unset, .unset] [(.ref b1), (.ref b1)])) X3.here hx rfl (hb hby at_15) k) ?_
  refine own_st (T' := T3) (g' := (mkF m 18 #[.val (.int p1), .val (.int p2), .val (.int p3), .unset, .unset, .unset, .unset] [(.int (95 : Int32)), (.int (2 : Int32)), (.ref b1), (.ref b1)])) (fun _ k => XS.bipush (g := (mkF m 16 #[.val (.int p1), .val (.int p2), .val (.int p3), .unset, .unset, .unset, .unset] [(.int (2 : Int32)), (.ref b1), (.ref b1)])) X3.here hx rfl (hb hby at_16) k) ?_
  obtain ⟨cl4, Ar4, qk4, Sz4, Nn4, Hs4, Gs4⟩ := V3
  have hin4 : ¬ ((2 : Int32) < 0 ∨ cl4.slots.size ≤ ((2 : Int32)).toNatClampNeg) := inb_of Sz4 ⟨by decide, by decide⟩
  obtain ⟨T4, h4, X4, e4, W4, st4⟩ := stI X3 hx hZ e3 Ar4 (j := (2 : Int32)) hin4 (g := (mkF m 18 #[.val (.int p1), .val (.int p2), .val (.int p3), .unset, .unset, .unset, .unset] [(.int (95 : Int32)), (.int (2 : Int32)), (.ref b1), (.ref b1)])) rfl rfl (hb hby at_18)
  have V4 : Arv Z h4 b1 k1 .int (29 : Int32) [(.int (65 : Int32)), (.int (90 : Int32)), (.int (95 : Int32)), (.int (0 : Int32)), (.int (0 : Int32)), (.int (0 : Int32)), (.int (0 : Int32)), (.int (0 : Int32)), (.int (0 : Int32)), (.int (0 : Int32)), (.int (0 : Int32)), (.int (0 : Int32)), (.int (0 : Int32)), (.int (0 : Int32)), (.int (0 : Int32)), (.int (0 : Int32)), (.int (0 : Int32)), (.int (0 : Int32)), (.int (0 : Int32)), (.int (0 : Int32)), (.int (0 : Int32)), (.int (0 : Int32)), (.int (0 : Int32)), (.int (0 : Int32)), (.int (0 : Int32)), (.int (0 : Int32)), (.int (0 : Int32)), (.int (0 : Int32)), (.int (0 : Int32))] (.int (0 : Int32)) := Arv.set Ar4 qk4 Sz4 Nn4 Hs4 Gs4 rfl W4 2 rfl (Nat.le_of_ble_eq_true rfl)
  have Zs4 : n0 ≤ h4.size := Nat.le_trans Zs3 (Keep.of_wr W4).1
  obtain ⟨lc4, X4, N4⟩ := own_loc X4 (Fr.snoc X4 N3 gn_b1)
  refine own_st (T' := T4) (g' := (mkF m 19 #[.val (.int p1), .val (.int p2), .val (.int p3), .unset, .unset, .unset, .unset] [(.ref b1)])) (fun _ k => (st4) _ k) ?_
  refine own_st (T' := T4) (g' := (mkF m 20 #[.val (.int p1), .val (.int p2), .val (.int p3), .unset, .unset, .unset, .unset] [(.ref b1), (.ref b1)])) (fun _ k => XS.dup (g := (mkF m 19 #[.val (.int p1), .val (.int p2), .val (.int p3), .unset, .unset, .unset, .unset] [(.ref b1)])) X4.here hx rfl (hb hby at_19) rfl rfl k) ?_
  refine own_st (T' := T4) (g' := (mkF m 21 #[.val (.int p1), .val (.int p2), .val (.int p3), .unset, .unset, .unset, .unset] [(.int (3 : Int32)), (.ref b1), (.ref b1)])) (fun _ k => XS.iconst (g := (mkF m 20 #[.val (.int p1), .val (.int p2), .val (.int p3), .unset, .unset, .unset, .unset] [(.ref b1), (.ref b1)])) X4.here hx rfl (hb hby at_20) k) ?_
  refine own_st (T' := T4) (g' := (mkF m 23 #[.val (.int p1), .val (.int p2), .val (.int p3), .unset, .unset, .unset, .unset] [(.int (97 : Int32)), (.int (3 : Int32)), (.ref b1), (.ref b1)])) (fun _ k => XS.bipush (g := (mkF m 21 #[.val (.int p1), .val (.int p2), .val (.int p3), .unset, .unset, .unset, .unset] [(.int (3 : Int32)), (.ref b1), (.ref b1)])) X4.here hx rfl (hb hby at_21) k) ?_
  obtain ⟨cl5, Ar5, qk5, Sz5, Nn5, Hs5, Gs5⟩ := V4
  have hin5 : ¬ ((3 : Int32) < 0 ∨ cl5.slots.size ≤ ((3 : Int32)).toNatClampNeg) := inb_of Sz5 ⟨by decide, by decide⟩
  obtain ⟨T5, h5, X5, e5, W5, st5⟩ := stI X4 hx hZ e4 Ar5 (j := (3 : Int32)) hin5 (g := (mkF m 23 #[.val (.int p1), .val (.int p2), .val (.int p3), .unset, .unset, .unset, .unset] [(.int (97 : Int32)), (.int (3 : Int32)), (.ref b1), (.ref b1)])) rfl rfl (hb hby at_23)
  have V5 : Arv Z h5 b1 k1 .int (29 : Int32) [(.int (65 : Int32)), (.int (90 : Int32)), (.int (95 : Int32)), (.int (97 : Int32)), (.int (0 : Int32)), (.int (0 : Int32)), (.int (0 : Int32)), (.int (0 : Int32)), (.int (0 : Int32)), (.int (0 : Int32)), (.int (0 : Int32)), (.int (0 : Int32)), (.int (0 : Int32)), (.int (0 : Int32)), (.int (0 : Int32)), (.int (0 : Int32)), (.int (0 : Int32)), (.int (0 : Int32)), (.int (0 : Int32)), (.int (0 : Int32)), (.int (0 : Int32)), (.int (0 : Int32)), (.int (0 : Int32)), (.int (0 : Int32)), (.int (0 : Int32)), (.int (0 : Int32)), (.int (0 : Int32)), (.int (0 : Int32)), (.int (0 : Int32))] (.int (0 : Int32)) := Arv.set Ar5 qk5 Sz5 Nn5 Hs5 Gs5 rfl W5 3 rfl (Nat.le_of_ble_eq_true rfl)
  have Zs5 : n0 ≤ h5.size := Nat.le_trans Zs4 (Keep.of_wr W5).1
  obtain ⟨lc5, X5, N5⟩ := own_loc X5 (Fr.snoc X5 N4 gn_b1)
  refine own_st (T' := T5) (g' := (mkF m 24 #[.val (.int p1), .val (.int p2), .val (.int p3), .unset, .unset, .unset, .unset] [(.ref b1)])) (fun _ k => (st5) _ k) ?_
  refine own_st (T' := T5) (g' := (mkF m 25 #[.val (.int p1), .val (.int p2), .val (.int p3), .unset, .unset, .unset, .unset] [(.ref b1), (.ref b1)])) (fun _ k => XS.dup (g := (mkF m 24 #[.val (.int p1), .val (.int p2), .val (.int p3), .unset, .unset, .unset, .unset] [(.ref b1)])) X5.here hx rfl (hb hby at_24) rfl rfl k) ?_
  refine own_st (T' := T5) (g' := (mkF m 26 #[.val (.int p1), .val (.int p2), .val (.int p3), .unset, .unset, .unset, .unset] [(.int (4 : Int32)), (.ref b1), (.ref b1)])) (fun _ k => XS.iconst (g := (mkF m 25 #[.val (.int p1), .val (.int p2), .val (.int p3), .unset, .unset, .unset, .unset] [(.ref b1), (.ref b1)])) X5.here hx rfl (hb hby at_25) k) ?_
  refine own_st (T' := T5) (g' := (mkF m 28 #[.val (.int p1), .val (.int p2), .val (.int p3), .unset, .unset, .unset, .unset] [(.int (122 : Int32)), (.int (4 : Int32)), (.ref b1), (.ref b1)])) (fun _ k => XS.bipush (g := (mkF m 26 #[.val (.int p1), .val (.int p2), .val (.int p3), .unset, .unset, .unset, .unset] [(.int (4 : Int32)), (.ref b1), (.ref b1)])) X5.here hx rfl (hb hby at_26) k) ?_
  obtain ⟨cl6, Ar6, qk6, Sz6, Nn6, Hs6, Gs6⟩ := V5
  have hin6 : ¬ ((4 : Int32) < 0 ∨ cl6.slots.size ≤ ((4 : Int32)).toNatClampNeg) := inb_of Sz6 ⟨by decide, by decide⟩
  obtain ⟨T6, h6, X6, e6, W6, st6⟩ := stI X5 hx hZ e5 Ar6 (j := (4 : Int32)) hin6 (g := (mkF m 28 #[.val (.int p1), .val (.int p2), .val (.int p3), .unset, .unset, .unset, .unset] [(.int (122 : Int32)), (.int (4 : Int32)), (.ref b1), (.ref b1)])) rfl rfl (hb hby at_28)
  have V6 : Arv Z h6 b1 k1 .int (29 : Int32) [(.int (65 : Int32)), (.int (90 : Int32)), (.int (95 : Int32)), (.int (97 : Int32)), (.int (122 : Int32)), (.int (0 : Int32)), (.int (0 : Int32)), (.int (0 : Int32)), (.int (0 : Int32)), (.int (0 : Int32)), (.int (0 : Int32)), (.int (0 : Int32)), (.int (0 : Int32)), (.int (0 : Int32)), (.int (0 : Int32)), (.int (0 : Int32)), (.int (0 : Int32)), (.int (0 : Int32)), (.int (0 : Int32)), (.int (0 : Int32)), (.int (0 : Int32)), (.int (0 : Int32)), (.int (0 : Int32)), (.int (0 : Int32)), (.int (0 : Int32)), (.int (0 : Int32)), (.int (0 : Int32)), (.int (0 : Int32)), (.int (0 : Int32))] (.int (0 : Int32)) := Arv.set Ar6 qk6 Sz6 Nn6 Hs6 Gs6 rfl W6 4 rfl (Nat.le_of_ble_eq_true rfl)
  have Zs6 : n0 ≤ h6.size := Nat.le_trans Zs5 (Keep.of_wr W6).1
  obtain ⟨lc6, X6, N6⟩ := own_loc X6 (Fr.snoc X6 N5 gn_b1)
  refine own_st (T' := T6) (g' := (mkF m 29 #[.val (.int p1), .val (.int p2), .val (.int p3), .unset, .unset, .unset, .unset] [(.ref b1)])) (fun _ k => (st6) _ k) ?_
  refine own_st (T' := T6) (g' := (mkF m 30 #[.val (.int p1), .val (.int p2), .val (.int p3), .unset, .unset, .unset, .unset] [(.ref b1), (.ref b1)])) (fun _ k => XS.dup (g := (mkF m 29 #[.val (.int p1), .val (.int p2), .val (.int p3), .unset, .unset, .unset, .unset] [(.ref b1)])) X6.here hx rfl (hb hby at_29) rfl rfl k) ?_
  refine own_st (T' := T6) (g' := (mkF m 31 #[.val (.int p1), .val (.int p2), .val (.int p3), .unset, .unset, .unset, .unset] [(.int (5 : Int32)), (.ref b1), (.ref b1)])) (fun _ k => XS.iconst (g := (mkF m 30 #[.val (.int p1), .val (.int p2), .val (.int p3), .unset, .unset, .unset, .unset] [(.ref b1), (.ref b1)])) X6.here hx rfl (hb hby at_30) k) ?_
  refine own_st (T' := T6) (g' := (mkF m 34 #[.val (.int p1), .val (.int p2), .val (.int p3), .unset, .unset, .unset, .unset] [(.int (192 : Int32)), (.int (5 : Int32)), (.ref b1), (.ref b1)])) (fun _ k => XS.sipush (g := (mkF m 31 #[.val (.int p1), .val (.int p2), .val (.int p3), .unset, .unset, .unset, .unset] [(.int (5 : Int32)), (.ref b1), (.ref b1)])) X6.here hx rfl (hb hby at_31) k) ?_
  obtain ⟨cl7, Ar7, qk7, Sz7, Nn7, Hs7, Gs7⟩ := V6
  have hin7 : ¬ ((5 : Int32) < 0 ∨ cl7.slots.size ≤ ((5 : Int32)).toNatClampNeg) := inb_of Sz7 ⟨by decide, by decide⟩
  obtain ⟨T7, h7, X7, e7, W7, st7⟩ := stI X6 hx hZ e6 Ar7 (j := (5 : Int32)) hin7 (g := (mkF m 34 #[.val (.int p1), .val (.int p2), .val (.int p3), .unset, .unset, .unset, .unset] [(.int (192 : Int32)), (.int (5 : Int32)), (.ref b1), (.ref b1)])) rfl rfl (hb hby at_34)
  have V7 : Arv Z h7 b1 k1 .int (29 : Int32) [(.int (65 : Int32)), (.int (90 : Int32)), (.int (95 : Int32)), (.int (97 : Int32)), (.int (122 : Int32)), (.int (192 : Int32)), (.int (0 : Int32)), (.int (0 : Int32)), (.int (0 : Int32)), (.int (0 : Int32)), (.int (0 : Int32)), (.int (0 : Int32)), (.int (0 : Int32)), (.int (0 : Int32)), (.int (0 : Int32)), (.int (0 : Int32)), (.int (0 : Int32)), (.int (0 : Int32)), (.int (0 : Int32)), (.int (0 : Int32)), (.int (0 : Int32)), (.int (0 : Int32)), (.int (0 : Int32)), (.int (0 : Int32)), (.int (0 : Int32)), (.int (0 : Int32)), (.int (0 : Int32)), (.int (0 : Int32)), (.int (0 : Int32))] (.int (0 : Int32)) := Arv.set Ar7 qk7 Sz7 Nn7 Hs7 Gs7 rfl W7 5 rfl (Nat.le_of_ble_eq_true rfl)
  have Zs7 : n0 ≤ h7.size := Nat.le_trans Zs6 (Keep.of_wr W7).1
  obtain ⟨lc7, X7, N7⟩ := own_loc X7 (Fr.snoc X7 N6 gn_b1)
  refine own_st (T' := T7) (g' := (mkF m 35 #[.val (.int p1), .val (.int p2), .val (.int p3), .unset, .unset, .unset, .unset] [(.ref b1)])) (fun _ k => (st7) _ k) ?_
  refine own_st (T' := T7) (g' := (mkF m 36 #[.val (.int p1), .val (.int p2), .val (.int p3), .unset, .unset, .unset, .unset] [(.ref b1), (.ref b1)])) (fun _ k => XS.dup (g := (mkF m 35 #[.val (.int p1), .val (.int p2), .val (.int p3), .unset, .unset, .unset, .unset] [(.ref b1)])) X7.here hx rfl (hb hby at_35) rfl rfl k) ?_
  refine own_st (T' := T7) (g' := (mkF m 38 #[.val (.int p1), .val (.int p2), .val (.int p3), .unset, .unset, .unset, .unset] [(.int (6 : Int32)), (.ref b1), (.ref b1)])) (fun _ k => XS.bipush (g := (mkF m 36 #[.val (.int p1), .val (.int p2), .val (.int p3), .unset, .unset, .unset, .unset] [(.ref b1), (.ref b1)])) X7.here hx rfl (hb hby at_36) k) ?_
  refine own_st (T' := T7) (g' := (mkF m 41 #[.val (.int p1), .val (.int p2), .val (.int p3), .unset, .unset, .unset, .unset] [(.int (214 : Int32)), (.int (6 : Int32)), (.ref b1), (.ref b1)])) (fun _ k => XS.sipush (g := (mkF m 38 #[.val (.int p1), .val (.int p2), .val (.int p3), .unset, .unset, .unset, .unset] [(.int (6 : Int32)), (.ref b1), (.ref b1)])) X7.here hx rfl (hb hby at_38) k) ?_
  obtain ⟨cl8, Ar8, qk8, Sz8, Nn8, Hs8, Gs8⟩ := V7
  have hin8 : ¬ ((6 : Int32) < 0 ∨ cl8.slots.size ≤ ((6 : Int32)).toNatClampNeg) := inb_of Sz8 ⟨by decide, by decide⟩
  obtain ⟨T8, h8, X8, e8, W8, st8⟩ := stI X7 hx hZ e7 Ar8 (j := (6 : Int32)) hin8 (g := (mkF m 41 #[.val (.int p1), .val (.int p2), .val (.int p3), .unset, .unset, .unset, .unset] [(.int (214 : Int32)), (.int (6 : Int32)), (.ref b1), (.ref b1)])) rfl rfl (hb hby at_41)
  have V8 : Arv Z h8 b1 k1 .int (29 : Int32) [(.int (65 : Int32)), (.int (90 : Int32)), (.int (95 : Int32)), (.int (97 : Int32)), (.int (122 : Int32)), (.int (192 : Int32)), (.int (214 : Int32)), (.int (0 : Int32)), (.int (0 : Int32)), (.int (0 : Int32)), (.int (0 : Int32)), (.int (0 : Int32)), (.int (0 : Int32)), (.int (0 : Int32)), (.int (0 : Int32)), (.int (0 : Int32)), (.int (0 : Int32)), (.int (0 : Int32)), (.int (0 : Int32)), (.int (0 : Int32)), (.int (0 : Int32)), (.int (0 : Int32)), (.int (0 : Int32)), (.int (0 : Int32)), (.int (0 : Int32)), (.int (0 : Int32)), (.int (0 : Int32)), (.int (0 : Int32)), (.int (0 : Int32))] (.int (0 : Int32)) := Arv.set Ar8 qk8 Sz8 Nn8 Hs8 Gs8 rfl W8 6 rfl (Nat.le_of_ble_eq_true rfl)
  have Zs8 : n0 ≤ h8.size := Nat.le_trans Zs7 (Keep.of_wr W8).1
  obtain ⟨lc8, X8, N8⟩ := own_loc X8 (Fr.snoc X8 N7 gn_b1)
  refine own_st (T' := T8) (g' := (mkF m 42 #[.val (.int p1), .val (.int p2), .val (.int p3), .unset, .unset, .unset, .unset] [(.ref b1)])) (fun _ k => (st8) _ k) ?_
  refine own_st (T' := T8) (g' := (mkF m 43 #[.val (.int p1), .val (.int p2), .val (.int p3), .unset, .unset, .unset, .unset] [(.ref b1), (.ref b1)])) (fun _ k => XS.dup (g := (mkF m 42 #[.val (.int p1), .val (.int p2), .val (.int p3), .unset, .unset, .unset, .unset] [(.ref b1)])) X8.here hx rfl (hb hby at_42) rfl rfl k) ?_
  refine own_st (T' := T8) (g' := (mkF m 45 #[.val (.int p1), .val (.int p2), .val (.int p3), .unset, .unset, .unset, .unset] [(.int (7 : Int32)), (.ref b1), (.ref b1)])) (fun _ k => XS.bipush (g := (mkF m 43 #[.val (.int p1), .val (.int p2), .val (.int p3), .unset, .unset, .unset, .unset] [(.ref b1), (.ref b1)])) X8.here hx rfl (hb hby at_43) k) ?_
  refine own_st (T' := T8) (g' := (mkF m 48 #[.val (.int p1), .val (.int p2), .val (.int p3), .unset, .unset, .unset, .unset] [(.int (216 : Int32)), (.int (7 : Int32)), (.ref b1), (.ref b1)])) (fun _ k => XS.sipush (g := (mkF m 45 #[.val (.int p1), .val (.int p2), .val (.int p3), .unset, .unset, .unset, .unset] [(.int (7 : Int32)), (.ref b1), (.ref b1)])) X8.here hx rfl (hb hby at_45) k) ?_
  obtain ⟨cl9, Ar9, qk9, Sz9, Nn9, Hs9, Gs9⟩ := V8
  have hin9 : ¬ ((7 : Int32) < 0 ∨ cl9.slots.size ≤ ((7 : Int32)).toNatClampNeg) := inb_of Sz9 ⟨by decide, by decide⟩
  obtain ⟨T9, h9, X9, e9, W9, st9⟩ := stI X8 hx hZ e8 Ar9 (j := (7 : Int32)) hin9 (g := (mkF m 48 #[.val (.int p1), .val (.int p2), .val (.int p3), .unset, .unset, .unset, .unset] [(.int (216 : Int32)), (.int (7 : Int32)), (.ref b1), (.ref b1)])) rfl rfl (hb hby at_48)
  have V9 : Arv Z h9 b1 k1 .int (29 : Int32) [(.int (65 : Int32)), (.int (90 : Int32)), (.int (95 : Int32)), (.int (97 : Int32)), (.int (122 : Int32)), (.int (192 : Int32)), (.int (214 : Int32)), (.int (216 : Int32)), (.int (0 : Int32)), (.int (0 : Int32)), (.int (0 : Int32)), (.int (0 : Int32)), (.int (0 : Int32)), (.int (0 : Int32)), (.int (0 : Int32)), (.int (0 : Int32)), (.int (0 : Int32)), (.int (0 : Int32)), (.int (0 : Int32)), (.int (0 : Int32)), (.int (0 : Int32)), (.int (0 : Int32)), (.int (0 : Int32)), (.int (0 : Int32)), (.int (0 : Int32)), (.int (0 : Int32)), (.int (0 : Int32)), (.int (0 : Int32)), (.int (0 : Int32))] (.int (0 : Int32)) := Arv.set Ar9 qk9 Sz9 Nn9 Hs9 Gs9 rfl W9 7 rfl (Nat.le_of_ble_eq_true rfl)
  have Zs9 : n0 ≤ h9.size := Nat.le_trans Zs8 (Keep.of_wr W9).1
  obtain ⟨lc9, X9, N9⟩ := own_loc X9 (Fr.snoc X9 N8 gn_b1)
  refine own_st (T' := T9) (g' := (mkF m 49 #[.val (.int p1), .val (.int p2), .val (.int p3), .unset, .unset, .unset, .unset] [(.ref b1)])) (fun _ k => (st9) _ k) ?_
  refine own_st (T' := T9) (g' := (mkF m 50 #[.val (.int p1), .val (.int p2), .val (.int p3), .unset, .unset, .unset, .unset] [(.ref b1), (.ref b1)])) (fun _ k => XS.dup (g := (mkF m 49 #[.val (.int p1), .val (.int p2), .val (.int p3), .unset, .unset, .unset, .unset] [(.ref b1)])) X9.here hx rfl (hb hby at_49) rfl rfl k) ?_
  refine own_st (T' := T9) (g' := (mkF m 52 #[.val (.int p1), .val (.int p2), .val (.int p3), .unset, .unset, .unset, .unset] [(.int (8 : Int32)), (.ref b1), (.ref b1)])) (fun _ k => XS.bipush (g := (mkF m 50 #[.val (.int p1), .val (.int p2), .val (.int p3), .unset, .unset, .unset, .unset] [(.ref b1), (.ref b1)])) X9.here hx rfl (hb hby at_50) k) ?_
  refine own_st (T' := T9) (g' := (mkF m 55 #[.val (.int p1), .val (.int p2), .val (.int p3), .unset, .unset, .unset, .unset] [(.int (246 : Int32)), (.int (8 : Int32)), (.ref b1), (.ref b1)])) (fun _ k => XS.sipush (g := (mkF m 52 #[.val (.int p1), .val (.int p2), .val (.int p3), .unset, .unset, .unset, .unset] [(.int (8 : Int32)), (.ref b1), (.ref b1)])) X9.here hx rfl (hb hby at_52) k) ?_
  obtain ⟨cl10, Ar10, qk10, Sz10, Nn10, Hs10, Gs10⟩ := V9
  have hin10 : ¬ ((8 : Int32) < 0 ∨ cl10.slots.size ≤ ((8 : Int32)).toNatClampNeg) := inb_of Sz10 ⟨by decide, by decide⟩
  obtain ⟨T10, h10, X10, e10, W10, st10⟩ := stI X9 hx hZ e9 Ar10 (j := (8 : Int32)) hin10 (g := (mkF m 55 #[.val (.int p1), .val (.int p2), .val (.int p3), .unset, .unset, .unset, .unset] [(.int (246 : Int32)), (.int (8 : Int32)), (.ref b1), (.ref b1)])) rfl rfl (hb hby at_55)
  have V10 : Arv Z h10 b1 k1 .int (29 : Int32) [(.int (65 : Int32)), (.int (90 : Int32)), (.int (95 : Int32)), (.int (97 : Int32)), (.int (122 : Int32)), (.int (192 : Int32)), (.int (214 : Int32)), (.int (216 : Int32)), (.int (246 : Int32)), (.int (0 : Int32)), (.int (0 : Int32)), (.int (0 : Int32)), (.int (0 : Int32)), (.int (0 : Int32)), (.int (0 : Int32)), (.int (0 : Int32)), (.int (0 : Int32)), (.int (0 : Int32)), (.int (0 : Int32)), (.int (0 : Int32)), (.int (0 : Int32)), (.int (0 : Int32)), (.int (0 : Int32)), (.int (0 : Int32)), (.int (0 : Int32)), (.int (0 : Int32)), (.int (0 : Int32)), (.int (0 : Int32)), (.int (0 : Int32))] (.int (0 : Int32)) := Arv.set Ar10 qk10 Sz10 Nn10 Hs10 Gs10 rfl W10 8 rfl (Nat.le_of_ble_eq_true rfl)
  have Zs10 : n0 ≤ h10.size := Nat.le_trans Zs9 (Keep.of_wr W10).1
  obtain ⟨lc10, X10, N10⟩ := own_loc X10 (Fr.snoc X10 N9 gn_b1)
  refine own_st (T' := T10) (g' := (mkF m 56 #[.val (.int p1), .val (.int p2), .val (.int p3), .unset, .unset, .unset, .unset] [(.ref b1)])) (fun _ k => (st10) _ k) ?_
  refine own_st (T' := T10) (g' := (mkF m 57 #[.val (.int p1), .val (.int p2), .val (.int p3), .unset, .unset, .unset, .unset] [(.ref b1), (.ref b1)])) (fun _ k => XS.dup (g := (mkF m 56 #[.val (.int p1), .val (.int p2), .val (.int p3), .unset, .unset, .unset, .unset] [(.ref b1)])) X10.here hx rfl (hb hby at_56) rfl rfl k) ?_
  refine own_st (T' := T10) (g' := (mkF m 59 #[.val (.int p1), .val (.int p2), .val (.int p3), .unset, .unset, .unset, .unset] [(.int (9 : Int32)), (.ref b1), (.ref b1)])) (fun _ k => XS.bipush (g := (mkF m 57 #[.val (.int p1), .val (.int p2), .val (.int p3), .unset, .unset, .unset, .unset] [(.ref b1), (.ref b1)])) X10.here hx rfl (hb hby at_57) k) ?_
  refine own_st (T' := T10) (g' := (mkF m 62 #[.val (.int p1), .val (.int p2), .val (.int p3), .unset, .unset, .unset, .unset] [(.int (248 : Int32)), (.int (9 : Int32)), (.ref b1), (.ref b1)])) (fun _ k => XS.sipush (g := (mkF m 59 #[.val (.int p1), .val (.int p2), .val (.int p3), .unset, .unset, .unset, .unset] [(.int (9 : Int32)), (.ref b1), (.ref b1)])) X10.here hx rfl (hb hby at_59) k) ?_
  obtain ⟨cl11, Ar11, qk11, Sz11, Nn11, Hs11, Gs11⟩ := V10
  have hin11 : ¬ ((9 : Int32) < 0 ∨ cl11.slots.size ≤ ((9 : Int32)).toNatClampNeg) := inb_of Sz11 ⟨by decide, by decide⟩
  obtain ⟨T11, h11, X11, e11, W11, st11⟩ := stI X10 hx hZ e10 Ar11 (j := (9 : Int32)) hin11 (g := (mkF m 62 #[.val (.int p1), .val (.int p2), .val (.int p3), .unset, .unset, .unset, .unset] [(.int (248 : Int32)), (.int (9 : Int32)), (.ref b1), (.ref b1)])) rfl rfl (hb hby at_62)
  have V11 : Arv Z h11 b1 k1 .int (29 : Int32) [(.int (65 : Int32)), (.int (90 : Int32)), (.int (95 : Int32)), (.int (97 : Int32)), (.int (122 : Int32)), (.int (192 : Int32)), (.int (214 : Int32)), (.int (216 : Int32)), (.int (246 : Int32)), (.int (248 : Int32)), (.int (0 : Int32)), (.int (0 : Int32)), (.int (0 : Int32)), (.int (0 : Int32)), (.int (0 : Int32)), (.int (0 : Int32)), (.int (0 : Int32)), (.int (0 : Int32)), (.int (0 : Int32)), (.int (0 : Int32)), (.int (0 : Int32)), (.int (0 : Int32)), (.int (0 : Int32)), (.int (0 : Int32)), (.int (0 : Int32)), (.int (0 : Int32)), (.int (0 : Int32)), (.int (0 : Int32)), (.int (0 : Int32))] (.int (0 : Int32)) := Arv.set Ar11 qk11 Sz11 Nn11 Hs11 Gs11 rfl W11 9 rfl (Nat.le_of_ble_eq_true rfl)
  have Zs11 : n0 ≤ h11.size := Nat.le_trans Zs10 (Keep.of_wr W11).1
  obtain ⟨lc11, X11, N11⟩ := own_loc X11 (Fr.snoc X11 N10 gn_b1)
  refine own_st (T' := T11) (g' := (mkF m 63 #[.val (.int p1), .val (.int p2), .val (.int p3), .unset, .unset, .unset, .unset] [(.ref b1)])) (fun _ k => (st11) _ k) ?_
  refine own_st (T' := T11) (g' := (mkF m 64 #[.val (.int p1), .val (.int p2), .val (.int p3), .unset, .unset, .unset, .unset] [(.ref b1), (.ref b1)])) (fun _ k => XS.dup (g := (mkF m 63 #[.val (.int p1), .val (.int p2), .val (.int p3), .unset, .unset, .unset, .unset] [(.ref b1)])) X11.here hx rfl (hb hby at_63) rfl rfl k) ?_
  refine own_st (T' := T11) (g' := (mkF m 66 #[.val (.int p1), .val (.int p2), .val (.int p3), .unset, .unset, .unset, .unset] [(.int (10 : Int32)), (.ref b1), (.ref b1)])) (fun _ k => XS.bipush (g := (mkF m 64 #[.val (.int p1), .val (.int p2), .val (.int p3), .unset, .unset, .unset, .unset] [(.ref b1), (.ref b1)])) X11.here hx rfl (hb hby at_64) k) ?_
  refine own_st (T' := T11) (g' := (mkF m 69 #[.val (.int p1), .val (.int p2), .val (.int p3), .unset, .unset, .unset, .unset] [(.int (767 : Int32)), (.int (10 : Int32)), (.ref b1), (.ref b1)])) (fun _ k => XS.sipush (g := (mkF m 66 #[.val (.int p1), .val (.int p2), .val (.int p3), .unset, .unset, .unset, .unset] [(.int (10 : Int32)), (.ref b1), (.ref b1)])) X11.here hx rfl (hb hby at_66) k) ?_
  obtain ⟨cl12, Ar12, qk12, Sz12, Nn12, Hs12, Gs12⟩ := V11
  have hin12 : ¬ ((10 : Int32) < 0 ∨ cl12.slots.size ≤ ((10 : Int32)).toNatClampNeg) := inb_of Sz12 ⟨by decide, by decide⟩
  obtain ⟨T12, h12, X12, e12, W12, st12⟩ := stI X11 hx hZ e11 Ar12 (j := (10 : Int32)) hin12 (g := (mkF m 69 #[.val (.int p1), .val (.int p2), .val (.int p3), .unset, .unset, .unset, .unset] [(.int (767 : Int32)), (.int (10 : Int32)), (.ref b1), (.ref b1)])) rfl rfl (hb hby at_69)
  have V12 : Arv Z h12 b1 k1 .int (29 : Int32) [(.int (65 : Int32)), (.int (90 : Int32)), (.int (95 : Int32)), (.int (97 : Int32)), (.int (122 : Int32)), (.int (192 : Int32)), (.int (214 : Int32)), (.int (216 : Int32)), (.int (246 : Int32)), (.int (248 : Int32)), (.int (767 : Int32)), (.int (0 : Int32)), (.int (0 : Int32)), (.int (0 : Int32)), (.int (0 : Int32)), (.int (0 : Int32)), (.int (0 : Int32)), (.int (0 : Int32)), (.int (0 : Int32)), (.int (0 : Int32)), (.int (0 : Int32)), (.int (0 : Int32)), (.int (0 : Int32)), (.int (0 : Int32)), (.int (0 : Int32)), (.int (0 : Int32)), (.int (0 : Int32)), (.int (0 : Int32)), (.int (0 : Int32))] (.int (0 : Int32)) := Arv.set Ar12 qk12 Sz12 Nn12 Hs12 Gs12 rfl W12 10 rfl (Nat.le_of_ble_eq_true rfl)
  have Zs12 : n0 ≤ h12.size := Nat.le_trans Zs11 (Keep.of_wr W12).1
  obtain ⟨lc12, X12, N12⟩ := own_loc X12 (Fr.snoc X12 N11 gn_b1)
  refine own_st (T' := T12) (g' := (mkF m 70 #[.val (.int p1), .val (.int p2), .val (.int p3), .unset, .unset, .unset, .unset] [(.ref b1)])) (fun _ k => (st12) _ k) ?_
  refine own_st (T' := T12) (g' := (mkF m 71 #[.val (.int p1), .val (.int p2), .val (.int p3), .unset, .unset, .unset, .unset] [(.ref b1), (.ref b1)])) (fun _ k => XS.dup (g := (mkF m 70 #[.val (.int p1), .val (.int p2), .val (.int p3), .unset, .unset, .unset, .unset] [(.ref b1)])) X12.here hx rfl (hb hby at_70) rfl rfl k) ?_
  refine own_st (T' := T12) (g' := (mkF m 73 #[.val (.int p1), .val (.int p2), .val (.int p3), .unset, .unset, .unset, .unset] [(.int (11 : Int32)), (.ref b1), (.ref b1)])) (fun _ k => XS.bipush (g := (mkF m 71 #[.val (.int p1), .val (.int p2), .val (.int p3), .unset, .unset, .unset, .unset] [(.ref b1), (.ref b1)])) X12.here hx rfl (hb hby at_71) k) ?_
  refine own_st (T' := T12) (g' := (mkF m 76 #[.val (.int p1), .val (.int p2), .val (.int p3), .unset, .unset, .unset, .unset] [(.int (880 : Int32)), (.int (11 : Int32)), (.ref b1), (.ref b1)])) (fun _ k => XS.sipush (g := (mkF m 73 #[.val (.int p1), .val (.int p2), .val (.int p3), .unset, .unset, .unset, .unset] [(.int (11 : Int32)), (.ref b1), (.ref b1)])) X12.here hx rfl (hb hby at_73) k) ?_
  obtain ⟨cl13, Ar13, qk13, Sz13, Nn13, Hs13, Gs13⟩ := V12
  have hin13 : ¬ ((11 : Int32) < 0 ∨ cl13.slots.size ≤ ((11 : Int32)).toNatClampNeg) := inb_of Sz13 ⟨by decide, by decide⟩
  obtain ⟨T13, h13, X13, e13, W13, st13⟩ := stI X12 hx hZ e12 Ar13 (j := (11 : Int32)) hin13 (g := (mkF m 76 #[.val (.int p1), .val (.int p2), .val (.int p3), .unset, .unset, .unset, .unset] [(.int (880 : Int32)), (.int (11 : Int32)), (.ref b1), (.ref b1)])) rfl rfl (hb hby at_76)
  have V13 : Arv Z h13 b1 k1 .int (29 : Int32) [(.int (65 : Int32)), (.int (90 : Int32)), (.int (95 : Int32)), (.int (97 : Int32)), (.int (122 : Int32)), (.int (192 : Int32)), (.int (214 : Int32)), (.int (216 : Int32)), (.int (246 : Int32)), (.int (248 : Int32)), (.int (767 : Int32)), (.int (880 : Int32)), (.int (0 : Int32)), (.int (0 : Int32)), (.int (0 : Int32)), (.int (0 : Int32)), (.int (0 : Int32)), (.int (0 : Int32)), (.int (0 : Int32)), (.int (0 : Int32)), (.int (0 : Int32)), (.int (0 : Int32)), (.int (0 : Int32)), (.int (0 : Int32)), (.int (0 : Int32)), (.int (0 : Int32)), (.int (0 : Int32)), (.int (0 : Int32)), (.int (0 : Int32))] (.int (0 : Int32)) := Arv.set Ar13 qk13 Sz13 Nn13 Hs13 Gs13 rfl W13 11 rfl (Nat.le_of_ble_eq_true rfl)
  have Zs13 : n0 ≤ h13.size := Nat.le_trans Zs12 (Keep.of_wr W13).1
  obtain ⟨lc13, X13, N13⟩ := own_loc X13 (Fr.snoc X13 N12 gn_b1)
  refine own_st (T' := T13) (g' := (mkF m 77 #[.val (.int p1), .val (.int p2), .val (.int p3), .unset, .unset, .unset, .unset] [(.ref b1)])) (fun _ k => (st13) _ k) ?_
  refine own_st (T' := T13) (g' := (mkF m 78 #[.val (.int p1), .val (.int p2), .val (.int p3), .unset, .unset, .unset, .unset] [(.ref b1), (.ref b1)])) (fun _ k => XS.dup (g := (mkF m 77 #[.val (.int p1), .val (.int p2), .val (.int p3), .unset, .unset, .unset, .unset] [(.ref b1)])) X13.here hx rfl (hb hby at_77) rfl rfl k) ?_
  refine own_st (T' := T13) (g' := (mkF m 80 #[.val (.int p1), .val (.int p2), .val (.int p3), .unset, .unset, .unset, .unset] [(.int (12 : Int32)), (.ref b1), (.ref b1)])) (fun _ k => XS.bipush (g := (mkF m 78 #[.val (.int p1), .val (.int p2), .val (.int p3), .unset, .unset, .unset, .unset] [(.ref b1), (.ref b1)])) X13.here hx rfl (hb hby at_78) k) ?_
  refine own_st (T' := T13) (g' := (mkF m 83 #[.val (.int p1), .val (.int p2), .val (.int p3), .unset, .unset, .unset, .unset] [(.int (893 : Int32)), (.int (12 : Int32)), (.ref b1), (.ref b1)])) (fun _ k => XS.sipush (g := (mkF m 80 #[.val (.int p1), .val (.int p2), .val (.int p3), .unset, .unset, .unset, .unset] [(.int (12 : Int32)), (.ref b1), (.ref b1)])) X13.here hx rfl (hb hby at_80) k) ?_
  obtain ⟨cl14, Ar14, qk14, Sz14, Nn14, Hs14, Gs14⟩ := V13
  have hin14 : ¬ ((12 : Int32) < 0 ∨ cl14.slots.size ≤ ((12 : Int32)).toNatClampNeg) := inb_of Sz14 ⟨by decide, by decide⟩
  obtain ⟨T14, h14, X14, e14, W14, st14⟩ := stI X13 hx hZ e13 Ar14 (j := (12 : Int32)) hin14 (g := (mkF m 83 #[.val (.int p1), .val (.int p2), .val (.int p3), .unset, .unset, .unset, .unset] [(.int (893 : Int32)), (.int (12 : Int32)), (.ref b1), (.ref b1)])) rfl rfl (hb hby at_83)
  have V14 : Arv Z h14 b1 k1 .int (29 : Int32) [(.int (65 : Int32)), (.int (90 : Int32)), (.int (95 : Int32)), (.int (97 : Int32)), (.int (122 : Int32)), (.int (192 : Int32)), (.int (214 : Int32)), (.int (216 : Int32)), (.int (246 : Int32)), (.int (248 : Int32)), (.int (767 : Int32)), (.int (880 : Int32)), (.int (893 : Int32)), (.int (0 : Int32)), (.int (0 : Int32)), (.int (0 : Int32)), (.int (0 : Int32)), (.int (0 : Int32)), (.int (0 : Int32)), (.int (0 : Int32)), (.int (0 : Int32)), (.int (0 : Int32)), (.int (0 : Int32)), (.int (0 : Int32)), (.int (0 : Int32)), (.int (0 : Int32)), (.int (0 : Int32)), (.int (0 : Int32)), (.int (0 : Int32))] (.int (0 : Int32)) := Arv.set Ar14 qk14 Sz14 Nn14 Hs14 Gs14 rfl W14 12 rfl (Nat.le_of_ble_eq_true rfl)
  have Zs14 : n0 ≤ h14.size := Nat.le_trans Zs13 (Keep.of_wr W14).1
  obtain ⟨lc14, X14, N14⟩ := own_loc X14 (Fr.snoc X14 N13 gn_b1)
  refine own_st (T' := T14) (g' := (mkF m 84 #[.val (.int p1), .val (.int p2), .val (.int p3), .unset, .unset, .unset, .unset] [(.ref b1)])) (fun _ k => (st14) _ k) ?_
  refine own_st (T' := T14) (g' := (mkF m 85 #[.val (.int p1), .val (.int p2), .val (.int p3), .unset, .unset, .unset, .unset] [(.ref b1), (.ref b1)])) (fun _ k => XS.dup (g := (mkF m 84 #[.val (.int p1), .val (.int p2), .val (.int p3), .unset, .unset, .unset, .unset] [(.ref b1)])) X14.here hx rfl (hb hby at_84) rfl rfl k) ?_
  refine own_st (T' := T14) (g' := (mkF m 87 #[.val (.int p1), .val (.int p2), .val (.int p3), .unset, .unset, .unset, .unset] [(.int (13 : Int32)), (.ref b1), (.ref b1)])) (fun _ k => XS.bipush (g := (mkF m 85 #[.val (.int p1), .val (.int p2), .val (.int p3), .unset, .unset, .unset, .unset] [(.ref b1), (.ref b1)])) X14.here hx rfl (hb hby at_85) k) ?_
  refine own_st (T' := T14) (g' := (mkF m 90 #[.val (.int p1), .val (.int p2), .val (.int p3), .unset, .unset, .unset, .unset] [(.int (895 : Int32)), (.int (13 : Int32)), (.ref b1), (.ref b1)])) (fun _ k => XS.sipush (g := (mkF m 87 #[.val (.int p1), .val (.int p2), .val (.int p3), .unset, .unset, .unset, .unset] [(.int (13 : Int32)), (.ref b1), (.ref b1)])) X14.here hx rfl (hb hby at_87) k) ?_
  obtain ⟨cl15, Ar15, qk15, Sz15, Nn15, Hs15, Gs15⟩ := V14
  have hin15 : ¬ ((13 : Int32) < 0 ∨ cl15.slots.size ≤ ((13 : Int32)).toNatClampNeg) := inb_of Sz15 ⟨by decide, by decide⟩
  obtain ⟨T15, h15, X15, e15, W15, st15⟩ := stI X14 hx hZ e14 Ar15 (j := (13 : Int32)) hin15 (g := (mkF m 90 #[.val (.int p1), .val (.int p2), .val (.int p3), .unset, .unset, .unset, .unset] [(.int (895 : Int32)), (.int (13 : Int32)), (.ref b1), (.ref b1)])) rfl rfl (hb hby at_90)
  have V15 : Arv Z h15 b1 k1 .int (29 : Int32) [(.int (65 : Int32)), (.int (90 : Int32)), (.int (95 : Int32)), (.int (97 : Int32)), (.int (122 : Int32)), (.int (192 : Int32)), (.int (214 : Int32)), (.int (216 : Int32)), (.int (246 : Int32)), (.int (248 : Int32)), (.int (767 : Int32)), (.int (880 : Int32)), (.int (893 : Int32)), (.int (895 : Int32)), (.int (0 : Int32)), (.int (0 : Int32)), (.int (0 : Int32)), (.int (0 : Int32)), (.int (0 : Int32)), (.int (0 : Int32)), (.int (0 : Int32)), (.int (0 : Int32)), (.int (0 : Int32)), (.int (0 : Int32)), (.int (0 : Int32)), (.int (0 : Int32)), (.int (0 : Int32)), (.int (0 : Int32)), (.int (0 : Int32))] (.int (0 : Int32)) := Arv.set Ar15 qk15 Sz15 Nn15 Hs15 Gs15 rfl W15 13 rfl (Nat.le_of_ble_eq_true rfl)
  have Zs15 : n0 ≤ h15.size := Nat.le_trans Zs14 (Keep.of_wr W15).1
  obtain ⟨lc15, X15, N15⟩ := own_loc X15 (Fr.snoc X15 N14 gn_b1)
  refine own_st (T' := T15) (g' := (mkF m 91 #[.val (.int p1), .val (.int p2), .val (.int p3), .unset, .unset, .unset, .unset] [(.ref b1)])) (fun _ k => (st15) _ k) ?_
  refine own_st (T' := T15) (g' := (mkF m 92 #[.val (.int p1), .val (.int p2), .val (.int p3), .unset, .unset, .unset, .unset] [(.ref b1), (.ref b1)])) (fun _ k => XS.dup (g := (mkF m 91 #[.val (.int p1), .val (.int p2), .val (.int p3), .unset, .unset, .unset, .unset] [(.ref b1)])) X15.here hx rfl (hb hby at_91) rfl rfl k) ?_
  refine own_st (T' := T15) (g' := (mkF m 94 #[.val (.int p1), .val (.int p2), .val (.int p3), .unset, .unset, .unset, .unset] [(.int (14 : Int32)), (.ref b1), (.ref b1)])) (fun _ k => XS.bipush (g := (mkF m 92 #[.val (.int p1), .val (.int p2), .val (.int p3), .unset, .unset, .unset, .unset] [(.ref b1), (.ref b1)])) X15.here hx rfl (hb hby at_92) k) ?_
  refine own_st (T' := T15) (g' := (mkF m 97 #[.val (.int p1), .val (.int p2), .val (.int p3), .unset, .unset, .unset, .unset] [(.int (8191 : Int32)), (.int (14 : Int32)), (.ref b1), (.ref b1)])) (fun _ k => XS.sipush (g := (mkF m 94 #[.val (.int p1), .val (.int p2), .val (.int p3), .unset, .unset, .unset, .unset] [(.int (14 : Int32)), (.ref b1), (.ref b1)])) X15.here hx rfl (hb hby at_94) k) ?_
  obtain ⟨cl16, Ar16, qk16, Sz16, Nn16, Hs16, Gs16⟩ := V15
  have hin16 : ¬ ((14 : Int32) < 0 ∨ cl16.slots.size ≤ ((14 : Int32)).toNatClampNeg) := inb_of Sz16 ⟨by decide, by decide⟩
  obtain ⟨T16, h16, X16, e16, W16, st16⟩ := stI X15 hx hZ e15 Ar16 (j := (14 : Int32)) hin16 (g := (mkF m 97 #[.val (.int p1), .val (.int p2), .val (.int p3), .unset, .unset, .unset, .unset] [(.int (8191 : Int32)), (.int (14 : Int32)), (.ref b1), (.ref b1)])) rfl rfl (hb hby at_97)
  have V16 : Arv Z h16 b1 k1 .int (29 : Int32) [(.int (65 : Int32)), (.int (90 : Int32)), (.int (95 : Int32)), (.int (97 : Int32)), (.int (122 : Int32)), (.int (192 : Int32)), (.int (214 : Int32)), (.int (216 : Int32)), (.int (246 : Int32)), (.int (248 : Int32)), (.int (767 : Int32)), (.int (880 : Int32)), (.int (893 : Int32)), (.int (895 : Int32)), (.int (8191 : Int32)), (.int (0 : Int32)), (.int (0 : Int32)), (.int (0 : Int32)), (.int (0 : Int32)), (.int (0 : Int32)), (.int (0 : Int32)), (.int (0 : Int32)), (.int (0 : Int32)), (.int (0 : Int32)), (.int (0 : Int32)), (.int (0 : Int32)), (.int (0 : Int32)), (.int (0 : Int32)), (.int (0 : Int32))] (.int (0 : Int32)) := Arv.set Ar16 qk16 Sz16 Nn16 Hs16 Gs16 rfl W16 14 rfl (Nat.le_of_ble_eq_true rfl)
  have Zs16 : n0 ≤ h16.size := Nat.le_trans Zs15 (Keep.of_wr W16).1
  obtain ⟨lc16, X16, N16⟩ := own_loc X16 (Fr.snoc X16 N15 gn_b1)
  refine own_st (T' := T16) (g' := (mkF m 98 #[.val (.int p1), .val (.int p2), .val (.int p3), .unset, .unset, .unset, .unset] [(.ref b1)])) (fun _ k => (st16) _ k) ?_
  refine own_st (T' := T16) (g' := (mkF m 99 #[.val (.int p1), .val (.int p2), .val (.int p3), .unset, .unset, .unset, .unset] [(.ref b1), (.ref b1)])) (fun _ k => XS.dup (g := (mkF m 98 #[.val (.int p1), .val (.int p2), .val (.int p3), .unset, .unset, .unset, .unset] [(.ref b1)])) X16.here hx rfl (hb hby at_98) rfl rfl k) ?_
  refine own_st (T' := T16) (g' := (mkF m 101 #[.val (.int p1), .val (.int p2), .val (.int p3), .unset, .unset, .unset, .unset] [(.int (15 : Int32)), (.ref b1), (.ref b1)])) (fun _ k => XS.bipush (g := (mkF m 99 #[.val (.int p1), .val (.int p2), .val (.int p3), .unset, .unset, .unset, .unset] [(.ref b1), (.ref b1)])) X16.here hx rfl (hb hby at_99) k) ?_
  refine own_st (T' := T16) (g' := (mkF m 104 #[.val (.int p1), .val (.int p2), .val (.int p3), .unset, .unset, .unset, .unset] [(.int (8204 : Int32)), (.int (15 : Int32)), (.ref b1), (.ref b1)])) (fun _ k => XS.sipush (g := (mkF m 101 #[.val (.int p1), .val (.int p2), .val (.int p3), .unset, .unset, .unset, .unset] [(.int (15 : Int32)), (.ref b1), (.ref b1)])) X16.here hx rfl (hb hby at_101) k) ?_
  obtain ⟨cl17, Ar17, qk17, Sz17, Nn17, Hs17, Gs17⟩ := V16
  have hin17 : ¬ ((15 : Int32) < 0 ∨ cl17.slots.size ≤ ((15 : Int32)).toNatClampNeg) := inb_of Sz17 ⟨by decide, by decide⟩
  obtain ⟨T17, h17, X17, e17, W17, st17⟩ := stI X16 hx hZ e16 Ar17 (j := (15 : Int32)) hin17 (g := (mkF m 104 #[.val (.int p1), .val (.int p2), .val (.int p3), .unset, .unset, .unset, .unset] [(.int (8204 : Int32)), (.int (15 : Int32)), (.ref b1), (.ref b1)])) rfl rfl (hb hby at_104)
  have V17 : Arv Z h17 b1 k1 .int (29 : Int32) [(.int (65 : Int32)), (.int (90 : Int32)), (.int (95 : Int32)), (.int (97 : Int32)), (.int (122 : Int32)), (.int (192 : Int32)), (.int (214 : Int32)), (.int (216 : Int32)), (.int (246 : Int32)), (.int (248 : Int32)), (.int (767 : Int32)), (.int (880 : Int32)), (.int (893 : Int32)), (.int (895 : Int32)), (.int (8191 : Int32)), (.int (8204 : Int32)), (.int (0 : Int32)), (.int (0 : Int32)), (.int (0 : Int32)), (.int (0 : Int32)), (.int (0 : Int32)), (.int (0 : Int32)), (.int (0 : Int32)), (.int (0 : Int32)), (.int (0 : Int32)), (.int (0 : Int32)), (.int (0 : Int32)), (.int (0 : Int32)), (.int (0 : Int32))] (.int (0 : Int32)) := Arv.set Ar17 qk17 Sz17 Nn17 Hs17 Gs17 rfl W17 15 rfl (Nat.le_of_ble_eq_true rfl)
  have Zs17 : n0 ≤ h17.size := Nat.le_trans Zs16 (Keep.of_wr W17).1
  obtain ⟨lc17, X17, N17⟩ := own_loc X17 (Fr.snoc X17 N16 gn_b1)
  refine own_st (T' := T17) (g' := (mkF m 105 #[.val (.int p1), .val (.int p2), .val (.int p3), .unset, .unset, .unset, .unset] [(.ref b1)])) (fun _ k => (st17) _ k) ?_
  refine own_st (T' := T17) (g' := (mkF m 106 #[.val (.int p1), .val (.int p2), .val (.int p3), .unset, .unset, .unset, .unset] [(.ref b1), (.ref b1)])) (fun _ k => XS.dup (g := (mkF m 105 #[.val (.int p1), .val (.int p2), .val (.int p3), .unset, .unset, .unset, .unset] [(.ref b1)])) X17.here hx rfl (hb hby at_105) rfl rfl k) ?_
  refine own_st (T' := T17) (g' := (mkF m 108 #[.val (.int p1), .val (.int p2), .val (.int p3), .unset, .unset, .unset, .unset] [(.int (16 : Int32)), (.ref b1), (.ref b1)])) (fun _ k => XS.bipush (g := (mkF m 106 #[.val (.int p1), .val (.int p2), .val (.int p3), .unset, .unset, .unset, .unset] [(.ref b1), (.ref b1)])) X17.here hx rfl (hb hby at_106) k) ?_
  refine own_st (T' := T17) (g' := (mkF m 111 #[.val (.int p1), .val (.int p2), .val (.int p3), .unset, .unset, .unset, .unset] [(.int (8205 : Int32)), (.int (16 : Int32)), (.ref b1), (.ref b1)])) (fun _ k => XS.sipush (g := (mkF m 108 #[.val (.int p1), .val (.int p2), .val (.int p3), .unset, .unset, .unset, .unset] [(.int (16 : Int32)), (.ref b1), (.ref b1)])) X17.here hx rfl (hb hby at_108) k) ?_
  obtain ⟨cl18, Ar18, qk18, Sz18, Nn18, Hs18, Gs18⟩ := V17
  have hin18 : ¬ ((16 : Int32) < 0 ∨ cl18.slots.size ≤ ((16 : Int32)).toNatClampNeg) := inb_of Sz18 ⟨by decide, by decide⟩
  obtain ⟨T18, h18, X18, e18, W18, st18⟩ := stI X17 hx hZ e17 Ar18 (j := (16 : Int32)) hin18 (g := (mkF m 111 #[.val (.int p1), .val (.int p2), .val (.int p3), .unset, .unset, .unset, .unset] [(.int (8205 : Int32)), (.int (16 : Int32)), (.ref b1), (.ref b1)])) rfl rfl (hb hby at_111)
  have V18 : Arv Z h18 b1 k1 .int (29 : Int32) [(.int (65 : Int32)), (.int (90 : Int32)), (.int (95 : Int32)), (.int (97 : Int32)), (.int (122 : Int32)), (.int (192 : Int32)), (.int (214 : Int32)), (.int (216 : Int32)), (.int (246 : Int32)), (.int (248 : Int32)), (.int (767 : Int32)), (.int (880 : Int32)), (.int (893 : Int32)), (.int (895 : Int32)), (.int (8191 : Int32)), (.int (8204 : Int32)), (.int (8205 : Int32)), (.int (0 : Int32)), (.int (0 : Int32)), (.int (0 : Int32)), (.int (0 : Int32)), (.int (0 : Int32)), (.int (0 : Int32)), (.int (0 : Int32)), (.int (0 : Int32)), (.int (0 : Int32)), (.int (0 : Int32)), (.int (0 : Int32)), (.int (0 : Int32))] (.int (0 : Int32)) := Arv.set Ar18 qk18 Sz18 Nn18 Hs18 Gs18 rfl W18 16 rfl (Nat.le_of_ble_eq_true rfl)
  have Zs18 : n0 ≤ h18.size := Nat.le_trans Zs17 (Keep.of_wr W18).1
  obtain ⟨lc18, X18, N18⟩ := own_loc X18 (Fr.snoc X18 N17 gn_b1)
  refine own_st (T' := T18) (g' := (mkF m 112 #[.val (.int p1), .val (.int p2), .val (.int p3), .unset, .unset, .unset, .unset] [(.ref b1)])) (fun _ k => (st18) _ k) ?_
  refine own_st (T' := T18) (g' := (mkF m 113 #[.val (.int p1), .val (.int p2), .val (.int p3), .unset, .unset, .unset, .unset] [(.ref b1), (.ref b1)])) (fun _ k => XS.dup (g := (mkF m 112 #[.val (.int p1), .val (.int p2), .val (.int p3), .unset, .unset, .unset, .unset] [(.ref b1)])) X18.here hx rfl (hb hby at_112) rfl rfl k) ?_
  refine own_st (T' := T18) (g' := (mkF m 115 #[.val (.int p1), .val (.int p2), .val (.int p3), .unset, .unset, .unset, .unset] [(.int (17 : Int32)), (.ref b1), (.ref b1)])) (fun _ k => XS.bipush (g := (mkF m 113 #[.val (.int p1), .val (.int p2), .val (.int p3), .unset, .unset, .unset, .unset] [(.ref b1), (.ref b1)])) X18.here hx rfl (hb hby at_113) k) ?_
  refine own_st (T' := T18) (g' := (mkF m 118 #[.val (.int p1), .val (.int p2), .val (.int p3), .unset, .unset, .unset, .unset] [(.int (8304 : Int32)), (.int (17 : Int32)), (.ref b1), (.ref b1)])) (fun _ k => XS.sipush (g := (mkF m 115 #[.val (.int p1), .val (.int p2), .val (.int p3), .unset, .unset, .unset, .unset] [(.int (17 : Int32)), (.ref b1), (.ref b1)])) X18.here hx rfl (hb hby at_115) k) ?_
  obtain ⟨cl19, Ar19, qk19, Sz19, Nn19, Hs19, Gs19⟩ := V18
  have hin19 : ¬ ((17 : Int32) < 0 ∨ cl19.slots.size ≤ ((17 : Int32)).toNatClampNeg) := inb_of Sz19 ⟨by decide, by decide⟩
  obtain ⟨T19, h19, X19, e19, W19, st19⟩ := stI X18 hx hZ e18 Ar19 (j := (17 : Int32)) hin19 (g := (mkF m 118 #[.val (.int p1), .val (.int p2), .val (.int p3), .unset, .unset, .unset, .unset] [(.int (8304 : Int32)), (.int (17 : Int32)), (.ref b1), (.ref b1)])) rfl rfl (hb hby at_118)
  have V19 : Arv Z h19 b1 k1 .int (29 : Int32) [(.int (65 : Int32)), (.int (90 : Int32)), (.int (95 : Int32)), (.int (97 : Int32)), (.int (122 : Int32)), (.int (192 : Int32)), (.int (214 : Int32)), (.int (216 : Int32)), (.int (246 : Int32)), (.int (248 : Int32)), (.int (767 : Int32)), (.int (880 : Int32)), (.int (893 : Int32)), (.int (895 : Int32)), (.int (8191 : Int32)), (.int (8204 : Int32)), (.int (8205 : Int32)), (.int (8304 : Int32)), (.int (0 : Int32)), (.int (0 : Int32)), (.int (0 : Int32)), (.int (0 : Int32)), (.int (0 : Int32)), (.int (0 : Int32)), (.int (0 : Int32)), (.int (0 : Int32)), (.int (0 : Int32)), (.int (0 : Int32)), (.int (0 : Int32))] (.int (0 : Int32)) := Arv.set Ar19 qk19 Sz19 Nn19 Hs19 Gs19 rfl W19 17 rfl (Nat.le_of_ble_eq_true rfl)
  have Zs19 : n0 ≤ h19.size := Nat.le_trans Zs18 (Keep.of_wr W19).1
  obtain ⟨lc19, X19, N19⟩ := own_loc X19 (Fr.snoc X19 N18 gn_b1)
  refine own_st (T' := T19) (g' := (mkF m 119 #[.val (.int p1), .val (.int p2), .val (.int p3), .unset, .unset, .unset, .unset] [(.ref b1)])) (fun _ k => (st19) _ k) ?_
  refine own_st (T' := T19) (g' := (mkF m 120 #[.val (.int p1), .val (.int p2), .val (.int p3), .unset, .unset, .unset, .unset] [(.ref b1), (.ref b1)])) (fun _ k => XS.dup (g := (mkF m 119 #[.val (.int p1), .val (.int p2), .val (.int p3), .unset, .unset, .unset, .unset] [(.ref b1)])) X19.here hx rfl (hb hby at_119) rfl rfl k) ?_
  refine own_st (T' := T19) (g' := (mkF m 122 #[.val (.int p1), .val (.int p2), .val (.int p3), .unset, .unset, .unset, .unset] [(.int (18 : Int32)), (.ref b1), (.ref b1)])) (fun _ k => XS.bipush (g := (mkF m 120 #[.val (.int p1), .val (.int p2), .val (.int p3), .unset, .unset, .unset, .unset] [(.ref b1), (.ref b1)])) X19.here hx rfl (hb hby at_120) k) ?_
  refine own_st (T' := T19) (g' := (mkF m 125 #[.val (.int p1), .val (.int p2), .val (.int p3), .unset, .unset, .unset, .unset] [(.int (8591 : Int32)), (.int (18 : Int32)), (.ref b1), (.ref b1)])) (fun _ k => XS.sipush (g := (mkF m 122 #[.val (.int p1), .val (.int p2), .val (.int p3), .unset, .unset, .unset, .unset] [(.int (18 : Int32)), (.ref b1), (.ref b1)])) X19.here hx rfl (hb hby at_122) k) ?_
  obtain ⟨cl20, Ar20, qk20, Sz20, Nn20, Hs20, Gs20⟩ := V19
  have hin20 : ¬ ((18 : Int32) < 0 ∨ cl20.slots.size ≤ ((18 : Int32)).toNatClampNeg) := inb_of Sz20 ⟨by decide, by decide⟩
  obtain ⟨T20, h20, X20, e20, W20, st20⟩ := stI X19 hx hZ e19 Ar20 (j := (18 : Int32)) hin20 (g := (mkF m 125 #[.val (.int p1), .val (.int p2), .val (.int p3), .unset, .unset, .unset, .unset] [(.int (8591 : Int32)), (.int (18 : Int32)), (.ref b1), (.ref b1)])) rfl rfl (hb hby at_125)
  have V20 : Arv Z h20 b1 k1 .int (29 : Int32) [(.int (65 : Int32)), (.int (90 : Int32)), (.int (95 : Int32)), (.int (97 : Int32)), (.int (122 : Int32)), (.int (192 : Int32)), (.int (214 : Int32)), (.int (216 : Int32)), (.int (246 : Int32)), (.int (248 : Int32)), (.int (767 : Int32)), (.int (880 : Int32)), (.int (893 : Int32)), (.int (895 : Int32)), (.int (8191 : Int32)), (.int (8204 : Int32)), (.int (8205 : Int32)), (.int (8304 : Int32)), (.int (8591 : Int32)), (.int (0 : Int32)), (.int (0 : Int32)), (.int (0 : Int32)), (.int (0 : Int32)), (.int (0 : Int32)), (.int (0 : Int32)), (.int (0 : Int32)), (.int (0 : Int32)), (.int (0 : Int32)), (.int (0 : Int32))] (.int (0 : Int32)) := Arv.set Ar20 qk20 Sz20 Nn20 Hs20 Gs20 rfl W20 18 rfl (Nat.le_of_ble_eq_true rfl)
  have Zs20 : n0 ≤ h20.size := Nat.le_trans Zs19 (Keep.of_wr W20).1
  obtain ⟨lc20, X20, N20⟩ := own_loc X20 (Fr.snoc X20 N19 gn_b1)
  refine own_st (T' := T20) (g' := (mkF m 126 #[.val (.int p1), .val (.int p2), .val (.int p3), .unset, .unset, .unset, .unset] [(.ref b1)])) (fun _ k => (st20) _ k) ?_
  refine own_st (T' := T20) (g' := (mkF m 127 #[.val (.int p1), .val (.int p2), .val (.int p3), .unset, .unset, .unset, .unset] [(.ref b1), (.ref b1)])) (fun _ k => XS.dup (g := (mkF m 126 #[.val (.int p1), .val (.int p2), .val (.int p3), .unset, .unset, .unset, .unset] [(.ref b1)])) X20.here hx rfl (hb hby at_126) rfl rfl k) ?_
  refine own_st (T' := T20) (g' := (mkF m 129 #[.val (.int p1), .val (.int p2), .val (.int p3), .unset, .unset, .unset, .unset] [(.int (19 : Int32)), (.ref b1), (.ref b1)])) (fun _ k => XS.bipush (g := (mkF m 127 #[.val (.int p1), .val (.int p2), .val (.int p3), .unset, .unset, .unset, .unset] [(.ref b1), (.ref b1)])) X20.here hx rfl (hb hby at_127) k) ?_
  refine own_st (T' := T20) (g' := (mkF m 132 #[.val (.int p1), .val (.int p2), .val (.int p3), .unset, .unset, .unset, .unset] [(.int (11264 : Int32)), (.int (19 : Int32)), (.ref b1), (.ref b1)])) (fun _ k => XS.sipush (g := (mkF m 129 #[.val (.int p1), .val (.int p2), .val (.int p3), .unset, .unset, .unset, .unset] [(.int (19 : Int32)), (.ref b1), (.ref b1)])) X20.here hx rfl (hb hby at_129) k) ?_
  obtain ⟨cl21, Ar21, qk21, Sz21, Nn21, Hs21, Gs21⟩ := V20
  have hin21 : ¬ ((19 : Int32) < 0 ∨ cl21.slots.size ≤ ((19 : Int32)).toNatClampNeg) := inb_of Sz21 ⟨by decide, by decide⟩
  obtain ⟨T21, h21, X21, e21, W21, st21⟩ := stI X20 hx hZ e20 Ar21 (j := (19 : Int32)) hin21 (g := (mkF m 132 #[.val (.int p1), .val (.int p2), .val (.int p3), .unset, .unset, .unset, .unset] [(.int (11264 : Int32)), (.int (19 : Int32)), (.ref b1), (.ref b1)])) rfl rfl (hb hby at_132)
  have V21 : Arv Z h21 b1 k1 .int (29 : Int32) [(.int (65 : Int32)), (.int (90 : Int32)), (.int (95 : Int32)), (.int (97 : Int32)), (.int (122 : Int32)), (.int (192 : Int32)), (.int (214 : Int32)), (.int (216 : Int32)), (.int (246 : Int32)), (.int (248 : Int32)), (.int (767 : Int32)), (.int (880 : Int32)), (.int (893 : Int32)), (.int (895 : Int32)), (.int (8191 : Int32)), (.int (8204 : Int32)), (.int (8205 : Int32)), (.int (8304 : Int32)), (.int (8591 : Int32)), (.int (11264 : Int32)), (.int (0 : Int32)), (.int (0 : Int32)), (.int (0 : Int32)), (.int (0 : Int32)), (.int (0 : Int32)), (.int (0 : Int32)), (.int (0 : Int32)), (.int (0 : Int32)), (.int (0 : Int32))] (.int (0 : Int32)) := Arv.set Ar21 qk21 Sz21 Nn21 Hs21 Gs21 rfl W21 19 rfl (Nat.le_of_ble_eq_true rfl)
  have Zs21 : n0 ≤ h21.size := Nat.le_trans Zs20 (Keep.of_wr W21).1
  obtain ⟨lc21, X21, N21⟩ := own_loc X21 (Fr.snoc X21 N20 gn_b1)
  refine own_st (T' := T21) (g' := (mkF m 133 #[.val (.int p1), .val (.int p2), .val (.int p3), .unset, .unset, .unset, .unset] [(.ref b1)])) (fun _ k => (st21) _ k) ?_
  refine own_st (T' := T21) (g' := (mkF m 134 #[.val (.int p1), .val (.int p2), .val (.int p3), .unset, .unset, .unset, .unset] [(.ref b1), (.ref b1)])) (fun _ k => XS.dup (g := (mkF m 133 #[.val (.int p1), .val (.int p2), .val (.int p3), .unset, .unset, .unset, .unset] [(.ref b1)])) X21.here hx rfl (hb hby at_133) rfl rfl k) ?_
  refine own_st (T' := T21) (g' := (mkF m 136 #[.val (.int p1), .val (.int p2), .val (.int p3), .unset, .unset, .unset, .unset] [(.int (20 : Int32)), (.ref b1), (.ref b1)])) (fun _ k => XS.bipush (g := (mkF m 134 #[.val (.int p1), .val (.int p2), .val (.int p3), .unset, .unset, .unset, .unset] [(.ref b1), (.ref b1)])) X21.here hx rfl (hb hby at_134) k) ?_
  refine own_st (T' := T21) (g' := (mkF m 139 #[.val (.int p1), .val (.int p2), .val (.int p3), .unset, .unset, .unset, .unset] [(.int (12271 : Int32)), (.int (20 : Int32)), (.ref b1), (.ref b1)])) (fun _ k => XS.sipush (g := (mkF m 136 #[.val (.int p1), .val (.int p2), .val (.int p3), .unset, .unset, .unset, .unset] [(.int (20 : Int32)), (.ref b1), (.ref b1)])) X21.here hx rfl (hb hby at_136) k) ?_
  obtain ⟨cl22, Ar22, qk22, Sz22, Nn22, Hs22, Gs22⟩ := V21
  have hin22 : ¬ ((20 : Int32) < 0 ∨ cl22.slots.size ≤ ((20 : Int32)).toNatClampNeg) := inb_of Sz22 ⟨by decide, by decide⟩
  obtain ⟨T22, h22, X22, e22, W22, st22⟩ := stI X21 hx hZ e21 Ar22 (j := (20 : Int32)) hin22 (g := (mkF m 139 #[.val (.int p1), .val (.int p2), .val (.int p3), .unset, .unset, .unset, .unset] [(.int (12271 : Int32)), (.int (20 : Int32)), (.ref b1), (.ref b1)])) rfl rfl (hb hby at_139)
  have V22 : Arv Z h22 b1 k1 .int (29 : Int32) [(.int (65 : Int32)), (.int (90 : Int32)), (.int (95 : Int32)), (.int (97 : Int32)), (.int (122 : Int32)), (.int (192 : Int32)), (.int (214 : Int32)), (.int (216 : Int32)), (.int (246 : Int32)), (.int (248 : Int32)), (.int (767 : Int32)), (.int (880 : Int32)), (.int (893 : Int32)), (.int (895 : Int32)), (.int (8191 : Int32)), (.int (8204 : Int32)), (.int (8205 : Int32)), (.int (8304 : Int32)), (.int (8591 : Int32)), (.int (11264 : Int32)), (.int (12271 : Int32)), (.int (0 : Int32)), (.int (0 : Int32)), (.int (0 : Int32)), (.int (0 : Int32)), (.int (0 : Int32)), (.int (0 : Int32)), (.int (0 : Int32)), (.int (0 : Int32))] (.int (0 : Int32)) := Arv.set Ar22 qk22 Sz22 Nn22 Hs22 Gs22 rfl W22 20 rfl (Nat.le_of_ble_eq_true rfl)
  have Zs22 : n0 ≤ h22.size := Nat.le_trans Zs21 (Keep.of_wr W22).1
  obtain ⟨lc22, X22, N22⟩ := own_loc X22 (Fr.snoc X22 N21 gn_b1)
  refine own_st (T' := T22) (g' := (mkF m 140 #[.val (.int p1), .val (.int p2), .val (.int p3), .unset, .unset, .unset, .unset] [(.ref b1)])) (fun _ k => (st22) _ k) ?_
  refine own_st (T' := T22) (g' := (mkF m 141 #[.val (.int p1), .val (.int p2), .val (.int p3), .unset, .unset, .unset, .unset] [(.ref b1), (.ref b1)])) (fun _ k => XS.dup (g := (mkF m 140 #[.val (.int p1), .val (.int p2), .val (.int p3), .unset, .unset, .unset, .unset] [(.ref b1)])) X22.here hx rfl (hb hby at_140) rfl rfl k) ?_
  refine own_st (T' := T22) (g' := (mkF m 143 #[.val (.int p1), .val (.int p2), .val (.int p3), .unset, .unset, .unset, .unset] [(.int (21 : Int32)), (.ref b1), (.ref b1)])) (fun _ k => XS.bipush (g := (mkF m 141 #[.val (.int p1), .val (.int p2), .val (.int p3), .unset, .unset, .unset, .unset] [(.ref b1), (.ref b1)])) X22.here hx rfl (hb hby at_141) k) ?_
  refine own_st (T' := T22) (g' := (mkF m 146 #[.val (.int p1), .val (.int p2), .val (.int p3), .unset, .unset, .unset, .unset] [(.int (12289 : Int32)), (.int (21 : Int32)), (.ref b1), (.ref b1)])) (fun _ k => XS.sipush (g := (mkF m 143 #[.val (.int p1), .val (.int p2), .val (.int p3), .unset, .unset, .unset, .unset] [(.int (21 : Int32)), (.ref b1), (.ref b1)])) X22.here hx rfl (hb hby at_143) k) ?_
  obtain ⟨cl23, Ar23, qk23, Sz23, Nn23, Hs23, Gs23⟩ := V22
  have hin23 : ¬ ((21 : Int32) < 0 ∨ cl23.slots.size ≤ ((21 : Int32)).toNatClampNeg) := inb_of Sz23 ⟨by decide, by decide⟩
  obtain ⟨T23, h23, X23, e23, W23, st23⟩ := stI X22 hx hZ e22 Ar23 (j := (21 : Int32)) hin23 (g := (mkF m 146 #[.val (.int p1), .val (.int p2), .val (.int p3), .unset, .unset, .unset, .unset] [(.int (12289 : Int32)), (.int (21 : Int32)), (.ref b1), (.ref b1)])) rfl rfl (hb hby at_146)
  have V23 : Arv Z h23 b1 k1 .int (29 : Int32) [(.int (65 : Int32)), (.int (90 : Int32)), (.int (95 : Int32)), (.int (97 : Int32)), (.int (122 : Int32)), (.int (192 : Int32)), (.int (214 : Int32)), (.int (216 : Int32)), (.int (246 : Int32)), (.int (248 : Int32)), (.int (767 : Int32)), (.int (880 : Int32)), (.int (893 : Int32)), (.int (895 : Int32)), (.int (8191 : Int32)), (.int (8204 : Int32)), (.int (8205 : Int32)), (.int (8304 : Int32)), (.int (8591 : Int32)), (.int (11264 : Int32)), (.int (12271 : Int32)), (.int (12289 : Int32)), (.int (0 : Int32)), (.int (0 : Int32)), (.int (0 : Int32)), (.int (0 : Int32)), (.int (0 : Int32)), (.int (0 : Int32)), (.int (0 : Int32))] (.int (0 : Int32)) := Arv.set Ar23 qk23 Sz23 Nn23 Hs23 Gs23 rfl W23 21 rfl (Nat.le_of_ble_eq_true rfl)
  have Zs23 : n0 ≤ h23.size := Nat.le_trans Zs22 (Keep.of_wr W23).1
  obtain ⟨lc23, X23, N23⟩ := own_loc X23 (Fr.snoc X23 N22 gn_b1)
  refine own_st (T' := T23) (g' := (mkF m 147 #[.val (.int p1), .val (.int p2), .val (.int p3), .unset, .unset, .unset, .unset] [(.ref b1)])) (fun _ k => (st23) _ k) ?_
  refine own_st (T' := T23) (g' := (mkF m 148 #[.val (.int p1), .val (.int p2), .val (.int p3), .unset, .unset, .unset, .unset] [(.ref b1), (.ref b1)])) (fun _ k => XS.dup (g := (mkF m 147 #[.val (.int p1), .val (.int p2), .val (.int p3), .unset, .unset, .unset, .unset] [(.ref b1)])) X23.here hx rfl (hb hby at_147) rfl rfl k) ?_
  refine own_st (T' := T23) (g' := (mkF m 150 #[.val (.int p1), .val (.int p2), .val (.int p3), .unset, .unset, .unset, .unset] [(.int (22 : Int32)), (.ref b1), (.ref b1)])) (fun _ k => XS.bipush (g := (mkF m 148 #[.val (.int p1), .val (.int p2), .val (.int p3), .unset, .unset, .unset, .unset] [(.ref b1), (.ref b1)])) X23.here hx rfl (hb hby at_148) k) ?_
  refine own_st (T' := T23) (g' := (mkF m 152 #[.val (.int p1), .val (.int p2), .val (.int p3), .unset, .unset, .unset, .unset] [(.int (55295 : Int32)), (.int (22 : Int32)), (.ref b1), (.ref b1)])) (fun _ k => (X23.ldcInt hx hown (mvT hZ (hw _ (List.mem_of_getElem? (i := 1) rfl))) (g := (mkF m 150 #[.val (.int p1), .val (.int p2), .val (.int p3), .unset, .unset, .unset, .unset] [(.int (22 : Int32)), (.ref b1), (.ref b1)])) rfl (hb hby at_150)) _ k) ?_
  obtain ⟨cl24, Ar24, qk24, Sz24, Nn24, Hs24, Gs24⟩ := V23
  have hin24 : ¬ ((22 : Int32) < 0 ∨ cl24.slots.size ≤ ((22 : Int32)).toNatClampNeg) := inb_of Sz24 ⟨by decide, by decide⟩
  obtain ⟨T24, h24, X24, e24, W24, st24⟩ := stI X23 hx hZ e23 Ar24 (j := (22 : Int32)) hin24 (g := (mkF m 152 #[.val (.int p1), .val (.int p2), .val (.int p3), .unset, .unset, .unset, .unset] [(.int (55295 : Int32)), (.int (22 : Int32)), (.ref b1), (.ref b1)])) rfl rfl (hb hby at_152)
  have V24 : Arv Z h24 b1 k1 .int (29 : Int32) [(.int (65 : Int32)), (.int (90 : Int32)), (.int (95 : Int32)), (.int (97 : Int32)), (.int (122 : Int32)), (.int (192 : Int32)), (.int (214 : Int32)), (.int (216 : Int32)), (.int (246 : Int32)), (.int (248 : Int32)), (.int (767 : Int32)), (.int (880 : Int32)), (.int (893 : Int32)), (.int (895 : Int32)), (.int (8191 : Int32)), (.int (8204 : Int32)), (.int (8205 : Int32)), (.int (8304 : Int32)), (.int (8591 : Int32)), (.int (11264 : Int32)), (.int (12271 : Int32)), (.int (12289 : Int32)), (.int (55295 : Int32)), (.int (0 : Int32)), (.int (0 : Int32)), (.int (0 : Int32)), (.int (0 : Int32)), (.int (0 : Int32)), (.int (0 : Int32))] (.int (0 : Int32)) := Arv.set Ar24 qk24 Sz24 Nn24 Hs24 Gs24 rfl W24 22 rfl (Nat.le_of_ble_eq_true rfl)
  have Zs24 : n0 ≤ h24.size := Nat.le_trans Zs23 (Keep.of_wr W24).1
  obtain ⟨lc24, X24, N24⟩ := own_loc X24 (Fr.snoc X24 N23 gn_b1)
  refine own_st (T' := T24) (g' := (mkF m 153 #[.val (.int p1), .val (.int p2), .val (.int p3), .unset, .unset, .unset, .unset] [(.ref b1)])) (fun _ k => (st24) _ k) ?_
  refine own_st (T' := T24) (g' := (mkF m 154 #[.val (.int p1), .val (.int p2), .val (.int p3), .unset, .unset, .unset, .unset] [(.ref b1), (.ref b1)])) (fun _ k => XS.dup (g := (mkF m 153 #[.val (.int p1), .val (.int p2), .val (.int p3), .unset, .unset, .unset, .unset] [(.ref b1)])) X24.here hx rfl (hb hby at_153) rfl rfl k) ?_
  refine own_st (T' := T24) (g' := (mkF m 156 #[.val (.int p1), .val (.int p2), .val (.int p3), .unset, .unset, .unset, .unset] [(.int (23 : Int32)), (.ref b1), (.ref b1)])) (fun _ k => XS.bipush (g := (mkF m 154 #[.val (.int p1), .val (.int p2), .val (.int p3), .unset, .unset, .unset, .unset] [(.ref b1), (.ref b1)])) X24.here hx rfl (hb hby at_154) k) ?_
  refine own_st (T' := T24) (g' := (mkF m 158 #[.val (.int p1), .val (.int p2), .val (.int p3), .unset, .unset, .unset, .unset] [(.int (63744 : Int32)), (.int (23 : Int32)), (.ref b1), (.ref b1)])) (fun _ k => (X24.ldcInt hx hown (mvT hZ (hw _ (List.mem_of_getElem? (i := 2) rfl))) (g := (mkF m 156 #[.val (.int p1), .val (.int p2), .val (.int p3), .unset, .unset, .unset, .unset] [(.int (23 : Int32)), (.ref b1), (.ref b1)])) rfl (hb hby at_156)) _ k) ?_
  obtain ⟨cl25, Ar25, qk25, Sz25, Nn25, Hs25, Gs25⟩ := V24
  have hin25 : ¬ ((23 : Int32) < 0 ∨ cl25.slots.size ≤ ((23 : Int32)).toNatClampNeg) := inb_of Sz25 ⟨by decide, by decide⟩
  obtain ⟨T25, h25, X25, e25, W25, st25⟩ := stI X24 hx hZ e24 Ar25 (j := (23 : Int32)) hin25 (g := (mkF m 158 #[.val (.int p1), .val (.int p2), .val (.int p3), .unset, .unset, .unset, .unset] [(.int (63744 : Int32)), (.int (23 : Int32)), (.ref b1), (.ref b1)])) rfl rfl (hb hby at_158)
  have V25 : Arv Z h25 b1 k1 .int (29 : Int32) [(.int (65 : Int32)), (.int (90 : Int32)), (.int (95 : Int32)), (.int (97 : Int32)), (.int (122 : Int32)), (.int (192 : Int32)), (.int (214 : Int32)), (.int (216 : Int32)), (.int (246 : Int32)), (.int (248 : Int32)), (.int (767 : Int32)), (.int (880 : Int32)), (.int (893 : Int32)), (.int (895 : Int32)), (.int (8191 : Int32)), (.int (8204 : Int32)), (.int (8205 : Int32)), (.int (8304 : Int32)), (.int (8591 : Int32)), (.int (11264 : Int32)), (.int (12271 : Int32)), (.int (12289 : Int32)), (.int (55295 : Int32)), (.int (63744 : Int32)), (.int (0 : Int32)), (.int (0 : Int32)), (.int (0 : Int32)), (.int (0 : Int32)), (.int (0 : Int32))] (.int (0 : Int32)) := Arv.set Ar25 qk25 Sz25 Nn25 Hs25 Gs25 rfl W25 23 rfl (Nat.le_of_ble_eq_true rfl)
  have Zs25 : n0 ≤ h25.size := Nat.le_trans Zs24 (Keep.of_wr W25).1
  obtain ⟨lc25, X25, N25⟩ := own_loc X25 (Fr.snoc X25 N24 gn_b1)
  refine own_st (T' := T25) (g' := (mkF m 159 #[.val (.int p1), .val (.int p2), .val (.int p3), .unset, .unset, .unset, .unset] [(.ref b1)])) (fun _ k => (st25) _ k) ?_
  refine own_st (T' := T25) (g' := (mkF m 160 #[.val (.int p1), .val (.int p2), .val (.int p3), .unset, .unset, .unset, .unset] [(.ref b1), (.ref b1)])) (fun _ k => XS.dup (g := (mkF m 159 #[.val (.int p1), .val (.int p2), .val (.int p3), .unset, .unset, .unset, .unset] [(.ref b1)])) X25.here hx rfl (hb hby at_159) rfl rfl k) ?_
  refine own_st (T' := T25) (g' := (mkF m 162 #[.val (.int p1), .val (.int p2), .val (.int p3), .unset, .unset, .unset, .unset] [(.int (24 : Int32)), (.ref b1), (.ref b1)])) (fun _ k => XS.bipush (g := (mkF m 160 #[.val (.int p1), .val (.int p2), .val (.int p3), .unset, .unset, .unset, .unset] [(.ref b1), (.ref b1)])) X25.here hx rfl (hb hby at_160) k) ?_
  refine own_st (T' := T25) (g' := (mkF m 164 #[.val (.int p1), .val (.int p2), .val (.int p3), .unset, .unset, .unset, .unset] [(.int (64975 : Int32)), (.int (24 : Int32)), (.ref b1), (.ref b1)])) (fun _ k => (X25.ldcInt hx hown (mvT hZ (hw _ (List.mem_of_getElem? (i := 3) rfl))) (g := (mkF m 162 #[.val (.int p1), .val (.int p2), .val (.int p3), .unset, .unset, .unset, .unset] [(.int (24 : Int32)), (.ref b1), (.ref b1)])) rfl (hb hby at_162)) _ k) ?_
  obtain ⟨cl26, Ar26, qk26, Sz26, Nn26, Hs26, Gs26⟩ := V25
  have hin26 : ¬ ((24 : Int32) < 0 ∨ cl26.slots.size ≤ ((24 : Int32)).toNatClampNeg) := inb_of Sz26 ⟨by decide, by decide⟩
  obtain ⟨T26, h26, X26, e26, W26, st26⟩ := stI X25 hx hZ e25 Ar26 (j := (24 : Int32)) hin26 (g := (mkF m 164 #[.val (.int p1), .val (.int p2), .val (.int p3), .unset, .unset, .unset, .unset] [(.int (64975 : Int32)), (.int (24 : Int32)), (.ref b1), (.ref b1)])) rfl rfl (hb hby at_164)
  have V26 : Arv Z h26 b1 k1 .int (29 : Int32) [(.int (65 : Int32)), (.int (90 : Int32)), (.int (95 : Int32)), (.int (97 : Int32)), (.int (122 : Int32)), (.int (192 : Int32)), (.int (214 : Int32)), (.int (216 : Int32)), (.int (246 : Int32)), (.int (248 : Int32)), (.int (767 : Int32)), (.int (880 : Int32)), (.int (893 : Int32)), (.int (895 : Int32)), (.int (8191 : Int32)), (.int (8204 : Int32)), (.int (8205 : Int32)), (.int (8304 : Int32)), (.int (8591 : Int32)), (.int (11264 : Int32)), (.int (12271 : Int32)), (.int (12289 : Int32)), (.int (55295 : Int32)), (.int (63744 : Int32)), (.int (64975 : Int32)), (.int (0 : Int32)), (.int (0 : Int32)), (.int (0 : Int32)), (.int (0 : Int32))] (.int (0 : Int32)) := Arv.set Ar26 qk26 Sz26 Nn26 Hs26 Gs26 rfl W26 24 rfl (Nat.le_of_ble_eq_true rfl)
  have Zs26 : n0 ≤ h26.size := Nat.le_trans Zs25 (Keep.of_wr W26).1
  obtain ⟨lc26, X26, N26⟩ := own_loc X26 (Fr.snoc X26 N25 gn_b1)
  refine own_st (T' := T26) (g' := (mkF m 165 #[.val (.int p1), .val (.int p2), .val (.int p3), .unset, .unset, .unset, .unset] [(.ref b1)])) (fun _ k => (st26) _ k) ?_
  refine own_st (T' := T26) (g' := (mkF m 166 #[.val (.int p1), .val (.int p2), .val (.int p3), .unset, .unset, .unset, .unset] [(.ref b1), (.ref b1)])) (fun _ k => XS.dup (g := (mkF m 165 #[.val (.int p1), .val (.int p2), .val (.int p3), .unset, .unset, .unset, .unset] [(.ref b1)])) X26.here hx rfl (hb hby at_165) rfl rfl k) ?_
  refine own_st (T' := T26) (g' := (mkF m 168 #[.val (.int p1), .val (.int p2), .val (.int p3), .unset, .unset, .unset, .unset] [(.int (25 : Int32)), (.ref b1), (.ref b1)])) (fun _ k => XS.bipush (g := (mkF m 166 #[.val (.int p1), .val (.int p2), .val (.int p3), .unset, .unset, .unset, .unset] [(.ref b1), (.ref b1)])) X26.here hx rfl (hb hby at_166) k) ?_
  refine own_st (T' := T26) (g' := (mkF m 170 #[.val (.int p1), .val (.int p2), .val (.int p3), .unset, .unset, .unset, .unset] [(.int (65008 : Int32)), (.int (25 : Int32)), (.ref b1), (.ref b1)])) (fun _ k => (X26.ldcInt hx hown (mvT hZ (hw _ (List.mem_of_getElem? (i := 4) rfl))) (g := (mkF m 168 #[.val (.int p1), .val (.int p2), .val (.int p3), .unset, .unset, .unset, .unset] [(.int (25 : Int32)), (.ref b1), (.ref b1)])) rfl (hb hby at_168)) _ k) ?_
  obtain ⟨cl27, Ar27, qk27, Sz27, Nn27, Hs27, Gs27⟩ := V26
  have hin27 : ¬ ((25 : Int32) < 0 ∨ cl27.slots.size ≤ ((25 : Int32)).toNatClampNeg) := inb_of Sz27 ⟨by decide, by decide⟩
  obtain ⟨T27, h27, X27, e27, W27, st27⟩ := stI X26 hx hZ e26 Ar27 (j := (25 : Int32)) hin27 (g := (mkF m 170 #[.val (.int p1), .val (.int p2), .val (.int p3), .unset, .unset, .unset, .unset] [(.int (65008 : Int32)), (.int (25 : Int32)), (.ref b1), (.ref b1)])) rfl rfl (hb hby at_170)
  have V27 : Arv Z h27 b1 k1 .int (29 : Int32) [(.int (65 : Int32)), (.int (90 : Int32)), (.int (95 : Int32)), (.int (97 : Int32)), (.int (122 : Int32)), (.int (192 : Int32)), (.int (214 : Int32)), (.int (216 : Int32)), (.int (246 : Int32)), (.int (248 : Int32)), (.int (767 : Int32)), (.int (880 : Int32)), (.int (893 : Int32)), (.int (895 : Int32)), (.int (8191 : Int32)), (.int (8204 : Int32)), (.int (8205 : Int32)), (.int (8304 : Int32)), (.int (8591 : Int32)), (.int (11264 : Int32)), (.int (12271 : Int32)), (.int (12289 : Int32)), (.int (55295 : Int32)), (.int (63744 : Int32)), (.int (64975 : Int32)), (.int (65008 : Int32)), (.int (0 : Int32)), (.int (0 : Int32)), (.int (0 : Int32))] (.int (0 : Int32)) := Arv.set Ar27 qk27 Sz27 Nn27 Hs27 Gs27 rfl W27 25 rfl (Nat.le_of_ble_eq_true rfl)
  have Zs27 : n0 ≤ h27.size := Nat.le_trans Zs26 (Keep.of_wr W27).1
  obtain ⟨lc27, X27, N27⟩ := own_loc X27 (Fr.snoc X27 N26 gn_b1)
  refine own_st (T' := T27) (g' := (mkF m 171 #[.val (.int p1), .val (.int p2), .val (.int p3), .unset, .unset, .unset, .unset] [(.ref b1)])) (fun _ k => (st27) _ k) ?_
  refine own_st (T' := T27) (g' := (mkF m 172 #[.val (.int p1), .val (.int p2), .val (.int p3), .unset, .unset, .unset, .unset] [(.ref b1), (.ref b1)])) (fun _ k => XS.dup (g := (mkF m 171 #[.val (.int p1), .val (.int p2), .val (.int p3), .unset, .unset, .unset, .unset] [(.ref b1)])) X27.here hx rfl (hb hby at_171) rfl rfl k) ?_
  refine own_st (T' := T27) (g' := (mkF m 174 #[.val (.int p1), .val (.int p2), .val (.int p3), .unset, .unset, .unset, .unset] [(.int (26 : Int32)), (.ref b1), (.ref b1)])) (fun _ k => XS.bipush (g := (mkF m 172 #[.val (.int p1), .val (.int p2), .val (.int p3), .unset, .unset, .unset, .unset] [(.ref b1), (.ref b1)])) X27.here hx rfl (hb hby at_172) k) ?_
  refine own_st (T' := T27) (g' := (mkF m 176 #[.val (.int p1), .val (.int p2), .val (.int p3), .unset, .unset, .unset, .unset] [(.int (65533 : Int32)), (.int (26 : Int32)), (.ref b1), (.ref b1)])) (fun _ k => (X27.ldcInt hx hown (mvT hZ (hw _ (List.mem_of_getElem? (i := 5) rfl))) (g := (mkF m 174 #[.val (.int p1), .val (.int p2), .val (.int p3), .unset, .unset, .unset, .unset] [(.int (26 : Int32)), (.ref b1), (.ref b1)])) rfl (hb hby at_174)) _ k) ?_
  obtain ⟨cl28, Ar28, qk28, Sz28, Nn28, Hs28, Gs28⟩ := V27
  have hin28 : ¬ ((26 : Int32) < 0 ∨ cl28.slots.size ≤ ((26 : Int32)).toNatClampNeg) := inb_of Sz28 ⟨by decide, by decide⟩
  obtain ⟨T28, h28, X28, e28, W28, st28⟩ := stI X27 hx hZ e27 Ar28 (j := (26 : Int32)) hin28 (g := (mkF m 176 #[.val (.int p1), .val (.int p2), .val (.int p3), .unset, .unset, .unset, .unset] [(.int (65533 : Int32)), (.int (26 : Int32)), (.ref b1), (.ref b1)])) rfl rfl (hb hby at_176)
  have V28 : Arv Z h28 b1 k1 .int (29 : Int32) [(.int (65 : Int32)), (.int (90 : Int32)), (.int (95 : Int32)), (.int (97 : Int32)), (.int (122 : Int32)), (.int (192 : Int32)), (.int (214 : Int32)), (.int (216 : Int32)), (.int (246 : Int32)), (.int (248 : Int32)), (.int (767 : Int32)), (.int (880 : Int32)), (.int (893 : Int32)), (.int (895 : Int32)), (.int (8191 : Int32)), (.int (8204 : Int32)), (.int (8205 : Int32)), (.int (8304 : Int32)), (.int (8591 : Int32)), (.int (11264 : Int32)), (.int (12271 : Int32)), (.int (12289 : Int32)), (.int (55295 : Int32)), (.int (63744 : Int32)), (.int (64975 : Int32)), (.int (65008 : Int32)), (.int (65533 : Int32)), (.int (0 : Int32)), (.int (0 : Int32))] (.int (0 : Int32)) := Arv.set Ar28 qk28 Sz28 Nn28 Hs28 Gs28 rfl W28 26 rfl (Nat.le_of_ble_eq_true rfl)
  have Zs28 : n0 ≤ h28.size := Nat.le_trans Zs27 (Keep.of_wr W28).1
  obtain ⟨lc28, X28, N28⟩ := own_loc X28 (Fr.snoc X28 N27 gn_b1)
  refine own_st (T' := T28) (g' := (mkF m 177 #[.val (.int p1), .val (.int p2), .val (.int p3), .unset, .unset, .unset, .unset] [(.ref b1)])) (fun _ k => (st28) _ k) ?_
  refine own_st (T' := T28) (g' := (mkF m 178 #[.val (.int p1), .val (.int p2), .val (.int p3), .unset, .unset, .unset, .unset] [(.ref b1), (.ref b1)])) (fun _ k => XS.dup (g := (mkF m 177 #[.val (.int p1), .val (.int p2), .val (.int p3), .unset, .unset, .unset, .unset] [(.ref b1)])) X28.here hx rfl (hb hby at_177) rfl rfl k) ?_
  refine own_st (T' := T28) (g' := (mkF m 180 #[.val (.int p1), .val (.int p2), .val (.int p3), .unset, .unset, .unset, .unset] [(.int (27 : Int32)), (.ref b1), (.ref b1)])) (fun _ k => XS.bipush (g := (mkF m 178 #[.val (.int p1), .val (.int p2), .val (.int p3), .unset, .unset, .unset, .unset] [(.ref b1), (.ref b1)])) X28.here hx rfl (hb hby at_178) k) ?_
  refine own_st (T' := T28) (g' := (mkF m 182 #[.val (.int p1), .val (.int p2), .val (.int p3), .unset, .unset, .unset, .unset] [(.int (65536 : Int32)), (.int (27 : Int32)), (.ref b1), (.ref b1)])) (fun _ k => (X28.ldcInt hx hown (mvT hZ (hw _ (List.mem_of_getElem? (i := 6) rfl))) (g := (mkF m 180 #[.val (.int p1), .val (.int p2), .val (.int p3), .unset, .unset, .unset, .unset] [(.int (27 : Int32)), (.ref b1), (.ref b1)])) rfl (hb hby at_180)) _ k) ?_
  obtain ⟨cl29, Ar29, qk29, Sz29, Nn29, Hs29, Gs29⟩ := V28
  have hin29 : ¬ ((27 : Int32) < 0 ∨ cl29.slots.size ≤ ((27 : Int32)).toNatClampNeg) := inb_of Sz29 ⟨by decide, by decide⟩
  obtain ⟨T29, h29, X29, e29, W29, st29⟩ := stI X28 hx hZ e28 Ar29 (j := (27 : Int32)) hin29 (g := (mkF m 182 #[.val (.int p1), .val (.int p2), .val (.int p3), .unset, .unset, .unset, .unset] [(.int (65536 : Int32)), (.int (27 : Int32)), (.ref b1), (.ref b1)])) rfl rfl (hb hby at_182)
  have V29 : Arv Z h29 b1 k1 .int (29 : Int32) [(.int (65 : Int32)), (.int (90 : Int32)), (.int (95 : Int32)), (.int (97 : Int32)), (.int (122 : Int32)), (.int (192 : Int32)), (.int (214 : Int32)), (.int (216 : Int32)), (.int (246 : Int32)), (.int (248 : Int32)), (.int (767 : Int32)), (.int (880 : Int32)), (.int (893 : Int32)), (.int (895 : Int32)), (.int (8191 : Int32)), (.int (8204 : Int32)), (.int (8205 : Int32)), (.int (8304 : Int32)), (.int (8591 : Int32)), (.int (11264 : Int32)), (.int (12271 : Int32)), (.int (12289 : Int32)), (.int (55295 : Int32)), (.int (63744 : Int32)), (.int (64975 : Int32)), (.int (65008 : Int32)), (.int (65533 : Int32)), (.int (65536 : Int32)), (.int (0 : Int32))] (.int (0 : Int32)) := Arv.set Ar29 qk29 Sz29 Nn29 Hs29 Gs29 rfl W29 27 rfl (Nat.le_of_ble_eq_true rfl)
  have Zs29 : n0 ≤ h29.size := Nat.le_trans Zs28 (Keep.of_wr W29).1
  obtain ⟨lc29, X29, N29⟩ := own_loc X29 (Fr.snoc X29 N28 gn_b1)
  refine own_st (T' := T29) (g' := (mkF m 183 #[.val (.int p1), .val (.int p2), .val (.int p3), .unset, .unset, .unset, .unset] [(.ref b1)])) (fun _ k => (st29) _ k) ?_
  refine own_st (T' := T29) (g' := (mkF m 184 #[.val (.int p1), .val (.int p2), .val (.int p3), .unset, .unset, .unset, .unset] [(.ref b1), (.ref b1)])) (fun _ k => XS.dup (g := (mkF m 183 #[.val (.int p1), .val (.int p2), .val (.int p3), .unset, .unset, .unset, .unset] [(.ref b1)])) X29.here hx rfl (hb hby at_183) rfl rfl k) ?_
  refine own_st (T' := T29) (g' := (mkF m 186 #[.val (.int p1), .val (.int p2), .val (.int p3), .unset, .unset, .unset, .unset] [(.int (28 : Int32)), (.ref b1), (.ref b1)])) (fun _ k => XS.bipush (g := (mkF m 184 #[.val (.int p1), .val (.int p2), .val (.int p3), .unset, .unset, .unset, .unset] [(.ref b1), (.ref b1)])) X29.here hx rfl (hb hby at_184) k) ?_
  refine own_st (T' := T29) (g' := (mkF m 188 #[.val (.int p1), .val (.int p2), .val (.int p3), .unset, .unset, .unset, .unset] [(.int (983039 : Int32)), (.int (28 : Int32)), (.ref b1), (.ref b1)])) (fun _ k => (X29.ldcInt hx hown (mvT hZ (hw _ (List.mem_of_getElem? (i := 7) rfl))) (g := (mkF m 186 #[.val (.int p1), .val (.int p2), .val (.int p3), .unset, .unset, .unset, .unset] [(.int (28 : Int32)), (.ref b1), (.ref b1)])) rfl (hb hby at_186)) _ k) ?_
  obtain ⟨cl30, Ar30, qk30, Sz30, Nn30, Hs30, Gs30⟩ := V29
  have hin30 : ¬ ((28 : Int32) < 0 ∨ cl30.slots.size ≤ ((28 : Int32)).toNatClampNeg) := inb_of Sz30 ⟨by decide, by decide⟩
  obtain ⟨T30, h30, X30, e30, W30, st30⟩ := stI X29 hx hZ e29 Ar30 (j := (28 : Int32)) hin30 (g := (mkF m 188 #[.val (.int p1), .val (.int p2), .val (.int p3), .unset, .unset, .unset, .unset] [(.int (983039 : Int32)), (.int (28 : Int32)), (.ref b1), (.ref b1)])) rfl rfl (hb hby at_188)
  have V30 : Arv Z h30 b1 k1 .int (29 : Int32) [(.int (65 : Int32)), (.int (90 : Int32)), (.int (95 : Int32)), (.int (97 : Int32)), (.int (122 : Int32)), (.int (192 : Int32)), (.int (214 : Int32)), (.int (216 : Int32)), (.int (246 : Int32)), (.int (248 : Int32)), (.int (767 : Int32)), (.int (880 : Int32)), (.int (893 : Int32)), (.int (895 : Int32)), (.int (8191 : Int32)), (.int (8204 : Int32)), (.int (8205 : Int32)), (.int (8304 : Int32)), (.int (8591 : Int32)), (.int (11264 : Int32)), (.int (12271 : Int32)), (.int (12289 : Int32)), (.int (55295 : Int32)), (.int (63744 : Int32)), (.int (64975 : Int32)), (.int (65008 : Int32)), (.int (65533 : Int32)), (.int (65536 : Int32)), (.int (983039 : Int32))] (.int (0 : Int32)) := Arv.set Ar30 qk30 Sz30 Nn30 Hs30 Gs30 rfl W30 28 rfl (Nat.le_of_ble_eq_true rfl)
  have Zs30 : n0 ≤ h30.size := Nat.le_trans Zs29 (Keep.of_wr W30).1
  obtain ⟨lc30, X30, N30⟩ := own_loc X30 (Fr.snoc X30 N29 gn_b1)
  refine own_st (T' := T30) (g' := (mkF m 189 #[.val (.int p1), .val (.int p2), .val (.int p3), .unset, .unset, .unset, .unset] [(.ref b1)])) (fun _ k => (st30) _ k) ?_
  refine own_st (T' := T30) (g' := (mkF m 190 #[.val (.int p1), .val (.int p2), .val (.int p3), .val (.ref b1), .unset, .unset, .unset] [])) (fun _ k => Jvm.Free.XS.astoreN (g := (mkF m 189 #[.val (.int p1), .val (.int p2), .val (.int p3), .unset, .unset, .unset, .unset] [(.ref b1)])) X30.here hx rfl (hb hby at_189) rfl rfl (l' := #[.val (.int p1), .val (.int p2), .val (.int p3), .val (.ref b1), .unset, .unset, .unset]) rfl k) ?_
  refine own_st (T' := T30) (g' := (mkF m 191 #[.val (.int p1), .val (.int p2), .val (.int p3), .val (.ref b1), .unset, .unset, .unset] [(.ref b1)])) (fun _ k => Jvm.Free.XS.aloadN (g := (mkF m 190 #[.val (.int p1), .val (.int p2), .val (.int p3), .val (.ref b1), .unset, .unset, .unset] [])) X30.here hx rfl (hb hby at_190) rfl rfl k) ?_
  refine own_st (T' := T30) (g' := (mkF m 192 #[.val (.int p1), .val (.int p2), .val (.int p3), .val (.ref b1), .unset, .unset, .unset] [(.int p2), (.ref b1)])) (fun _ k => Jvm.Free.XS.iloadN (g := (mkF m 191 #[.val (.int p1), .val (.int p2), .val (.int p3), .val (.ref b1), .unset, .unset, .unset] [(.ref b1)])) X30.here hx rfl (hb hby at_191) rfl k) ?_
  refine own_st (T' := T30) (g' := (mkF m 194 #[.val (.int p1), .val (.int p2), .val (.int p3), .val (.ref b1), .unset, .unset, .unset] [(.int (2147483647 : Int32)), (.int p2), (.ref b1)])) (fun _ k => (X30.ldcInt hx hown (mvT hZ (hw _ (List.mem_of_getElem? (i := 8) rfl))) (g := (mkF m 192 #[.val (.int p1), .val (.int p2), .val (.int p3), .val (.ref b1), .unset, .unset, .unset] [(.int p2), (.ref b1)])) rfl (hb hby at_192)) _ k) ?_
  refine own_st (T' := T30) (g' := (mkF m 195 #[.val (.int p1), .val (.int p2), .val (.int p3), .val (.ref b1), .unset, .unset, .unset] [(.int (p2 &&& (2147483647 : Int32))), (.ref b1)])) (fun _ k => Jvm.Free.XS.iand (g := (mkF m 194 #[.val (.int p1), .val (.int p2), .val (.int p3), .val (.ref b1), .unset, .unset, .unset] [(.int (2147483647 : Int32)), (.int p2), (.ref b1)])) X30.here hx rfl (hb hby at_194) rfl k) ?_
  refine own_st (T' := T30) (g' := (mkF m 196 #[.val (.int p1), .val (.int p2), .val (.int p3), .val (.ref b1), .unset, .unset, .unset] [(.ref b1), (.int (p2 &&& (2147483647 : Int32))), (.ref b1)])) (fun _ k => Jvm.Free.XS.aloadN (g := (mkF m 195 #[.val (.int p1), .val (.int p2), .val (.int p3), .val (.ref b1), .unset, .unset, .unset] [(.int (p2 &&& (2147483647 : Int32))), (.ref b1)])) X30.here hx rfl (hb hby at_195) rfl rfl k) ?_
  obtain ⟨cl31, Ar31, -, Sz31, Nn31, -, -⟩ := id V30
  have al31 := X30.arraylength hx (by rw [e30]; exact Ar31.1) (State.isArrayOf_alike hZ.alike Ar31.2.1) (g := (mkF m 196 #[.val (.int p1), .val (.int p2), .val (.int p3), .val (.ref b1), .unset, .unset, .unset] [(.ref b1), (.int (p2 &&& (2147483647 : Int32))), (.ref b1)])) rfl rfl (hb hby at_196)
  rw [len_of Sz31 Nn31] at al31
  refine own_st (T' := T30) (g' := (mkF m 197 #[.val (.int p1), .val (.int p2), .val (.int p3), .val (.ref b1), .unset, .unset, .unset] [(.int (29 : Int32)), (.int (p2 &&& (2147483647 : Int32))), (.ref b1)])) (fun _ k => (al31) _ k) ?_
  refine own_st (T' := T30) (g' := (mkF m 198 #[.val (.int p1), .val (.int p2), .val (.int p3), .val (.ref b1), .unset, .unset, .unset] [(.int ((p2 &&& (2147483647 : Int32)) - ((p2 &&& (2147483647 : Int32)) / (29 : Int32)) * (29 : Int32))), (.ref b1)])) (fun _ k => XS.irem (g := (mkF m 197 #[.val (.int p1), .val (.int p2), .val (.int p3), .val (.ref b1), .unset, .unset, .unset] [(.int (29 : Int32)), (.int (p2 &&& (2147483647 : Int32))), (.ref b1)])) X30.here hx rfl (hb hby at_197) rfl (by decide) k) ?_
  obtain ⟨cl32, Ar32, -, Sz32, Nn32, Hs32, Gs32⟩ := id V30
  obtain ⟨w32, hw32⟩ : ∃ w, w = ([(65 : Int32), (90 : Int32), (95 : Int32), (97 : Int32), (122 : Int32), (192 : Int32), (214 : Int32), (216 : Int32), (246 : Int32), (248 : Int32), (767 : Int32), (880 : Int32), (893 : Int32), (895 : Int32), (8191 : Int32), (8204 : Int32), (8205 : Int32), (8304 : Int32), (8591 : Int32), (11264 : Int32), (12271 : Int32), (12289 : Int32), (55295 : Int32), (63744 : Int32), (64975 : Int32), (65008 : Int32), (65533 : Int32), (65536 : Int32), (983039 : Int32)] : List Int32).getD (((p2 &&& (2147483647 : Int32)) - ((p2 &&& (2147483647 : Int32)) / (29 : Int32)) * (29 : Int32))).toNatClampNeg 0 := ⟨_, rfl⟩
  have hin32 : ¬ (((p2 &&& (2147483647 : Int32)) - ((p2 &&& (2147483647 : Int32)) / (29 : Int32)) * (29 : Int32)) < 0 ∨ cl32.slots.size ≤ (((p2 &&& (2147483647 : Int32)) - ((p2 &&& (2147483647 : Int32)) / (29 : Int32)) * (29 : Int32))).toNatClampNeg) := inb_of Sz32 (own_in _ _ (own_rem _ _ (own_and _) (by decide)).2.1 (own_rem _ _ (own_and _) (by decide)).2.2)
  have hat32 : cl32.slots[(((p2 &&& (2147483647 : Int32)) - ((p2 &&& (2147483647 : Int32)) / (29 : Int32)) * (29 : Int32))).toNatClampNeg]? = some (.int w32) := Has.at Hs32 hin32 ((own_getD [(65 : Int32), (90 : Int32), (95 : Int32), (97 : Int32), (122 : Int32), (192 : Int32), (214 : Int32), (216 : Int32), (246 : Int32), (248 : Int32), (767 : Int32), (880 : Int32), (893 : Int32), (895 : Int32), (8191 : Int32), (8204 : Int32), (8205 : Int32), (8304 : Int32), (8591 : Int32), (11264 : Int32), (12271 : Int32), (12289 : Int32), (55295 : Int32), (63744 : Int32), (64975 : Int32), (65008 : Int32), (65533 : Int32), (65536 : Int32), (983039 : Int32)] _).trans (congrArg Value.int hw32.symm))
  refine own_st (T' := T30) (g' := (mkF m 199 #[.val (.int p1), .val (.int p2), .val (.int p3), .val (.ref b1), .unset, .unset, .unset] [(.int w32)])) (fun _ k => (X30.iaload hx (j := ((p2 &&& (2147483647 : Int32)) - ((p2 &&& (2147483647 : Int32)) / (29 : Int32)) * (29 : Int32))) (v := (.int w32)) (by rw [e30]; exact Ar32.1) (State.isArrayOf_alike hZ.alike Ar32.2.1) Ar32.2.2 hin32 hat32 (g := (mkF m 198 #[.val (.int p1), .val (.int p2), .val (.int p3), .val (.ref b1), .unset, .unset, .unset] [(.int ((p2 &&& (2147483647 : Int32)) - ((p2 &&& (2147483647 : Int32)) / (29 : Int32)) * (29 : Int32))), (.ref b1)])) rfl rfl (hb hby at_198)) _ k) ?_
  refine own_st (T' := T30) (g' := (mkF m 200 #[.val (.int p1), .val (.int p2), .val (.int p3), .val (.ref b1), .unset, .unset, .unset] [(.int p3), (.int w32)])) (fun _ k => Jvm.Free.XS.iloadN (g := (mkF m 199 #[.val (.int p1), .val (.int p2), .val (.int p3), .val (.ref b1), .unset, .unset, .unset] [(.int w32)])) X30.here hx rfl (hb hby at_199) rfl k) ?_
  refine own_st (T' := T30) (g' := (mkF m 201 #[.val (.int p1), .val (.int p2), .val (.int p3), .val (.ref b1), .unset, .unset, .unset] [(.int (2 : Int32)), (.int p3), (.int w32)])) (fun _ k => XS.iconst (g := (mkF m 200 #[.val (.int p1), .val (.int p2), .val (.int p3), .val (.ref b1), .unset, .unset, .unset] [(.int p3), (.int w32)])) X30.here hx rfl (hb hby at_200) k) ?_
  refine own_st (T' := T30) (g' := (mkF m 202 #[.val (.int p1), .val (.int p2), .val (.int p3), .val (.ref b1), .unset, .unset, .unset] [(.int (p3 - (p3 / (2 : Int32)) * (2 : Int32))), (.int w32)])) (fun _ k => XS.irem (g := (mkF m 201 #[.val (.int p1), .val (.int p2), .val (.int p3), .val (.ref b1), .unset, .unset, .unset] [(.int (2 : Int32)), (.int p3), (.int w32)])) X30.here hx rfl (hb hby at_201) rfl (by decide) k) ?_
  refine own_st (T' := T30) (g' := (mkF m 203 #[.val (.int p1), .val (.int p2), .val (.int p3), .val (.ref b1), .unset, .unset, .unset] [(.int (w32 + (p3 - (p3 / (2 : Int32)) * (2 : Int32))))])) (fun _ k => Jvm.Free.XS.iadd (g := (mkF m 202 #[.val (.int p1), .val (.int p2), .val (.int p3), .val (.ref b1), .unset, .unset, .unset] [(.int (p3 - (p3 / (2 : Int32)) * (2 : Int32))), (.int w32)])) X30.here hx rfl (hb hby at_202) rfl k) ?_
  refine own_st (T' := T30) (g' := (mkF m 205 #[.val (.int p1), .val (.int p2), .val (.int p3), .val (.ref b1), .val (.int (w32 + (p3 - (p3 / (2 : Int32)) * (2 : Int32)))), .unset, .unset] [])) (fun _ k => Jvm.Free.XS.istore (g := (mkF m 203 #[.val (.int p1), .val (.int p2), .val (.int p3), .val (.ref b1), .unset, .unset, .unset] [(.int (w32 + (p3 - (p3 / (2 : Int32)) * (2 : Int32))))])) X30.here hx rfl (hb hby at_203) rfl (l' := #[.val (.int p1), .val (.int p2), .val (.int p3), .val (.ref b1), .val (.int (w32 + (p3 - (p3 / (2 : Int32)) * (2 : Int32)))), .unset, .unset]) rfl k) ?_
  refine own_st (T' := T30) (g' := (mkF m 206 #[.val (.int p1), .val (.int p2), .val (.int p3), .val (.ref b1), .val (.int (w32 + (p3 - (p3 / (2 : Int32)) * (2 : Int32)))), .unset, .unset] [(.int p1)])) (fun _ k => Jvm.Free.XS.iloadN (g := (mkF m 205 #[.val (.int p1), .val (.int p2), .val (.int p3), .val (.ref b1), .val (.int (w32 + (p3 - (p3 / (2 : Int32)) * (2 : Int32)))), .unset, .unset] [])) X30.here hx rfl (hb hby at_205) rfl k) ?_
  obtain ⟨v33, T33, L33, X33, hQ33, st33⟩ := own_packS (Jvm.LawKit.callS X30 hx (y := (⟨"com/example/hollow_tree/hollowtree/xml/XmlChars", "isNameStartChar", "(I)Z"⟩ : MethodName)) hown (mvT hZ (hw _ (List.mem_of_getElem? (i := 9) rfl))) (mvT hZ (hw _ (List.mem_of_getElem? (i := 10) rfl))) (mvT hZ (hw _ (List.mem_of_getElem? (i := 11) rfl))) (mvT hZ (hw _ (List.mem_of_getElem? (i := 12) rfl))) (by decide) (backOf (W := 0) (rm1 l Z a0 hw [] p1 h30 n0 Zs30 ) hZ (hw _ (List.mem_of_getElem? (i := 12) rfl)) (hw _ (List.mem_of_getElem? (i := 11) rfl)) (by decide) (by decide)) (g := (mkF m 206 #[.val (.int p1), .val (.int p2), .val (.int p3), .val (.ref b1), .val (.int (w32 + (p3 - (p3 / (2 : Int32)) * (2 : Int32)))), .unset, .unset] [(.int p1)])) rfl (by rw [hml]; rfl) (argsL := [(.int p1)]) (rest := []) (lenOf own_pd0_0 rfl) rfl (by show 2 * 0 + _ ≤ _; exact Nat.le_of_eq rfl) (hb hby at_206) (fun _ _ => ⟨rfl, e30, (by decide : 1 + 0 ≤ _), (by decide : 29 + 0 ≤ _)⟩))
  obtain ⟨rfl, N33q, e33⟩ := hQ33
  obtain ⟨lc33, X33, N33⟩ := own_loc X33 (Fr.app N30 N33q)
  refine own_st (T' := T33) (g' := (mkF m 209 #[.val (.int p1), .val (.int p2), .val (.int p3), .val (.ref b1), .val (.int (w32 + (p3 - (p3 / (2 : Int32)) * (2 : Int32)))), .unset, .unset] [(.int (own_f1_0 p1))])) (fun _ k => (st33) _ k) ?_
  refine own_st (T' := T33) (g' := (mkF m 210 #[.val (.int p1), .val (.int p2), .val (.int p3), .val (.ref b1), .val (.int (w32 + (p3 - (p3 / (2 : Int32)) * (2 : Int32)))), .unset, .unset] [(.int p1), (.int (own_f1_0 p1))])) (fun _ k => Jvm.Free.XS.iloadN (g := (mkF m 209 #[.val (.int p1), .val (.int p2), .val (.int p3), .val (.ref b1), .val (.int (w32 + (p3 - (p3 / (2 : Int32)) * (2 : Int32)))), .unset, .unset] [(.int (own_f1_0 p1))])) X33.here hx rfl (hb hby at_209) rfl k) ?_
  obtain ⟨v34, T34, L34, X34, hQ34, st34⟩ := own_packS (Jvm.LawKit.callS X33 hx (y := (⟨"com/example/hollow_tree/hollowtree/xml/XmlCharsIsNameStartCharPinLaw", "ref", "(I)Z"⟩ : MethodName)) hown (mvT hZ (hw _ (List.mem_of_getElem? (i := 16) rfl))) (mvT hZ (hw _ (List.mem_of_getElem? (i := 17) rfl))) (mvT hZ (hw _ (List.mem_of_getElem? (i := 18) rfl))) (mvT hZ (hw _ (List.mem_of_getElem? (i := 19) rfl))) (by decide) (backOf (W := 1) (rm2 l Z a0 hw [] p1 h30 n0 Zs30 ) hZ (hw _ (List.mem_of_getElem? (i := 19) rfl)) (hw _ (List.mem_of_getElem? (i := 18) rfl)) (by decide) (by decide)) (g := (mkF m 210 #[.val (.int p1), .val (.int p2), .val (.int p3), .val (.ref b1), .val (.int (w32 + (p3 - (p3 / (2 : Int32)) * (2 : Int32)))), .unset, .unset] [(.int p1), (.int (own_f1_0 p1))])) rfl (by rw [hml]; rfl) (argsL := [(.int p1)]) (rest := [(.int (own_f1_0 p1))]) (lenOf own_pd0_0 rfl) rfl (by show 2 * 0 + _ ≤ _; exact Nat.le_of_eq rfl) (hb hby at_210) (fun _ _ => ⟨rfl, e33, (by decide : 1 + 0 ≤ _), (by decide : 29 + 0 ≤ _)⟩))
  obtain ⟨rfl, N34q, e34⟩ := hQ34
  obtain ⟨lc34, X34, N34⟩ := own_loc X34 (Fr.app N33 N34q)
  refine own_st (T' := T34) (g' := (mkF m 213 #[.val (.int p1), .val (.int p2), .val (.int p3), .val (.ref b1), .val (.int (w32 + (p3 - (p3 / (2 : Int32)) * (2 : Int32)))), .unset, .unset] [(.int (own_f2_0 p1)), (.int (own_f1_0 p1))])) (fun _ k => (st34) _ k) ?_
  refine own_st (T' := T34) (g' := (mkF m 216 #[.val (.int p1), .val (.int p2), .val (.int p3), .val (.ref b1), .val (.int (w32 + (p3 - (p3 / (2 : Int32)) * (2 : Int32)))), .unset, .unset] [])) (fun _ k => XS.icmpNo (g := (mkF m 213 #[.val (.int p1), .val (.int p2), .val (.int p3), .val (.ref b1), .val (.int (w32 + (p3 - (p3 / (2 : Int32)) * (2 : Int32)))), .unset, .unset] [(.int (own_f2_0 p1)), (.int (own_f1_0 p1))])) X34.here hx rfl (hb hby at_213) rfl (teq (own_same p1)).2 k) ?_
  refine own_st (T' := T34) (g' := (mkF m 217 #[.val (.int p1), .val (.int p2), .val (.int p3), .val (.ref b1), .val (.int (w32 + (p3 - (p3 / (2 : Int32)) * (2 : Int32)))), .unset, .unset] [(.int (1 : Int32))])) (fun _ k => XS.iconst (g := (mkF m 216 #[.val (.int p1), .val (.int p2), .val (.int p3), .val (.ref b1), .val (.int (w32 + (p3 - (p3 / (2 : Int32)) * (2 : Int32)))), .unset, .unset] [])) X34.here hx rfl (hb hby at_216) k) ?_
  refine own_st (T' := T34) (g' := (mkF m 221 #[.val (.int p1), .val (.int p2), .val (.int p3), .val (.ref b1), .val (.int (w32 + (p3 - (p3 / (2 : Int32)) * (2 : Int32)))), .unset, .unset] [(.int (1 : Int32))])) (fun _ k => XS.goto (g := (mkF m 217 #[.val (.int p1), .val (.int p2), .val (.int p3), .val (.ref b1), .val (.int (w32 + (p3 - (p3 / (2 : Int32)) * (2 : Int32)))), .unset, .unset] [(.int (1 : Int32))])) X34.here hx rfl (pc0 := 217) (pc' := 221) rfl (hb hby at_217) (by decide) (by decide) k) ?_
  refine own_st (T' := T34) (g' := (mkF m 223 #[.val (.int p1), .val (.int p2), .val (.int p3), .val (.ref b1), .val (.int (w32 + (p3 - (p3 / (2 : Int32)) * (2 : Int32)))), .val (.int (1 : Int32)), .unset] [])) (fun _ k => Jvm.Free.XS.istore (g := (mkF m 221 #[.val (.int p1), .val (.int p2), .val (.int p3), .val (.ref b1), .val (.int (w32 + (p3 - (p3 / (2 : Int32)) * (2 : Int32)))), .unset, .unset] [(.int (1 : Int32))])) X34.here hx rfl (hb hby at_221) rfl (l' := #[.val (.int p1), .val (.int p2), .val (.int p3), .val (.ref b1), .val (.int (w32 + (p3 - (p3 / (2 : Int32)) * (2 : Int32)))), .val (.int (1 : Int32)), .unset]) rfl k) ?_
  refine own_st (T' := T34) (g' := (mkF m 225 #[.val (.int p1), .val (.int p2), .val (.int p3), .val (.ref b1), .val (.int (w32 + (p3 - (p3 / (2 : Int32)) * (2 : Int32)))), .val (.int (1 : Int32)), .unset] [(.int (w32 + (p3 - (p3 / (2 : Int32)) * (2 : Int32))))])) (fun _ k => Jvm.Free.XS.iload (g := (mkF m 223 #[.val (.int p1), .val (.int p2), .val (.int p3), .val (.ref b1), .val (.int (w32 + (p3 - (p3 / (2 : Int32)) * (2 : Int32)))), .val (.int (1 : Int32)), .unset] [])) X34.here hx rfl (hb hby at_223) rfl k) ?_
  obtain ⟨v35, T35, L35, X35, hQ35, st35⟩ := own_packS (Jvm.LawKit.callS X34 hx (y := (⟨"com/example/hollow_tree/hollowtree/xml/XmlChars", "isNameStartChar", "(I)Z"⟩ : MethodName)) hown (mvT hZ (hw _ (List.mem_of_getElem? (i := 9) rfl))) (mvT hZ (hw _ (List.mem_of_getElem? (i := 10) rfl))) (mvT hZ (hw _ (List.mem_of_getElem? (i := 11) rfl))) (mvT hZ (hw _ (List.mem_of_getElem? (i := 12) rfl))) (by decide) (backOf (W := 0) (rm1 l Z a0 hw [] (w32 + (p3 - (p3 / (2 : Int32)) * (2 : Int32))) h30 n0 Zs30 ) hZ (hw _ (List.mem_of_getElem? (i := 12) rfl)) (hw _ (List.mem_of_getElem? (i := 11) rfl)) (by decide) (by decide)) (g := (mkF m 225 #[.val (.int p1), .val (.int p2), .val (.int p3), .val (.ref b1), .val (.int (w32 + (p3 - (p3 / (2 : Int32)) * (2 : Int32)))), .val (.int (1 : Int32)), .unset] [(.int (w32 + (p3 - (p3 / (2 : Int32)) * (2 : Int32))))])) rfl (by rw [hml]; rfl) (argsL := [(.int (w32 + (p3 - (p3 / (2 : Int32)) * (2 : Int32))))]) (rest := []) (lenOf own_pd0_0 rfl) rfl (by show 2 * 0 + _ ≤ _; exact Nat.le_of_eq rfl) (hb hby at_225) (fun _ _ => ⟨rfl, e34, (by decide : 1 + 0 ≤ _), (by decide : 29 + 0 ≤ _)⟩))
  obtain ⟨rfl, N35q, e35⟩ := hQ35
  obtain ⟨lc35, X35, N35⟩ := own_loc X35 (Fr.app N34 N35q)
  refine own_st (T' := T35) (g' := (mkF m 228 #[.val (.int p1), .val (.int p2), .val (.int p3), .val (.ref b1), .val (.int (w32 + (p3 - (p3 / (2 : Int32)) * (2 : Int32)))), .val (.int (1 : Int32)), .unset] [(.int (own_f1_0 (w32 + (p3 - (p3 / (2 : Int32)) * (2 : Int32)))))])) (fun _ k => (st35) _ k) ?_
  refine own_st (T' := T35) (g' := (mkF m 230 #[.val (.int p1), .val (.int p2), .val (.int p3), .val (.ref b1), .val (.int (w32 + (p3 - (p3 / (2 : Int32)) * (2 : Int32)))), .val (.int (1 : Int32)), .unset] [(.int (w32 + (p3 - (p3 / (2 : Int32)) * (2 : Int32)))), (.int (own_f1_0 (w32 + (p3 - (p3 / (2 : Int32)) * (2 : Int32)))))])) (fun _ k => Jvm.Free.XS.iload (g := (mkF m 228 #[.val (.int p1), .val (.int p2), .val (.int p3), .val (.ref b1), .val (.int (w32 + (p3 - (p3 / (2 : Int32)) * (2 : Int32)))), .val (.int (1 : Int32)), .unset] [(.int (own_f1_0 (w32 + (p3 - (p3 / (2 : Int32)) * (2 : Int32)))))])) X35.here hx rfl (hb hby at_228) rfl k) ?_
  obtain ⟨v36, T36, L36, X36, hQ36, st36⟩ := own_packS (Jvm.LawKit.callS X35 hx (y := (⟨"com/example/hollow_tree/hollowtree/xml/XmlCharsIsNameStartCharPinLaw", "ref", "(I)Z"⟩ : MethodName)) hown (mvT hZ (hw _ (List.mem_of_getElem? (i := 16) rfl))) (mvT hZ (hw _ (List.mem_of_getElem? (i := 17) rfl))) (mvT hZ (hw _ (List.mem_of_getElem? (i := 18) rfl))) (mvT hZ (hw _ (List.mem_of_getElem? (i := 19) rfl))) (by decide) (backOf (W := 1) (rm2 l Z a0 hw [] (w32 + (p3 - (p3 / (2 : Int32)) * (2 : Int32))) h30 n0 Zs30 ) hZ (hw _ (List.mem_of_getElem? (i := 19) rfl)) (hw _ (List.mem_of_getElem? (i := 18) rfl)) (by decide) (by decide)) (g := (mkF m 230 #[.val (.int p1), .val (.int p2), .val (.int p3), .val (.ref b1), .val (.int (w32 + (p3 - (p3 / (2 : Int32)) * (2 : Int32)))), .val (.int (1 : Int32)), .unset] [(.int (w32 + (p3 - (p3 / (2 : Int32)) * (2 : Int32)))), (.int (own_f1_0 (w32 + (p3 - (p3 / (2 : Int32)) * (2 : Int32)))))])) rfl (by rw [hml]; rfl) (argsL := [(.int (w32 + (p3 - (p3 / (2 : Int32)) * (2 : Int32))))]) (rest := [(.int (own_f1_0 (w32 + (p3 - (p3 / (2 : Int32)) * (2 : Int32)))))]) (lenOf own_pd0_0 rfl) rfl (by show 2 * 0 + _ ≤ _; exact Nat.le_of_eq rfl) (hb hby at_230) (fun _ _ => ⟨rfl, e35, (by decide : 1 + 0 ≤ _), (by decide : 29 + 0 ≤ _)⟩))
  obtain ⟨rfl, N36q, e36⟩ := hQ36
  obtain ⟨lc36, X36, N36⟩ := own_loc X36 (Fr.app N35 N36q)
  refine own_st (T' := T36) (g' := (mkF m 233 #[.val (.int p1), .val (.int p2), .val (.int p3), .val (.ref b1), .val (.int (w32 + (p3 - (p3 / (2 : Int32)) * (2 : Int32)))), .val (.int (1 : Int32)), .unset] [(.int (own_f2_0 (w32 + (p3 - (p3 / (2 : Int32)) * (2 : Int32))))), (.int (own_f1_0 (w32 + (p3 - (p3 / (2 : Int32)) * (2 : Int32)))))])) (fun _ k => (st36) _ k) ?_
  refine own_st (T' := T36) (g' := (mkF m 236 #[.val (.int p1), .val (.int p2), .val (.int p3), .val (.ref b1), .val (.int (w32 + (p3 - (p3 / (2 : Int32)) * (2 : Int32)))), .val (.int (1 : Int32)), .unset] [])) (fun _ k => XS.icmpNo (g := (mkF m 233 #[.val (.int p1), .val (.int p2), .val (.int p3), .val (.ref b1), .val (.int (w32 + (p3 - (p3 / (2 : Int32)) * (2 : Int32)))), .val (.int (1 : Int32)), .unset] [(.int (own_f2_0 (w32 + (p3 - (p3 / (2 : Int32)) * (2 : Int32))))), (.int (own_f1_0 (w32 + (p3 - (p3 / (2 : Int32)) * (2 : Int32)))))])) X36.here hx rfl (hb hby at_233) rfl (teq (own_same (w32 + (p3 - (p3 / (2 : Int32)) * (2 : Int32))))).2 k) ?_
  refine own_st (T' := T36) (g' := (mkF m 237 #[.val (.int p1), .val (.int p2), .val (.int p3), .val (.ref b1), .val (.int (w32 + (p3 - (p3 / (2 : Int32)) * (2 : Int32)))), .val (.int (1 : Int32)), .unset] [(.int (1 : Int32))])) (fun _ k => XS.iconst (g := (mkF m 236 #[.val (.int p1), .val (.int p2), .val (.int p3), .val (.ref b1), .val (.int (w32 + (p3 - (p3 / (2 : Int32)) * (2 : Int32)))), .val (.int (1 : Int32)), .unset] [])) X36.here hx rfl (hb hby at_236) k) ?_
  refine own_st (T' := T36) (g' := (mkF m 241 #[.val (.int p1), .val (.int p2), .val (.int p3), .val (.ref b1), .val (.int (w32 + (p3 - (p3 / (2 : Int32)) * (2 : Int32)))), .val (.int (1 : Int32)), .unset] [(.int (1 : Int32))])) (fun _ k => XS.goto (g := (mkF m 237 #[.val (.int p1), .val (.int p2), .val (.int p3), .val (.ref b1), .val (.int (w32 + (p3 - (p3 / (2 : Int32)) * (2 : Int32)))), .val (.int (1 : Int32)), .unset] [(.int (1 : Int32))])) X36.here hx rfl (pc0 := 237) (pc' := 241) rfl (hb hby at_237) (by decide) (by decide) k) ?_
  refine own_st (T' := T36) (g' := (mkF m 243 #[.val (.int p1), .val (.int p2), .val (.int p3), .val (.ref b1), .val (.int (w32 + (p3 - (p3 / (2 : Int32)) * (2 : Int32)))), .val (.int (1 : Int32)), .val (.int (1 : Int32))] [])) (fun _ k => Jvm.Free.XS.istore (g := (mkF m 241 #[.val (.int p1), .val (.int p2), .val (.int p3), .val (.ref b1), .val (.int (w32 + (p3 - (p3 / (2 : Int32)) * (2 : Int32)))), .val (.int (1 : Int32)), .unset] [(.int (1 : Int32))])) X36.here hx rfl (hb hby at_241) rfl (l' := #[.val (.int p1), .val (.int p2), .val (.int p3), .val (.ref b1), .val (.int (w32 + (p3 - (p3 / (2 : Int32)) * (2 : Int32)))), .val (.int (1 : Int32)), .val (.int (1 : Int32))]) rfl k) ?_
  refine own_st (T' := T36) (g' := (mkF m 245 #[.val (.int p1), .val (.int p2), .val (.int p3), .val (.ref b1), .val (.int (w32 + (p3 - (p3 / (2 : Int32)) * (2 : Int32)))), .val (.int (1 : Int32)), .val (.int (1 : Int32))] [(.int (1 : Int32))])) (fun _ k => Jvm.Free.XS.iload (g := (mkF m 243 #[.val (.int p1), .val (.int p2), .val (.int p3), .val (.ref b1), .val (.int (w32 + (p3 - (p3 / (2 : Int32)) * (2 : Int32)))), .val (.int (1 : Int32)), .val (.int (1 : Int32))] [])) X36.here hx rfl (hb hby at_243) rfl k) ?_
  refine own_st (T' := T36) (g' := (mkF m 248 #[.val (.int p1), .val (.int p2), .val (.int p3), .val (.ref b1), .val (.int (w32 + (p3 - (p3 / (2 : Int32)) * (2 : Int32)))), .val (.int (1 : Int32)), .val (.int (1 : Int32))] [])) (fun _ k => XS.ifNo (g := (mkF m 245 #[.val (.int p1), .val (.int p2), .val (.int p3), .val (.ref b1), .val (.int (w32 + (p3 - (p3 / (2 : Int32)) * (2 : Int32)))), .val (.int (1 : Int32)), .val (.int (1 : Int32))] [(.int (1 : Int32))])) X36.here hx rfl (hb hby at_245) rfl ((if0 _ _).trans (feq (by decide : ¬ ((1 : Int32) = (0 : Int32)))).1) k) ?_
  refine own_st (T' := T36) (g' := (mkF m 250 #[.val (.int p1), .val (.int p2), .val (.int p3), .val (.ref b1), .val (.int (w32 + (p3 - (p3 / (2 : Int32)) * (2 : Int32)))), .val (.int (1 : Int32)), .val (.int (1 : Int32))] [(.int (1 : Int32))])) (fun _ k => Jvm.Free.XS.iload (g := (mkF m 248 #[.val (.int p1), .val (.int p2), .val (.int p3), .val (.ref b1), .val (.int (w32 + (p3 - (p3 / (2 : Int32)) * (2 : Int32)))), .val (.int (1 : Int32)), .val (.int (1 : Int32))] [])) X36.here hx rfl (hb hby at_248) rfl k) ?_
  refine own_st (T' := T36) (g' := (mkF m 253 #[.val (.int p1), .val (.int p2), .val (.int p3), .val (.ref b1), .val (.int (w32 + (p3 - (p3 / (2 : Int32)) * (2 : Int32)))), .val (.int (1 : Int32)), .val (.int (1 : Int32))] [])) (fun _ k => XS.ifNo (g := (mkF m 250 #[.val (.int p1), .val (.int p2), .val (.int p3), .val (.ref b1), .val (.int (w32 + (p3 - (p3 / (2 : Int32)) * (2 : Int32)))), .val (.int (1 : Int32)), .val (.int (1 : Int32))] [(.int (1 : Int32))])) X36.here hx rfl (hb hby at_250) rfl ((if0 _ _).trans (feq (by decide : ¬ ((1 : Int32) = (0 : Int32)))).1) k) ?_
  refine own_st (T' := T36) (g' := (mkF m 254 #[.val (.int p1), .val (.int p2), .val (.int p3), .val (.ref b1), .val (.int (w32 + (p3 - (p3 / (2 : Int32)) * (2 : Int32)))), .val (.int (1 : Int32)), .val (.int (1 : Int32))] [(.int (1 : Int32))])) (fun _ k => XS.iconst (g := (mkF m 253 #[.val (.int p1), .val (.int p2), .val (.int p3), .val (.ref b1), .val (.int (w32 + (p3 - (p3 / (2 : Int32)) * (2 : Int32)))), .val (.int (1 : Int32)), .val (.int (1 : Int32))] [])) X36.here hx rfl (hb hby at_253) k) ?_
  refine own_st (T' := T36) (g' := (mkF m 258 #[.val (.int p1), .val (.int p2), .val (.int p3), .val (.ref b1), .val (.int (w32 + (p3 - (p3 / (2 : Int32)) * (2 : Int32)))), .val (.int (1 : Int32)), .val (.int (1 : Int32))] [(.int (1 : Int32))])) (fun _ k => XS.goto (g := (mkF m 254 #[.val (.int p1), .val (.int p2), .val (.int p3), .val (.ref b1), .val (.int (w32 + (p3 - (p3 / (2 : Int32)) * (2 : Int32)))), .val (.int (1 : Int32)), .val (.int (1 : Int32))] [(.int (1 : Int32))])) X36.here hx rfl (pc0 := 254) (pc' := 258) rfl (hb hby at_254) (by decide) (by decide) k) ?_
  exact own_end (Q := Q0 Z p1 p2 p3 h0 n0) (v := some (.int (nar .boolean (1 : Int32)))) X36 (fun h => by rw [Bd.returns] at h; cases h) (fun fs hr => retN X36 hx (t := .boolean) Bd.returns (by simp) (hb hby at_258) hr) (⟨rfl, N36⟩) (by decide) (by decide)
set_option maxRecDepth 65536 in
set_option maxHeartbeats 40000000 in
theorem comes_1 {Post : Tables → Env → Array Value → State → Outcome → State → Prop} (hpost : ∀ tb e args s v u, (limb_1_1.after args s (.returned v) u = true ∧ limb_1_2.after args s (.returned v) u = true ∧ True) → FrameEnd s (.returned v) u (Jvm.fieldLocs frame_1_writes args s ++ Jvm.arrayLocs frame_1_arrays args s ++ Jvm.staticLocs frame_1_statics s) 16 128 → Post tb e args s (.returned v) u) :
    ArmFor flags0 classFile x code maxLocals ret World_1 tables_1 room_1 Calls_1 rest_1 Pre_1 Post := by
  intro l hfl _ _ p e ha hc hk s m args below hf hA hF happ hP
  obtain ⟨hcalls, hrest, hpre⟩ := hP
  obtain ⟨-, -, -, hnamed, -, -, -, hat⟩ := (Spec.applies_iff hf).mp happ
  obtain ⟨hg, hn⟩ := and_e (Cond.before_iff.mp (show (Jvm.Cond.and given_1 narrow_1).before args s = true from hpre))
  obtain ⟨hcount, hg0⟩ := and_e hg
  obtain ⟨ga0, hg1⟩ := and_e hg0
  obtain ⟨ga1, hg2⟩ := and_e hg1
  obtain ⟨w0, w1, w2, rfl⟩ : ∃ w0 w1 w2 : Value, args = #[w0, w1, w2] := by
    have hs : args.size = 3 := by simpa [Cond.value, given_1] using hcount
    obtain ⟨L⟩ := args
    match L, hs with
    | [w0, w1, w2], _ => exact ⟨w0, w1, w2, rfl⟩
  have hw := fun d (hd : d ∈ tables_1) => atoms_spec (ws := Jvm.Cond.code x code maxLocals ret :: tables_1) hat d (List.mem_cons_of_mem _ hd)
  obtain ⟨i0, ei0⟩ := is_v ga0
  obtain rfl : w0 = (.int i0) := Option.some.inj ei0
  obtain ⟨i1, ei1⟩ := is_v ga1
  obtain rfl : w1 = (.int i1) := Option.some.inj ei1
  obtain ⟨i2, ei2⟩ := is_v hg2
  obtain rfl : w2 = (.int i2) := Option.some.inj ei2
  obtain ⟨n, o, h1, h2, h3, _, L, rfl, ⟨rfl, N⟩, hq⟩ := rm0 l s _ hw tables_1 i0 i1 i2 s.heap s.heap.size (Nat.le_refl _)  p e ha hc hk s m _ below hf ((Spec.applies_iff_loose hf).mp happ).1 ⟨rfl, State.Warmed39.refl s, rfl⟩ trivial
  refine ⟨n, _, h1, h2, h3, hpost _ _ _ _ _ _ ⟨Cond.after_iff.mpr rfl, Cond.after_iff.mpr (eq_i res_at (Term.int_eval (1)) rfl), trivial⟩ ⟨hq.1, hq.2.1, (hq.2.2.sift fun y hy => Or.inr (N y hy)).mono (by decide) (by decide)⟩⟩
theorem main_1_1 : Claimed_1_1 := comes_1 fun _ _ _ _ _ _ h hF => ⟨h.1, hF⟩
theorem main_1_2 : Claimed_1_2 := comes_1 fun _ _ _ _ _ _ h hF => ⟨h.2.1, hF⟩
end Jvm.Pilot.@@N@@
namespace Jvm.Pilot.@@N@@
open Jvm Jvm.ClassFile Sem Op Lib Jvm.Free Jvm.Stand Jvm.Pilot.@@N@@.Jvm.D
/-! MADE BY PROGRAM (witnessworld.py) out of the Statement's table words and the real class files: 9 classes; the members and pool entries that the words name. The judged class is class 1, her method 2. -/
namespace start1
open Jvm.ClassFile
def u (s : String) : CpInfo := .utf8 (stringToUtf16 s)
/-- a pool by its gaps: so many unusable entries, then the entry; so many at the end -/
def gap : Nat → List CpInfo → List CpInfo
  | 0, r => r
  | n + 1, r => .unusable :: gap n r
def poolList (es : List (Nat × CpInfo)) (last : Nat) : List CpInfo := es.foldr (fun e r => gap e.1 (e.2 :: r)) (gap last [])
def pool (es : List (Nat × CpInfo)) (last : Nat) : Array CpInfo := ⟨poolList es last⟩
def fileOf (pool : Array CpInfo) (this : Nat) (attrs : Array Attribute := #[]) (ms : Array MethodInfo := #[]) (fl : Nat := 33) (sup : Nat := 0) (ifs : Array Nat := #[]) (fds : Array FieldInfo := #[]) : ClassFile where
  minorVersion := 0
  majorVersion := 65
  constantPool := pool
  accessFlags := fl
  thisClass := this
  superClass := sup
  interfaces := ifs
  fields := fds
  methods := ms
  attributes := attrs
def plain (name : String) (sup : Option ClassId) : Class where
  name := name
  kind := .ordinary
  loader := none
  accessFlags := 33
  super := sup
  interfaces := #[]
  cf := none
  fields := #[]
  methods := #[]
  instanceTypes := #[]
  staticTypes := #[]
  resolved := #[]
  callSites := []
  init := .initialized
  statics := none
  mirror := none

def pool0 : Array CpInfo := pool [(5, u "<init>"), (0, u "()V"), (1, .class_ 10), (1, u "java/lang/Object")] 113

def k0m0 : Method := { name := "<init>", desc := "()V", sig := { parameters := [], returnType := none }, accessFlags := 1, code := none }
/-- java/lang/Object -/
def k0 : Class := { plain "java/lang/Object" none with
  accessFlags := 33
  interfaces := #[]
  cf := some (fileOf pool0 8 #[] #[{ accessFlags := 1, nameIndex := 5, descriptorIndex := 6, attributes := #[] }] 33 0 #[] #[])
  fields := #[]
  methods := #[k0m0]
  instanceTypes := #[]
  staticTypes := #[]
  resolved := Array.replicate 124 none
  statics := none }

def pool1 : Array CpInfo := pool [(2, .class_ 4), (1, u "java/lang/Object"), (0, u "<init>"), (0, u "()V"), (0, .integer 983039), (0, .integer 55296), (0, .integer 63743), (0, .integer 64976), (0, .integer 65007), (0, .integer 65534), (0, .integer 65535), (0, .integer 55295), (0, .integer 63744), (0, .integer 64975), (0, .integer 65008), (0, .integer 65533), (0, .integer 65536), (0, .integer 2147483647), (0, .methodref 22 23), (0, .class_ 24), (0, .nameAndType 25 26), (0, u "com/example/hollow_tree/hollowtree/xml/XmlChars"), (0, u "isNameStartChar"), (0, u "(I)Z"), (0, .methodref 28 29), (0, .class_ 30), (0, .nameAndType 31 26), (0, u "com/example/hollow_tree/hollowtree/xml/XmlCharsIsNameStartCharPinLaw"), (0, u "ref"), (3, u "law"), (0, u "(III)Z")] 4

def k1m0 : Method := { name := "<init>", desc := "()V", sig := { parameters := [], returnType := none }, accessFlags := 2, code := none }
def k1c1 : Code := { maxStack := 2, maxLocals := 1, code := method_2_code, exceptionTable := #[], attributes := #[] }
def k1m1 : Method := { name := "ref", desc := "(I)Z", sig := { parameters := [.int], returnType := some .boolean }, accessFlags := 10, code := some k1c1 }
def k1c2 : Code := { maxStack := 4, maxLocals := 7, code := code, exceptionTable := #[], attributes := #[] }
def k1m2 : Method := { name := "law", desc := "(III)Z", sig := { parameters := [.int, .int, .int], returnType := some .boolean }, accessFlags := 9, code := some k1c2 }
/-- com/example/hollow_tree/hollowtree/xml/XmlCharsIsNameStartCharPinLaw -/
def k1 : Class := { plain "com/example/hollow_tree/hollowtree/xml/XmlCharsIsNameStartCharPinLaw" (some 0) with
  accessFlags := 49
  interfaces := #[]
  cf := some (fileOf pool1 28 #[] #[{ accessFlags := 2, nameIndex := 5, descriptorIndex := 6, attributes := #[] }, { accessFlags := 10, nameIndex := 31, descriptorIndex := 26, attributes := #[] }, { accessFlags := 9, nameIndex := 35, descriptorIndex := 36, attributes := #[] }] 49 2 #[] #[])
  fields := #[]
  methods := #[k1m0, k1m1, k1m2]
  instanceTypes := #[]
  staticTypes := #[]
  resolved := Array.replicate 41 none
  statics := none }

def pool2 : Array CpInfo := pool [(2, .class_ 4), (1, u "java/lang/Object"), (0, u "<init>"), (0, u "()V"), (0, .integer 55295), (0, .integer 63744), (0, .integer 64975), (0, .integer 65008), (0, .integer 65533), (0, .integer 65536), (0, .integer 983039), (1, .class_ 17), (1, u "com/example/hollow_tree/hollowtree/xml/XmlChars"), (0, u "isNameStartChar"), (0, u "(I)Z")] 10

def k2m0 : Method := { name := "<init>", desc := "()V", sig := { parameters := [], returnType := none }, accessFlags := 2, code := none }
def k2c1 : Code := { maxStack := 2, maxLocals := 1, code := prog_315_method_3_code, exceptionTable := #[], attributes := #[] }
def k2m1 : Method := { name := "isNameStartChar", desc := "(I)Z", sig := { parameters := [.int], returnType := some .boolean }, accessFlags := 9, code := some k2c1 }
/-- com/example/hollow_tree/hollowtree/xml/XmlChars -/
def k2 : Class := { plain "com/example/hollow_tree/hollowtree/xml/XmlChars" (some 0) with
  accessFlags := 33
  interfaces := #[]
  cf := some (fileOf pool2 15 #[] #[{ accessFlags := 2, nameIndex := 5, descriptorIndex := 6, attributes := #[] }, { accessFlags := 9, nameIndex := 18, descriptorIndex := 19, attributes := #[] }] 33 2 #[] #[])
  fields := #[]
  methods := #[k2m0, k2m1]
  instanceTypes := #[]
  staticTypes := #[]
  resolved := Array.replicate 30 none
  statics := none }

def pool3 : Array CpInfo := pool [(1, u "java/lang/Cloneable"), (0, .class_ 1), (0, u "java/lang/Object"), (0, .class_ 3)] 3

/-- java/lang/Cloneable -/
def k3 : Class := { plain "java/lang/Cloneable" (some 0) with
  accessFlags := 1537
  interfaces := #[]
  cf := some (fileOf pool3 2 #[] #[] 1537 4 #[] #[])
  fields := #[]
  methods := #[]
  instanceTypes := #[]
  staticTypes := #[]
  resolved := Array.replicate 8 none
  statics := none }

def pool4 : Array CpInfo := pool [(1, u "java/io/Serializable"), (0, .class_ 1), (0, u "java/lang/Object"), (0, .class_ 3)] 3

/-- java/io/Serializable -/
def k4 : Class := { plain "java/io/Serializable" (some 0) with
  accessFlags := 1537
  interfaces := #[]
  cf := some (fileOf pool4 2 #[] #[] 1537 4 #[] #[])
  fields := #[]
  methods := #[]
  instanceTypes := #[]
  staticTypes := #[]
  resolved := Array.replicate 8 none
  statics := none }

/-- the primitive byte -/
def k5 : Class := { plain "byte" none with kind := .primitive 'B', accessFlags := 0x411 }
/-- [B -/
def k6 : Class := { plain "[B" (some 0) with kind := .array 5 .byte, interfaces := #[3, 4], accessFlags := 1041 }

/-- the primitive int -/
def k7 : Class := { plain "int" none with kind := .primitive 'I', accessFlags := 0x411 }
/-- [I -/
def k8 : Class := { plain "[I" (some 0) with kind := .array 7 .int, interfaces := #[3, 4], accessFlags := 1041 }

def heap : Heap := #[]
def classes : Array Class := #[k0, k1, k2, k3, k4, k5, k6, k7, k8]
def interned : List (Array UInt16 × Addr) := []
def slotsUsed : Nat := 0
def theMethod : MethodId := ⟨1, 2⟩
def args0 : Array Value := #[.int 0, .int 3, .int 2]
def aboutOver (below : List Frame) : State where
  vm := { classes := classes, interned := interned.toArray }
  heap := heap
  slotsUsed := slotsUsed
  threads := #[{ frames := .invoking theMethod args0 :: below }]
def below0 : List Frame := [.native { method := ⟨0, 0⟩, args := #[] }]
def about1 : State := aboutOver below0
def p0 : Program := .bare "" "" ""
def e0 : Env := launch0.env 0 0 0
theorem w_frames : about1.frames = Frame.invoking theMethod args0 :: below0 := rfl
set_option maxRecDepth 65536 in
theorem w_args : argsFit about1.vm theMethod args0 = true := by decide +kernel
set_option maxRecDepth 65536 in
theorem w_heap : heapFits about1 = true := by decide +kernel
set_option maxRecDepth 65536 in
theorem w_runnable : about1.curStatus? = some .runnable := by decide +kernel
set_option maxRecDepth 65536 in
theorem w_alone : about1.alone = true := by decide +kernel
set_option maxRecDepth 65536 in
theorem w_named : about1.methodNamed? x = some theMethod := by decide +kernel
set_option maxRecDepth 65536 in
theorem w_hears : about1.hears theMethod below0 = true := by decide +kernel
set_option maxRecDepth 65536 in
theorem w_ripe : about1.ripe theMethod args0 below0 = true := by decide +kernel
theorem w_running : about1.status = .running := rfl
set_option maxRecDepth 65536 in
theorem w_room : about1.hasRoom e0.platform room_1 = true :=
  launch0.hasRoom_least _ room_1 (by decide +kernel) (by decide +kernel) (by decide +kernel) (by decide +kernel) (by decide +kernel) (by decide +kernel)
theorem allAtoms_all (ts : List Jvm.Cond) (a : Array Jvm.Value) (st : Jvm.State) : (allAtoms ts).before a st = ts.all (fun c => c.before a st) := by
  induction ts with
  | nil => rfl
  | cons c t ih =>
    show (Jvm.Cond.and c (allAtoms t)).before a st = _
    rw [Jvm.Cond.before_and, ih, List.all_cons]
def words1 : List Jvm.Cond := Jvm.Cond.code x code maxLocals ret :: tables_1
/-- a 'code' word, met by the world's own term for the bytes: nothing is compared byte by byte -/
theorem code_word {y : MethodName} {bytes : ByteArray} {mx : Nat} {rt : Option FieldType} {a : Array Value} {s : State} {m : MethodId} {meth : Method} {c : Code} (h1 : s.methodNamed? y = some m) (h2 : s.vm.method? m = some meth) (h3 : meth.code = some c) (h4 : c.code = bytes)
    (h5 : (c.maxLocals == mx && c.exceptionTable.isEmpty && decide (c.maxStack ≤ mostOperands) && decide (meth.sig.returnType = rt) && !meth.locks && decide (parseMethodDescriptor y.desc = some meth.sig)) = true) : (Jvm.Cond.code y bytes mx rt).before a s = true := by
  simp only [Bool.and_eq_true, beq_iff_eq, Bool.not_eq_true', decide_eq_true_eq] at h5
  obtain ⟨⟨⟨⟨⟨g1, g2⟩, g3⟩, g4⟩, g5⟩, g6⟩ := h5
  simp [Cond.before, Cond.holds, Cond.value, h1, h2, h3, h4, g1, g2, g3, g4, g5, g6]
def isCode : Jvm.Cond → Bool
  | .code _ _ _ _ => true
  | _ => false
theorem all_split {L : List Jvm.Cond} {P : Jvm.Cond → Bool} (h1 : L.all (fun c => isCode c || P c) = true) (h2 : ∀ c ∈ L.filter isCode, P c = true) : L.all P = true := by
  refine List.all_eq_true.mpr fun c hc => ?_
  have h := List.all_eq_true.mp h1 c hc
  rcases Bool.eq_false_or_eq_true (isCode c) with hi | hi
  · exact h2 c (List.mem_filter.mpr ⟨hc, hi⟩)
  · simpa [hi] using h
set_option maxRecDepth 65536 in
theorem w_c0 : (Jvm.Cond.code x code maxLocals ret).before args0 about1 = true := code_word (m := ⟨1, 2⟩) (meth := k1m2) (c := k1c2) (by decide +kernel) rfl rfl rfl (by decide +kernel)
set_option maxRecDepth 65536 in
theorem w_c1 : (Jvm.Cond.code ({ cls := "com/example/hollow_tree/hollowtree/xml/XmlChars", name := "isNameStartChar", desc := "(I)Z" } : Jvm.MethodName) prog_315_method_3_code (1 : Nat) (Option.some Jvm.ClassFile.FieldType.boolean)).before args0 about1 = true := code_word (m := ⟨2, 1⟩) (meth := k2m1) (c := k2c1) (by decide +kernel) rfl rfl rfl (by decide +kernel)
set_option maxRecDepth 65536 in
theorem w_c2 : (Jvm.Cond.code ({ cls := "com/example/hollow_tree/hollowtree/xml/XmlCharsIsNameStartCharPinLaw", name := "ref", desc := "(I)Z" } : Jvm.MethodName) method_2_code (1 : Nat) (Option.some Jvm.ClassFile.FieldType.boolean)).before args0 about1 = true := code_word (m := ⟨1, 1⟩) (meth := k1m1) (c := k1c1) (by decide +kernel) rfl rfl rfl (by decide +kernel)
def codes1 : List Jvm.Cond := [Jvm.Cond.code x code maxLocals ret, Jvm.Cond.code ({ cls := "com/example/hollow_tree/hollowtree/xml/XmlChars", name := "isNameStartChar", desc := "(I)Z" } : Jvm.MethodName) prog_315_method_3_code (1 : Nat) (Option.some Jvm.ClassFile.FieldType.boolean), Jvm.Cond.code ({ cls := "com/example/hollow_tree/hollowtree/xml/XmlCharsIsNameStartCharPinLaw", name := "ref", desc := "(I)Z" } : Jvm.MethodName) method_2_code (1 : Nat) (Option.some Jvm.ClassFile.FieldType.boolean)]
set_option maxRecDepth 65536 in
theorem codes_eq : words1.filter isCode = codes1 := rfl
theorem w_codes : ∀ c ∈ words1.filter isCode, c.before args0 about1 = true := by
  rw [codes_eq]
  intro c hc
  simp only [codes1, List.mem_cons, List.not_mem_nil, or_false] at hc
  rcases hc with rfl | rfl | rfl
  · exact w_c0
  · exact w_c1
  · exact w_c2
set_option maxRecDepth 65536 in
theorem w_t1 : (words1.take 24).all (fun c => isCode c || c.before args0 about1) = true := by decide +kernel
set_option maxRecDepth 65536 in
theorem w_t2 : (words1.drop 24).all (fun c => isCode c || c.before args0 about1) = true := by decide +kernel
theorem w_tables : (allAtoms (Jvm.Cond.code x code maxLocals ret :: tables_1)).before args0 about1 = true := by
  rw [allAtoms_all]
  show words1.all (fun c => c.before args0 about1) = true
  refine all_split ?_ w_codes
  rw [← List.take_append_drop 24 words1, List.all_append, w_t1, w_t2]
  rfl
set_option maxRecDepth 65536 in
theorem w_case : (Jvm.Cond.and given_1 narrow_1).before args0 about1 = true := by decide +kernel
theorem w_applies : (headSpec (Jvm.Cond.code x code maxLocals ret :: tables_1) room_1).applies x e0.platform about1 = true :=
  (Spec.applies_iff w_frames).mpr ⟨w_running, w_runnable, w_alone, w_named, w_hears, w_ripe, w_room, w_tables⟩
theorem atStart : AtStart classFile x code maxLocals ret World_1 tables_1 room_1 Calls_1 rest_1 Pre_1 launch0 p0 e0 about1 theMethod args0 below0 :=
  ⟨lists_1, trivial, launch0.admits_env _ _ _, launch0.least_env, fairChoices_fair.cas, fairChoices_fair.clock, w_frames, w_args, w_heap, w_applies, trivial, trivial, w_case⟩
end start1
theorem witness_1 : WitnessClaimed_1 := ⟨start1.p0, start1.e0, start1.about1, start1.theMethod, start1.args0, start1.below0, start1.atStart⟩
end Jvm.Pilot.@@N@@
