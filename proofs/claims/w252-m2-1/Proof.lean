import JvmDerived
import JvmDerived.Pilot.@@N@@Statement
import JvmDerived.Pilot.@@N@@Code
set_option linter.unusedVariables false
set_option linter.unusedSimpArgs false
namespace Jvm.RoadKit
open Sem ClassFile Op Lib Jvm.Stand Jvm.Free Jvm.LawKit
section New
variable {p : Program} {l : Launch} {e : Env} {R : Room} {s : State} {m : MethodId} {args : Array Value} {below : List Frame} {meth : Method} {c : Code} {T : State} {locs : List Loc} {cells slots : Nat}
theorem retI (X : Stand p l e R s m args below meth c T locs cells slots) (hx : p.tables.exec = Jvm.exec) {pc : Nat} {Ls : Array Slot} {z : Int32} {rest : List Value} (hret : meth.sig.returnType = some .int) (hd : decode c.code pc = .ok (.ireturn, 1)) {fs : List Frame}
    (hl : ∀ (f : JFrame) (acts : List Action), f.method = m → f.locked = none → f.entered = [] → (doReturn e (T.setTop f) acts (some (.int z))).1 = T.setFrames fs) : Steps p.tables e below (T.setTop (mkF m pc Ls (.int z :: rest))) (T.setFrames fs) := by
  have hm' : T.vm.method? m = some meth := X.method'
  have hn : narrow .int (.int z) = .int z := rfl
  show Steps p.tables e below (T.setTop { method := m, pc := pc, locals := Ls, stack := _ :: rest, locked := none }) _
  jvm_step X.here [X.here.top, hx, hd, hm', hret, hn]
  first | (intro acts; rw [hl _ acts rfl rfl rfl]) | rw [hl _ _ rfl rfl rfl]
  exact Steps.refl _
end New
end Jvm.RoadKit
namespace Jvm.Pilot.@@N@@
open Jvm Jvm.ClassFile Sem Op Lib Jvm.Free Jvm.Stand Jvm.LawKit Jvm.RoadKit Bundle Jvm.Pilot.@@N@@.Jvm.D
/-- from the frame g on the run comes to an end that Q says -/
def own_Goes (p : Program) (e : Env) (below : List Frame) (Q : Outcome → State → Prop) (T : State) (g : JFrame) : Prop :=
  ∃ s₂ o, Steps p.tables e below (T.setTop g) s₂ ∧ s₂.status = .running ∧ Ended s₂ below o ∧ Q o s₂
theorem own_st {p : Program} {e : Env} {below : List Frame} {Q : Outcome → State → Prop} {T T' : State} {g g' : JFrame}
    (h : ∀ t, Steps p.tables e below (T'.setTop g') t → Steps p.tables e below (T.setTop g) t) (k : own_Goes p e below Q T' g') : own_Goes p e below Q T g := by
  obtain ⟨s₂, o, h1, h2⟩ := k
  exact ⟨s₂, o, h _ h1, h2⟩
theorem own_end {p : Program} {l : Launch} {e : Env} {R : Room} {s : State} {m : MethodId} {args : Array Value} {below : List Frame} {meth : Method} {c : Code} {T : State} {locs : List Loc} {cells slots : Nat} {C S : Nat} {Q : Option Value → Heap → List Loc → Prop} {g : JFrame} {v : Option Value}
    (X : Stand p l e R s m args below meth c T locs cells slots) (hv : meth.sig.returnType = none → v = none)
    (hret : ∀ fs, (∀ (f : JFrame) (acts : List Action), f.method = m → f.locked = none → f.entered = [] → (doReturn e (T.setTop f) acts v).1 = T.setFrames fs) → Steps p.tables e below (T.setTop g) (T.setFrames fs))
    (hQ : Q v T.heap locs) (hC : cells ≤ C) (hS : slots ≤ S) (hlocks : meth.locks = false := by first | assumption) :
    own_Goes p e below (fun o U' => ∃ v L, o = .returned v ∧ Q v U'.heap L ∧ FrameEnd s o U' L C S) T g := by
  obtain ⟨fs, hr, hrun, hended, hW, hsame⟩ := X.leave (v := v) hv hlocks
  exact ⟨_, _, hret fs hr, hrun, hended, _, _, rfl, hQ, ⟨_, rfl⟩, hW, hsame.mono hC hS⟩
theorem own_selP {s : State} {args : Array Value} {y : MethodName} {n : Nat} (wi : (Cond.instantiable y.cls n).before args s = true) (hpriv : s.PrivateAt y) (hinst : (Cond.instanceMethod y).before args s = true)
    (hy : y.cls ≠ "java/lang/invoke/MethodHandle" ∧ y.cls ≠ "java/lang/invoke/VarHandle") : (Cond.selects y.cls y y).before args s = true := by
  obtain ⟨c, k, hc, hk, -, hi, -, -⟩ := Cond.instantiable_spec wi
  exact Jvm.Stand.selects_self_of_private hc hk (Bool.or_eq_false_iff.mp hi).1 hpriv hinst hy

/-- the long read as an unsigned number -/
def own_u (r : Int64) : Int := r.toInt % 18446744073709551616
def own_sh (v3 : Int64) : Int64 := (((v3).toUInt64 >>> ((7 : Int32) &&& 0x3f).toInt64.toUInt64).toInt64)
def own_sz : Nat → Int32 → Int64 → Int32
  | 0, v2, _ => v2
  | k + 1, v2, v3 => if (lcmpW (v3 &&& (-128 : Int64)) (0 : Int64)) = (0 : Int32) then v2 else own_sz k (v2 + (1 : Int32)) (own_sh v3)
def own_zz (p1 : Int64) : Int64 := ((p1 <<< ((1 : Int32) &&& 0x3f).toInt64)) ^^^ ((p1 >>> ((63 : Int32) &&& 0x3f).toInt64))
def own_f1_0 (p1 : Int64) : Int32 := own_sz 10 (1 : Int32) (own_zz p1)
theorem own_u_rng (r : Int64) : 0 ≤ own_u r ∧ own_u r < 18446744073709551616 := by unfold own_u; omega
theorem own_u_sh (r : Int64) : own_u (own_sh r) = own_u r / 128 := by
  have h : (own_sh r).toInt = (r.toInt % 18446744073709551616) / (2 ^ 7 : Nat) := c_lushr r 7 7 (by decide) (by decide)
  unfold own_u
  rw [h]; omega
theorem own_big (r : Int64) : own_u r < 128 * 128 ^ 9 := by
  have := own_u_rng r
  have e : (128 : Int) * 128 ^ 9 = 1180591620717411303424 := by decide
  rw [e]; omega
theorem own_testBit (i : Nat) : (18446744073709551488 : Nat).testBit i = (decide (7 ≤ i) && decide (i < 64)) := by
  have e : (18446744073709551488 : Nat) = (2 ^ 57 - 1) <<< 7 := by decide
  rw [e, Nat.testBit_shiftLeft, Nat.testBit_two_pow_sub_one]
  by_cases h : 7 ≤ i <;> simp [h] <;> omega
theorem own_and128 (n : Nat) (h : n < 18446744073709551616) : n &&& 18446744073709551488 = n / 128 * 128 := by
  apply Nat.eq_of_testBit_eq
  intro i
  have e : n / 128 * 128 = (n >>> 7) <<< 7 := by rw [Nat.shiftLeft_eq, Nat.shiftRight_eq_div_pow]
  rw [Nat.testBit_and, own_testBit, e, Nat.testBit_shiftLeft, Nat.testBit_shiftRight]
  by_cases h7 : 7 ≤ i
  · have e2 : 7 + (i - 7) = i := by omega
    rw [e2]
    by_cases h64 : i < 64
    · simp [h7, h64]
    · have hz : n.testBit i = false := Nat.testBit_lt_two_pow (Nat.lt_of_lt_of_le h (by
        have : (18446744073709551616 : Nat) = 2 ^ 64 := by decide
        rw [this]; exact Nat.pow_le_pow_right (by decide) (by omega)))
      simp [hz]
  · simp [h7]
theorem own_u_nat (r : Int64) : own_u r = (r.toBitVec.toNat : Int) := by
  unfold own_u
  have h : r.toInt = r.toBitVec.toInt := rfl
  have hb := r.toBitVec.isLt
  have e : (18446744073709551616 : Int) = ((2 ^ 64 : Nat) : Int) := by decide
  rw [h, BitVec.toInt_eq_toNat_bmod, e, Int.bmod_emod]
  omega
theorem own_low (r : Int64) : (lcmpW (r &&& (-128 : Int64)) (0 : Int64)) = (0 : Int32) ↔ own_u r < 128 := by
  rw [lw_eq, own_u_nat, ← Int64.toBitVec_inj, Int64.toBitVec_and, ← BitVec.toNat_inj, BitVec.toNat_and]
  have e1 : (-128 : Int64).toBitVec.toNat = 18446744073709551488 := by decide
  have e2 : (0 : Int64).toBitVec.toNat = 0 := by decide
  have hb := r.toBitVec.isLt
  rw [e1, e2, own_and128 _ hb]
  omega
theorem own_leave (r : Int64) (h : own_u r < 128 * 128 ^ 0) : (lcmpW (r &&& (-128 : Int64)) (0 : Int64)) = (0 : Int32) := (own_low r).mpr (by simpa using h)
theorem own_next (k : Nat) (r : Int64) (h : own_u r < 128 * 128 ^ (k + 1)) : own_u (own_sh r) < 128 * 128 ^ k := by
  rw [own_u_sh]
  have e : (128 : Int) * 128 ^ (k + 1) = 128 * (128 * 128 ^ k) := by rw [Int.pow_succ, Int.mul_comm (128 ^ k) 128]
  omega
theorem d1_0 : decode prog_128_method_33_code 0 = .ok (.iconst 1, 1) := by decide +kernel
theorem d1_1 : decode prog_128_method_33_code 1 = .ok (.istore_n 2, 1) := by decide +kernel
theorem d1_2 : decode prog_128_method_33_code 2 = .ok (.lload_n 0, 1) := by decide +kernel
theorem d1_3 : decode prog_128_method_33_code 3 = .ok (.iconst 1, 1) := by decide +kernel
theorem d1_4 : decode prog_128_method_33_code 4 = .ok (.lshl, 1) := by decide +kernel
theorem d1_5 : decode prog_128_method_33_code 5 = .ok (.lload_n 0, 1) := by decide +kernel
theorem d1_6 : decode prog_128_method_33_code 6 = .ok (.bipush 63, 2) := by decide +kernel
theorem d1_8 : decode prog_128_method_33_code 8 = .ok (.lshr, 1) := by decide +kernel
theorem d1_9 : decode prog_128_method_33_code 9 = .ok (.lxor, 1) := by decide +kernel
theorem d1_10 : decode prog_128_method_33_code 10 = .ok (.lstore_n 3, 1) := by decide +kernel
theorem d1_11 : decode prog_128_method_33_code 11 = .ok (.lload_n 3, 1) := by decide +kernel
theorem d1_12 : decode prog_128_method_33_code 12 = .ok (.ldc2_w 83, 3) := by decide +kernel
theorem d1_15 : decode prog_128_method_33_code 15 = .ok (.land, 1) := by decide +kernel
theorem d1_16 : decode prog_128_method_33_code 16 = .ok (.lconst 0, 1) := by decide +kernel
theorem d1_17 : decode prog_128_method_33_code 17 = .ok (.lcmp, 1) := by decide +kernel
theorem d1_18 : decode prog_128_method_33_code 18 = .ok (.ifCond .eq 14, 3) := by decide +kernel
theorem d1_21 : decode prog_128_method_33_code 21 = .ok (.iinc 2 1, 3) := by decide +kernel
theorem d1_24 : decode prog_128_method_33_code 24 = .ok (.lload_n 3, 1) := by decide +kernel
theorem d1_25 : decode prog_128_method_33_code 25 = .ok (.bipush 7, 2) := by decide +kernel
theorem d1_27 : decode prog_128_method_33_code 27 = .ok (.lushr, 1) := by decide +kernel
theorem d1_28 : decode prog_128_method_33_code 28 = .ok (.lstore_n 3, 1) := by decide +kernel
theorem d1_29 : decode prog_128_method_33_code 29 = .ok (.goto (-18), 3) := by decide +kernel
theorem d1_32 : decode prog_128_method_33_code 32 = .ok (.iload_n 2, 1) := by decide +kernel
theorem d1_33 : decode prog_128_method_33_code 33 = .ok (.ireturn, 1) := by decide +kernel
theorem own_pn1 : plainName "com/example/millrace/millrace/wire/ProtocolWriter" = true := by first | (simp [plainName, overriddenIn]; done) | decide +kernel
theorem own_ef1 (m : MethodId) (x0 : Int64) : entryFrame m #[(.long x0)] 5 = mkF m 0 #[.val (.long x0), .second, .unset, .unset, .unset] [] := by first | (simp [entryFrame, mkF, argsToLocals, Value.category]; done) | rfl
def Q1 (Z : State) (p1 : Int64) (h0 : Heap) (n0 : Nat) (v : Option Value) (h : Heap) (L : List Loc) : Prop := v = some (.int (own_f1_0 p1)) ∧ Fr n0 L ∧ h = h0
set_option maxRecDepth 65536 in
set_option maxHeartbeats 40000000 in
theorem rm1 (l : Launch) (Z : State) (a0 : Array Value) (hw : ∀ d ∈ tables_1, d.before a0 Z = true) (ws : List Jvm.Cond) (p1 : Int64) (h0 : Heap) (n0 : Nat) (Z0 : n0 ≤ h0.size)  :
    MetFree l (⟨"com/example/millrace/millrace/wire/ProtocolWriter", "sizeOfVarlong", "(J)I"⟩ : MethodName) (head1 (Jvm.Cond.code (⟨"com/example/millrace/millrace/wire/ProtocolWriter", "sizeOfVarlong", "(J)I"⟩ : MethodName) prog_128_method_33_code 5 (some .int) :: ws) ({ frames := 0, cells := 0, slots := 0, locals := 0 } : Room)) (fun a U => a = #[(.long p1)] ∧ Z.Warmed39 U.vm ∧ U.heap = h0) (fun _ _ _ _ _ => True) (fun _ U o U' => ∃ v L, o = .returned v ∧ Q1 Z p1 h0 n0 v U'.heap L ∧ FrameEnd U o U' L ({ frames := 0, cells := 0, slots := 0, locals := 0 } : Room).cells ({ frames := 0, cells := 0, slots := 0, locals := 0 } : Room).slots) := by
  refine MetFree.of_bodySF (plainFor_of_name own_pn1) hisR ?_
  intro p e s m args below meth c s₁ Bd hml0 hP hK
  obtain ⟨rfl, hZ, hh⟩ := hP
  have hx := Bd.exec
  have hby := Bd.bytes
  have hml : c.maxLocals = 5 := hml0
  have hown : s.vm.findClass "com/example/millrace/millrace/wire/ProtocolWriter" = some m.cls := findClass_of_methodNamed Bd.named
  have hnm := (name_of_methodNamed Bd.named Bd.method).1
  have hlk := Bd.notSynchronized
  have X0 : Stand p l e ({ frames := 0, cells := 0, slots := 0, locals := 0 } : Room) s m #[(.long p1)] below meth c s₁ [] 0 0 := Stand.of_body Bd
  have e0 : s₁.heap = h0 := by rw [← hh, Bd.state]; rfl
  have N0 := Fr.nil n0
  show own_Goes p e below (fun o U' => ∃ v L, o = .returned v ∧ Q1 Z p1 h0 n0 v U'.heap L ∧ FrameEnd s o U' L ({ frames := 0, cells := 0, slots := 0, locals := 0 } : Room).cells ({ frames := 0, cells := 0, slots := 0, locals := 0 } : Room).slots) s₁ (entryFrame m #[(.long p1)] 5)
  refine own_st (T' := s₁) (g' := mkF m 0 #[.val (.long p1), .second, .unset, .unset, .unset] []) (fun _ k => castTop (own_ef1 m p1) k) ?_
  have loop : ∀ (k : Nat) (T : State) (Lc : List Loc) (X : Stand p l e ({ frames := 0, cells := 0, slots := 0, locals := 0 } : Room) s m #[(.long p1)] below meth c T Lc 0 0) (eT : T.heap = h0) (NL : Fr n0 Lc) (v2 : Int32) (v3 : Int64), own_u v3 < 128 * 128 ^ k → own_f1_0 p1 = own_sz (k + 1) v2 v3 → own_Goes p e below (fun o U' => ∃ v L, o = .returned v ∧ Q1 Z p1 h0 n0 v U'.heap L ∧ FrameEnd s o U' L ({ frames := 0, cells := 0, slots := 0, locals := 0 } : Room).cells ({ frames := 0, cells := 0, slots := 0, locals := 0 } : Room).slots) T (mkF m 11 #[.val (.long p1), .second, .val (.int v2), .val (.long v3), .second] []) := by
    intro k
    induction k with
    | zero =>
      intro T Lc X eT NL v2 v3 hu hf
      refine own_st (T' := T) (g' := (mkF m 12 #[.val (.long p1), .second, .val (.int v2), .val (.long v3), .second] [(.long v3)])) (fun _ k => Jvm.Free.XS.lloadN (g := (mkF m 11 #[.val (.long p1), .second, .val (.int v2), .val (.long v3), .second] [])) X.here hx rfl (hb hby d1_11) rfl k) ?_
      refine own_st (T' := T) (g' := (mkF m 15 #[.val (.long p1), .second, .val (.int v2), .val (.long v3), .second] [(.long (-128 : Int64)), (.long v3)])) (fun _ k => (X.ldc2Long hx hown (mvT hZ (hw _ (List.mem_of_getElem? (i := 4) rfl))) (g := (mkF m 12 #[.val (.long p1), .second, .val (.int v2), .val (.long v3), .second] [(.long v3)])) rfl (hb hby d1_12)) _ k) ?_
      refine own_st (T' := T) (g' := (mkF m 16 #[.val (.long p1), .second, .val (.int v2), .val (.long v3), .second] [(.long (v3 &&& (-128 : Int64)))])) (fun _ k => Jvm.Free.XS.land (g := (mkF m 15 #[.val (.long p1), .second, .val (.int v2), .val (.long v3), .second] [(.long (-128 : Int64)), (.long v3)])) X.here hx rfl (hb hby d1_15) rfl k) ?_
      refine own_st (T' := T) (g' := (mkF m 17 #[.val (.long p1), .second, .val (.int v2), .val (.long v3), .second] [(.long (0 : Int64)), (.long (v3 &&& (-128 : Int64)))])) (fun _ k => Jvm.Free.XS.lconst (g := (mkF m 16 #[.val (.long p1), .second, .val (.int v2), .val (.long v3), .second] [(.long (v3 &&& (-128 : Int64)))])) X.here hx rfl (hb hby d1_16) k) ?_
      refine own_st (T' := T) (g' := (mkF m 18 #[.val (.long p1), .second, .val (.int v2), .val (.long v3), .second] [(.int (lcmpW (v3 &&& (-128 : Int64)) (0 : Int64)))])) (fun _ k => Jvm.Free.XS.lcmp (g := (mkF m 17 #[.val (.long p1), .second, .val (.int v2), .val (.long v3), .second] [(.long (0 : Int64)), (.long (v3 &&& (-128 : Int64)))])) X.here hx rfl (hb hby d1_17) rfl k) ?_
      have hf := hf.trans (if_pos (own_leave v3 hu))
      refine own_st (T' := T) (g' := (mkF m 32 #[.val (.long p1), .second, .val (.int v2), .val (.long v3), .second] [])) (fun _ k => XS.ifYes (g := (mkF m 18 #[.val (.long p1), .second, .val (.int v2), .val (.long v3), .second] [(.int (lcmpW (v3 &&& (-128 : Int64)) (0 : Int64)))])) X.here hx rfl (pc0 := 18) (pc' := 32) rfl (hb hby d1_18) rfl ((if0 _ _).trans (teq (own_leave v3 hu)).1) (by decide) (by decide) k) ?_
      refine own_st (T' := T) (g' := (mkF m 33 #[.val (.long p1), .second, .val (.int v2), .val (.long v3), .second] [(.int v2)])) (fun _ k => Jvm.Free.XS.iloadN (g := (mkF m 32 #[.val (.long p1), .second, .val (.int v2), .val (.long v3), .second] [])) X.here hx rfl (hb hby d1_32) rfl k) ?_
      exact own_end (Q := Q1 Z p1 h0 n0) (v := some (.int v2)) X (fun h => by rw [Bd.returns] at h; cases h) (fun fs hr => retI X hx Bd.returns (hb hby d1_33) hr) (⟨congrArg (fun z => some (Value.int z)) hf.symm, NL, eT⟩) (by decide) (by decide)
    | succ k ih =>
      intro T Lc X eT NL v2 v3 hu hf
      refine own_st (T' := T) (g' := (mkF m 12 #[.val (.long p1), .second, .val (.int v2), .val (.long v3), .second] [(.long v3)])) (fun _ k => Jvm.Free.XS.lloadN (g := (mkF m 11 #[.val (.long p1), .second, .val (.int v2), .val (.long v3), .second] [])) X.here hx rfl (hb hby d1_11) rfl k) ?_
      refine own_st (T' := T) (g' := (mkF m 15 #[.val (.long p1), .second, .val (.int v2), .val (.long v3), .second] [(.long (-128 : Int64)), (.long v3)])) (fun _ k => (X.ldc2Long hx hown (mvT hZ (hw _ (List.mem_of_getElem? (i := 4) rfl))) (g := (mkF m 12 #[.val (.long p1), .second, .val (.int v2), .val (.long v3), .second] [(.long v3)])) rfl (hb hby d1_12)) _ k) ?_
      refine own_st (T' := T) (g' := (mkF m 16 #[.val (.long p1), .second, .val (.int v2), .val (.long v3), .second] [(.long (v3 &&& (-128 : Int64)))])) (fun _ k => Jvm.Free.XS.land (g := (mkF m 15 #[.val (.long p1), .second, .val (.int v2), .val (.long v3), .second] [(.long (-128 : Int64)), (.long v3)])) X.here hx rfl (hb hby d1_15) rfl k) ?_
      refine own_st (T' := T) (g' := (mkF m 17 #[.val (.long p1), .second, .val (.int v2), .val (.long v3), .second] [(.long (0 : Int64)), (.long (v3 &&& (-128 : Int64)))])) (fun _ k => Jvm.Free.XS.lconst (g := (mkF m 16 #[.val (.long p1), .second, .val (.int v2), .val (.long v3), .second] [(.long (v3 &&& (-128 : Int64)))])) X.here hx rfl (hb hby d1_16) k) ?_
      refine own_st (T' := T) (g' := (mkF m 18 #[.val (.long p1), .second, .val (.int v2), .val (.long v3), .second] [(.int (lcmpW (v3 &&& (-128 : Int64)) (0 : Int64)))])) (fun _ k => Jvm.Free.XS.lcmp (g := (mkF m 17 #[.val (.long p1), .second, .val (.int v2), .val (.long v3), .second] [(.long (0 : Int64)), (.long (v3 &&& (-128 : Int64)))])) X.here hx rfl (hb hby d1_17) rfl k) ?_
      by_cases hc18 : (lcmpW (v3 &&& (-128 : Int64)) (0 : Int64)) = (0 : Int32)
      · have hf := hf.trans (if_pos hc18)
        refine own_st (T' := T) (g' := (mkF m 32 #[.val (.long p1), .second, .val (.int v2), .val (.long v3), .second] [])) (fun _ k => XS.ifYes (g := (mkF m 18 #[.val (.long p1), .second, .val (.int v2), .val (.long v3), .second] [(.int (lcmpW (v3 &&& (-128 : Int64)) (0 : Int64)))])) X.here hx rfl (pc0 := 18) (pc' := 32) rfl (hb hby d1_18) rfl ((if0 _ _).trans (teq hc18).1) (by decide) (by decide) k) ?_
        refine own_st (T' := T) (g' := (mkF m 33 #[.val (.long p1), .second, .val (.int v2), .val (.long v3), .second] [(.int v2)])) (fun _ k => Jvm.Free.XS.iloadN (g := (mkF m 32 #[.val (.long p1), .second, .val (.int v2), .val (.long v3), .second] [])) X.here hx rfl (hb hby d1_32) rfl k) ?_
        exact own_end (Q := Q1 Z p1 h0 n0) (v := some (.int v2)) X (fun h => by rw [Bd.returns] at h; cases h) (fun fs hr => retI X hx Bd.returns (hb hby d1_33) hr) (⟨congrArg (fun z => some (Value.int z)) hf.symm, NL, eT⟩) (by decide) (by decide)
      · have hf := hf.trans (if_neg hc18)
        refine own_st (T' := T) (g' := (mkF m 21 #[.val (.long p1), .second, .val (.int v2), .val (.long v3), .second] [])) (fun _ k => XS.ifNo (g := (mkF m 18 #[.val (.long p1), .second, .val (.int v2), .val (.long v3), .second] [(.int (lcmpW (v3 &&& (-128 : Int64)) (0 : Int64)))])) X.here hx rfl (hb hby d1_18) rfl ((if0 _ _).trans (feq hc18).1) k) ?_
        refine own_st (T' := T) (g' := (mkF m 24 #[.val (.long p1), .second, .val (.int (v2 + (1 : Int32))), .val (.long v3), .second] [])) (fun _ k => XS.iinc (g := (mkF m 21 #[.val (.long p1), .second, .val (.int v2), .val (.long v3), .second] [])) X.here hx rfl (hb hby d1_21) rfl (l' := #[.val (.long p1), .second, .val (.int (v2 + (1 : Int32))), .val (.long v3), .second]) rfl k) ?_
        refine own_st (T' := T) (g' := (mkF m 25 #[.val (.long p1), .second, .val (.int (v2 + (1 : Int32))), .val (.long v3), .second] [(.long v3)])) (fun _ k => Jvm.Free.XS.lloadN (g := (mkF m 24 #[.val (.long p1), .second, .val (.int (v2 + (1 : Int32))), .val (.long v3), .second] [])) X.here hx rfl (hb hby d1_24) rfl k) ?_
        refine own_st (T' := T) (g' := (mkF m 27 #[.val (.long p1), .second, .val (.int (v2 + (1 : Int32))), .val (.long v3), .second] [(.int (7 : Int32)), (.long v3)])) (fun _ k => XS.bipush (g := (mkF m 25 #[.val (.long p1), .second, .val (.int (v2 + (1 : Int32))), .val (.long v3), .second] [(.long v3)])) X.here hx rfl (hb hby d1_25) k) ?_
        refine own_st (T' := T) (g' := (mkF m 28 #[.val (.long p1), .second, .val (.int (v2 + (1 : Int32))), .val (.long v3), .second] [(.long (((v3).toUInt64 >>> ((7 : Int32) &&& 0x3f).toInt64.toUInt64).toInt64))])) (fun _ k => Jvm.Free.XS.lushr (g := (mkF m 27 #[.val (.long p1), .second, .val (.int (v2 + (1 : Int32))), .val (.long v3), .second] [(.int (7 : Int32)), (.long v3)])) X.here hx rfl (hb hby d1_27) rfl k) ?_
        refine own_st (T' := T) (g' := (mkF m 29 #[.val (.long p1), .second, .val (.int (v2 + (1 : Int32))), .val (.long (((v3).toUInt64 >>> ((7 : Int32) &&& 0x3f).toInt64.toUInt64).toInt64)), .second] [])) (fun _ k => Jvm.Free.XS.lstoreN (g := (mkF m 28 #[.val (.long p1), .second, .val (.int (v2 + (1 : Int32))), .val (.long v3), .second] [(.long (((v3).toUInt64 >>> ((7 : Int32) &&& 0x3f).toInt64.toUInt64).toInt64))])) X.here hx rfl (hb hby d1_28) rfl (l' := #[.val (.long p1), .second, .val (.int (v2 + (1 : Int32))), .val (.long (((v3).toUInt64 >>> ((7 : Int32) &&& 0x3f).toInt64.toUInt64).toInt64)), .second]) rfl k) ?_
        refine own_st (T' := T) (g' := (mkF m 11 #[.val (.long p1), .second, .val (.int (v2 + (1 : Int32))), .val (.long (((v3).toUInt64 >>> ((7 : Int32) &&& 0x3f).toInt64.toUInt64).toInt64)), .second] [])) (fun _ k => XS.goto (g := (mkF m 29 #[.val (.long p1), .second, .val (.int (v2 + (1 : Int32))), .val (.long (((v3).toUInt64 >>> ((7 : Int32) &&& 0x3f).toInt64.toUInt64).toInt64)), .second] [])) X.here hx rfl (pc0 := 29) (pc' := 11) rfl (hb hby d1_29) (by decide) (by decide) k) ?_
        exact ih T _ X eT NL _ _ (own_next k v3 hu) hf
  have hf : own_f1_0 p1 = own_f1_0 p1 := rfl
  refine own_st (T' := s₁) (g' := (mkF m 1 #[.val (.long p1), .second, .unset, .unset, .unset] [(.int (1 : Int32))])) (fun _ k => XS.iconst (g := (mkF m 0 #[.val (.long p1), .second, .unset, .unset, .unset] [])) X0.here hx rfl (hb hby d1_0) k) ?_
  refine own_st (T' := s₁) (g' := (mkF m 2 #[.val (.long p1), .second, .val (.int (1 : Int32)), .unset, .unset] [])) (fun _ k => Jvm.Free.XS.istoreN (g := (mkF m 1 #[.val (.long p1), .second, .unset, .unset, .unset] [(.int (1 : Int32))])) X0.here hx rfl (hb hby d1_1) rfl (l' := #[.val (.long p1), .second, .val (.int (1 : Int32)), .unset, .unset]) rfl k) ?_
  refine own_st (T' := s₁) (g' := (mkF m 3 #[.val (.long p1), .second, .val (.int (1 : Int32)), .unset, .unset] [(.long p1)])) (fun _ k => Jvm.Free.XS.lloadN (g := (mkF m 2 #[.val (.long p1), .second, .val (.int (1 : Int32)), .unset, .unset] [])) X0.here hx rfl (hb hby d1_2) rfl k) ?_
  refine own_st (T' := s₁) (g' := (mkF m 4 #[.val (.long p1), .second, .val (.int (1 : Int32)), .unset, .unset] [(.int (1 : Int32)), (.long p1)])) (fun _ k => XS.iconst (g := (mkF m 3 #[.val (.long p1), .second, .val (.int (1 : Int32)), .unset, .unset] [(.long p1)])) X0.here hx rfl (hb hby d1_3) k) ?_
  refine own_st (T' := s₁) (g' := (mkF m 5 #[.val (.long p1), .second, .val (.int (1 : Int32)), .unset, .unset] [(.long ((p1 <<< ((1 : Int32) &&& 0x3f).toInt64)))])) (fun _ k => Jvm.Free.XS.lshl (g := (mkF m 4 #[.val (.long p1), .second, .val (.int (1 : Int32)), .unset, .unset] [(.int (1 : Int32)), (.long p1)])) X0.here hx rfl (hb hby d1_4) rfl k) ?_
  refine own_st (T' := s₁) (g' := (mkF m 6 #[.val (.long p1), .second, .val (.int (1 : Int32)), .unset, .unset] [(.long p1), (.long ((p1 <<< ((1 : Int32) &&& 0x3f).toInt64)))])) (fun _ k => Jvm.Free.XS.lloadN (g := (mkF m 5 #[.val (.long p1), .second, .val (.int (1 : Int32)), .unset, .unset] [(.long ((p1 <<< ((1 : Int32) &&& 0x3f).toInt64)))])) X0.here hx rfl (hb hby d1_5) rfl k) ?_
  refine own_st (T' := s₁) (g' := (mkF m 8 #[.val (.long p1), .second, .val (.int (1 : Int32)), .unset, .unset] [(.int (63 : Int32)), (.long p1), (.long ((p1 <<< ((1 : Int32) &&& 0x3f).toInt64)))])) (fun _ k => XS.bipush (g := (mkF m 6 #[.val (.long p1), .second, .val (.int (1 : Int32)), .unset, .unset] [(.long p1), (.long ((p1 <<< ((1 : Int32) &&& 0x3f).toInt64)))])) X0.here hx rfl (hb hby d1_6) k) ?_
  refine own_st (T' := s₁) (g' := (mkF m 9 #[.val (.long p1), .second, .val (.int (1 : Int32)), .unset, .unset] [(.long ((p1 >>> ((63 : Int32) &&& 0x3f).toInt64))), (.long ((p1 <<< ((1 : Int32) &&& 0x3f).toInt64)))])) (fun _ k => Jvm.Free.XS.lshr (g := (mkF m 8 #[.val (.long p1), .second, .val (.int (1 : Int32)), .unset, .unset] [(.int (63 : Int32)), (.long p1), (.long ((p1 <<< ((1 : Int32) &&& 0x3f).toInt64)))])) X0.here hx rfl (hb hby d1_8) rfl k) ?_
  refine own_st (T' := s₁) (g' := (mkF m 10 #[.val (.long p1), .second, .val (.int (1 : Int32)), .unset, .unset] [(.long (((p1 <<< ((1 : Int32) &&& 0x3f).toInt64)) ^^^ ((p1 >>> ((63 : Int32) &&& 0x3f).toInt64))))])) (fun _ k => Jvm.Free.XS.lxor (g := (mkF m 9 #[.val (.long p1), .second, .val (.int (1 : Int32)), .unset, .unset] [(.long ((p1 >>> ((63 : Int32) &&& 0x3f).toInt64))), (.long ((p1 <<< ((1 : Int32) &&& 0x3f).toInt64)))])) X0.here hx rfl (hb hby d1_9) rfl k) ?_
  refine own_st (T' := s₁) (g' := (mkF m 11 #[.val (.long p1), .second, .val (.int (1 : Int32)), .val (.long (((p1 <<< ((1 : Int32) &&& 0x3f).toInt64)) ^^^ ((p1 >>> ((63 : Int32) &&& 0x3f).toInt64)))), .second] [])) (fun _ k => Jvm.Free.XS.lstoreN (g := (mkF m 10 #[.val (.long p1), .second, .val (.int (1 : Int32)), .unset, .unset] [(.long (((p1 <<< ((1 : Int32) &&& 0x3f).toInt64)) ^^^ ((p1 >>> ((63 : Int32) &&& 0x3f).toInt64))))])) X0.here hx rfl (hb hby d1_10) rfl (l' := #[.val (.long p1), .second, .val (.int (1 : Int32)), .val (.long (((p1 <<< ((1 : Int32) &&& 0x3f).toInt64)) ^^^ ((p1 >>> ((63 : Int32) &&& 0x3f).toInt64)))), .second]) rfl k) ?_
  exact loop 9 s₁ _ X0 e0 N0 _ _ (own_big _) hf
theorem d2_0 : decode method_2_code 0 = .ok (.lload_n 0, 1) := by decide +kernel
theorem d2_1 : decode method_2_code 1 = .ok (.lconst 0, 1) := by decide +kernel
theorem d2_2 : decode method_2_code 2 = .ok (.lcmp, 1) := by decide +kernel
theorem d2_3 : decode method_2_code 3 = .ok (.ifCond .lt 7, 3) := by decide +kernel
theorem d2_6 : decode method_2_code 6 = .ok (.lload_n 0, 1) := by decide +kernel
theorem d2_7 : decode method_2_code 7 = .ok (.goto 8, 3) := by decide +kernel
theorem d2_10 : decode method_2_code 10 = .ok (.lload_n 0, 1) := by decide +kernel
theorem d2_11 : decode method_2_code 11 = .ok (.ldc2_w 7, 3) := by decide +kernel
theorem d2_14 : decode method_2_code 14 = .ok (.lxor, 1) := by decide +kernel
theorem d2_15 : decode method_2_code 15 = .ok (.lstore_n 2, 1) := by decide +kernel
theorem d2_16 : decode method_2_code 16 = .ok (.lload_n 2, 1) := by decide +kernel
theorem d2_17 : decode method_2_code 17 = .ok (.ldc2_w 9, 3) := by decide +kernel
theorem d2_20 : decode method_2_code 20 = .ok (.lcmp, 1) := by decide +kernel
theorem d2_21 : decode method_2_code 21 = .ok (.ifCond .ge 5, 3) := by decide +kernel
theorem d2_24 : decode method_2_code 24 = .ok (.iconst 1, 1) := by decide +kernel
theorem d2_25 : decode method_2_code 25 = .ok (.ireturn, 1) := by decide +kernel
theorem d2_26 : decode method_2_code 26 = .ok (.lload_n 2, 1) := by decide +kernel
theorem d2_27 : decode method_2_code 27 = .ok (.ldc2_w 11, 3) := by decide +kernel
theorem d2_30 : decode method_2_code 30 = .ok (.lcmp, 1) := by decide +kernel
theorem d2_31 : decode method_2_code 31 = .ok (.ifCond .ge 5, 3) := by decide +kernel
theorem d2_34 : decode method_2_code 34 = .ok (.iconst 2, 1) := by decide +kernel
theorem d2_35 : decode method_2_code 35 = .ok (.ireturn, 1) := by decide +kernel
theorem d2_36 : decode method_2_code 36 = .ok (.lload_n 2, 1) := by decide +kernel
theorem d2_37 : decode method_2_code 37 = .ok (.ldc2_w 13, 3) := by decide +kernel
theorem d2_40 : decode method_2_code 40 = .ok (.lcmp, 1) := by decide +kernel
theorem d2_41 : decode method_2_code 41 = .ok (.ifCond .ge 5, 3) := by decide +kernel
theorem d2_44 : decode method_2_code 44 = .ok (.iconst 3, 1) := by decide +kernel
theorem d2_45 : decode method_2_code 45 = .ok (.ireturn, 1) := by decide +kernel
theorem d2_46 : decode method_2_code 46 = .ok (.lload_n 2, 1) := by decide +kernel
theorem d2_47 : decode method_2_code 47 = .ok (.ldc2_w 15, 3) := by decide +kernel
theorem d2_50 : decode method_2_code 50 = .ok (.lcmp, 1) := by decide +kernel
theorem d2_51 : decode method_2_code 51 = .ok (.ifCond .ge 5, 3) := by decide +kernel
theorem d2_54 : decode method_2_code 54 = .ok (.iconst 4, 1) := by decide +kernel
theorem d2_55 : decode method_2_code 55 = .ok (.ireturn, 1) := by decide +kernel
theorem d2_56 : decode method_2_code 56 = .ok (.lload_n 2, 1) := by decide +kernel
theorem d2_57 : decode method_2_code 57 = .ok (.ldc2_w 17, 3) := by decide +kernel
theorem d2_60 : decode method_2_code 60 = .ok (.lcmp, 1) := by decide +kernel
theorem d2_61 : decode method_2_code 61 = .ok (.ifCond .ge 5, 3) := by decide +kernel
theorem d2_64 : decode method_2_code 64 = .ok (.iconst 5, 1) := by decide +kernel
theorem d2_65 : decode method_2_code 65 = .ok (.ireturn, 1) := by decide +kernel
theorem d2_66 : decode method_2_code 66 = .ok (.lload_n 2, 1) := by decide +kernel
theorem d2_67 : decode method_2_code 67 = .ok (.ldc2_w 19, 3) := by decide +kernel
theorem d2_70 : decode method_2_code 70 = .ok (.lcmp, 1) := by decide +kernel
theorem d2_71 : decode method_2_code 71 = .ok (.ifCond .ge 6, 3) := by decide +kernel
theorem d2_74 : decode method_2_code 74 = .ok (.bipush 6, 2) := by decide +kernel
theorem d2_76 : decode method_2_code 76 = .ok (.ireturn, 1) := by decide +kernel
theorem d2_77 : decode method_2_code 77 = .ok (.lload_n 2, 1) := by decide +kernel
theorem d2_78 : decode method_2_code 78 = .ok (.ldc2_w 21, 3) := by decide +kernel
theorem d2_81 : decode method_2_code 81 = .ok (.lcmp, 1) := by decide +kernel
theorem d2_82 : decode method_2_code 82 = .ok (.ifCond .ge 6, 3) := by decide +kernel
theorem d2_85 : decode method_2_code 85 = .ok (.bipush 7, 2) := by decide +kernel
theorem d2_87 : decode method_2_code 87 = .ok (.ireturn, 1) := by decide +kernel
theorem d2_88 : decode method_2_code 88 = .ok (.lload_n 2, 1) := by decide +kernel
theorem d2_89 : decode method_2_code 89 = .ok (.ldc2_w 23, 3) := by decide +kernel
theorem d2_92 : decode method_2_code 92 = .ok (.lcmp, 1) := by decide +kernel
theorem d2_93 : decode method_2_code 93 = .ok (.ifCond .ge 6, 3) := by decide +kernel
theorem d2_96 : decode method_2_code 96 = .ok (.bipush 8, 2) := by decide +kernel
theorem d2_98 : decode method_2_code 98 = .ok (.ireturn, 1) := by decide +kernel
theorem d2_99 : decode method_2_code 99 = .ok (.lload_n 2, 1) := by decide +kernel
theorem d2_100 : decode method_2_code 100 = .ok (.ldc2_w 25, 3) := by decide +kernel
theorem d2_103 : decode method_2_code 103 = .ok (.lcmp, 1) := by decide +kernel
theorem d2_104 : decode method_2_code 104 = .ok (.ifCond .ge 6, 3) := by decide +kernel
theorem d2_107 : decode method_2_code 107 = .ok (.bipush 9, 2) := by decide +kernel
theorem d2_109 : decode method_2_code 109 = .ok (.ireturn, 1) := by decide +kernel
theorem d2_110 : decode method_2_code 110 = .ok (.bipush 10, 2) := by decide +kernel
theorem d2_112 : decode method_2_code 112 = .ok (.ireturn, 1) := by decide +kernel
theorem own_pn2 : plainName "com/example/millrace/millrace/wire/ProtocolWriterSizeOfVarlongPinLaw" = true := by first | (simp [plainName, overriddenIn]; done) | decide +kernel
theorem own_ef2 (m : MethodId) (x0 : Int64) : entryFrame m #[(.long x0)] 4 = mkF m 0 #[.val (.long x0), .second, .unset, .unset] [] := by first | (simp [entryFrame, mkF, argsToLocals, Value.category]; done) | rfl
def own_f2_15 (v0 : Int64) (t0 : Int64) : Int32 := (if (lcmpW t0 (64 : Int64)) < (0 : Int32) then (1 : Int32) else (if (lcmpW t0 (8192 : Int64)) < (0 : Int32) then (2 : Int32) else (if (lcmpW t0 (1048576 : Int64)) < (0 : Int32) then (3 : Int32) else (if (lcmpW t0 (134217728 : Int64)) < (0 : Int32) then (4 : Int32) else (if (lcmpW t0 (17179869184 : Int64)) < (0 : Int32) then (5 : Int32) else (if (lcmpW t0 (2199023255552 : Int64)) < (0 : Int32) then (6 : Int32) else (if (lcmpW t0 (281474976710656 : Int64)) < (0 : Int32) then (7 : Int32) else (if (lcmpW t0 (36028797018963968 : Int64)) < (0 : Int32) then (8 : Int32) else (if (lcmpW t0 (4611686018427387904 : Int64)) < (0 : Int32) then (9 : Int32) else (10 : Int32))))))))))
def own_f2_0 (p1 : Int64) : Int32 := (if (lcmpW p1 (0 : Int64)) < (0 : Int32) then own_f2_15 p1 (p1 ^^^ (-1 : Int64)) else own_f2_15 p1 p1)
def Q2 (Z : State) (p1 : Int64) (h0 : Heap) (n0 : Nat) (v : Option Value) (h : Heap) (L : List Loc) : Prop := v = some (.int (own_f2_0 p1)) ∧ Fr n0 L ∧ h = h0
set_option maxRecDepth 65536 in
set_option maxHeartbeats 40000000 in
theorem rm2 (l : Launch) (Z : State) (a0 : Array Value) (hw : ∀ d ∈ tables_1, d.before a0 Z = true) (ws : List Jvm.Cond) (p1 : Int64) (h0 : Heap) (n0 : Nat) (Z0 : n0 ≤ h0.size)  :
    MetFree l (⟨"com/example/millrace/millrace/wire/ProtocolWriterSizeOfVarlongPinLaw", "expected", "(J)I"⟩ : MethodName) (head1 (Jvm.Cond.code (⟨"com/example/millrace/millrace/wire/ProtocolWriterSizeOfVarlongPinLaw", "expected", "(J)I"⟩ : MethodName) method_2_code 4 (some .int) :: ws) ({ frames := 0, cells := 0, slots := 0, locals := 0 } : Room)) (fun a U => a = #[(.long p1)] ∧ Z.Warmed39 U.vm ∧ U.heap = h0) (fun _ _ _ _ _ => True) (fun _ U o U' => ∃ v L, o = .returned v ∧ Q2 Z p1 h0 n0 v U'.heap L ∧ FrameEnd U o U' L ({ frames := 0, cells := 0, slots := 0, locals := 0 } : Room).cells ({ frames := 0, cells := 0, slots := 0, locals := 0 } : Room).slots) := by
  refine MetFree.of_bodySF (plainFor_of_name own_pn2) hisR ?_
  intro p e s m args below meth c s₁ Bd hml0 hP hK
  obtain ⟨rfl, hZ, hh⟩ := hP
  have hx := Bd.exec
  have hby := Bd.bytes
  have hml : c.maxLocals = 4 := hml0
  have hown : s.vm.findClass "com/example/millrace/millrace/wire/ProtocolWriterSizeOfVarlongPinLaw" = some m.cls := findClass_of_methodNamed Bd.named
  have hnm := (name_of_methodNamed Bd.named Bd.method).1
  have hlk := Bd.notSynchronized
  have X0 : Stand p l e ({ frames := 0, cells := 0, slots := 0, locals := 0 } : Room) s m #[(.long p1)] below meth c s₁ [] 0 0 := Stand.of_body Bd
  have e0 : s₁.heap = h0 := by rw [← hh, Bd.state]; rfl
  have N0 := Fr.nil n0
  show own_Goes p e below (fun o U' => ∃ v L, o = .returned v ∧ Q2 Z p1 h0 n0 v U'.heap L ∧ FrameEnd s o U' L ({ frames := 0, cells := 0, slots := 0, locals := 0 } : Room).cells ({ frames := 0, cells := 0, slots := 0, locals := 0 } : Room).slots) s₁ (entryFrame m #[(.long p1)] 4)
  refine own_st (T' := s₁) (g' := mkF m 0 #[.val (.long p1), .second, .unset, .unset] []) (fun _ k => castTop (own_ef2 m p1) k) ?_
  have b15 : ∀ (T : State) (Lc : List Loc) (X : Stand p l e ({ frames := 0, cells := 0, slots := 0, locals := 0 } : Room) s m #[(.long p1)] below meth c T Lc 0 0) (eT : T.heap = h0) (NL : Fr n0 Lc) (v0 : Int64) (t0 : Int64), own_f2_0 p1 = own_f2_15 v0 t0 → own_Goes p e below (fun o U' => ∃ v L, o = .returned v ∧ Q2 Z p1 h0 n0 v U'.heap L ∧ FrameEnd s o U' L ({ frames := 0, cells := 0, slots := 0, locals := 0 } : Room).cells ({ frames := 0, cells := 0, slots := 0, locals := 0 } : Room).slots) T (mkF m 15 #[.val (.long v0), .second, .unset, .unset] [(.long t0)]) := by
    intro T Lc X eT NL v0 t0 hf
    refine own_st (T' := T) (g' := (mkF m 16 #[.val (.long v0), .second, .val (.long t0), .second] [])) (fun _ k => Jvm.Free.XS.lstoreN (g := (mkF m 15 #[.val (.long v0), .second, .unset, .unset] [(.long t0)])) X.here hx rfl (hb hby d2_15) rfl (l' := #[.val (.long v0), .second, .val (.long t0), .second]) rfl k) ?_
    refine own_st (T' := T) (g' := (mkF m 17 #[.val (.long v0), .second, .val (.long t0), .second] [(.long t0)])) (fun _ k => Jvm.Free.XS.lloadN (g := (mkF m 16 #[.val (.long v0), .second, .val (.long t0), .second] [])) X.here hx rfl (hb hby d2_16) rfl k) ?_
    refine own_st (T' := T) (g' := (mkF m 20 #[.val (.long v0), .second, .val (.long t0), .second] [(.long (64 : Int64)), (.long t0)])) (fun _ k => (X.ldc2Long hx hown (mvT hZ (hw _ (List.mem_of_getElem? (i := 9) rfl))) (g := (mkF m 17 #[.val (.long v0), .second, .val (.long t0), .second] [(.long t0)])) rfl (hb hby d2_17)) _ k) ?_
    refine own_st (T' := T) (g' := (mkF m 21 #[.val (.long v0), .second, .val (.long t0), .second] [(.int (lcmpW t0 (64 : Int64)))])) (fun _ k => Jvm.Free.XS.lcmp (g := (mkF m 20 #[.val (.long v0), .second, .val (.long t0), .second] [(.long (64 : Int64)), (.long t0)])) X.here hx rfl (hb hby d2_20) rfl k) ?_
    by_cases hc21 : (lcmpW t0 (64 : Int64)) < (0 : Int32)
    · have hf := hf.trans (if_pos hc21)
      refine own_st (T' := T) (g' := (mkF m 24 #[.val (.long v0), .second, .val (.long t0), .second] [])) (fun _ k => XS.ifNo (g := (mkF m 21 #[.val (.long v0), .second, .val (.long t0), .second] [(.int (lcmpW t0 (64 : Int64)))])) X.here hx rfl (hb hby d2_21) rfl ((if0 _ _).trans (tlt hc21).2.1) k) ?_
      refine own_st (T' := T) (g' := (mkF m 25 #[.val (.long v0), .second, .val (.long t0), .second] [(.int (1 : Int32))])) (fun _ k => XS.iconst (g := (mkF m 24 #[.val (.long v0), .second, .val (.long t0), .second] [])) X.here hx rfl (hb hby d2_24) k) ?_
      exact own_end (Q := Q2 Z p1 h0 n0) (v := some (.int (1 : Int32))) X (fun h => by rw [Bd.returns] at h; cases h) (fun fs hr => retI X hx Bd.returns (hb hby d2_25) hr) (⟨congrArg (fun z => some (Value.int z)) hf.symm, NL, eT⟩) (by decide) (by decide)
    · have hf := hf.trans (if_neg hc21)
      refine own_st (T' := T) (g' := (mkF m 26 #[.val (.long v0), .second, .val (.long t0), .second] [])) (fun _ k => XS.ifYes (g := (mkF m 21 #[.val (.long v0), .second, .val (.long t0), .second] [(.int (lcmpW t0 (64 : Int64)))])) X.here hx rfl (pc0 := 21) (pc' := 26) rfl (hb hby d2_21) rfl ((if0 _ _).trans (flt hc21).2.1) (by decide) (by decide) k) ?_
      refine own_st (T' := T) (g' := (mkF m 27 #[.val (.long v0), .second, .val (.long t0), .second] [(.long t0)])) (fun _ k => Jvm.Free.XS.lloadN (g := (mkF m 26 #[.val (.long v0), .second, .val (.long t0), .second] [])) X.here hx rfl (hb hby d2_26) rfl k) ?_
      refine own_st (T' := T) (g' := (mkF m 30 #[.val (.long v0), .second, .val (.long t0), .second] [(.long (8192 : Int64)), (.long t0)])) (fun _ k => (X.ldc2Long hx hown (mvT hZ (hw _ (List.mem_of_getElem? (i := 11) rfl))) (g := (mkF m 27 #[.val (.long v0), .second, .val (.long t0), .second] [(.long t0)])) rfl (hb hby d2_27)) _ k) ?_
      refine own_st (T' := T) (g' := (mkF m 31 #[.val (.long v0), .second, .val (.long t0), .second] [(.int (lcmpW t0 (8192 : Int64)))])) (fun _ k => Jvm.Free.XS.lcmp (g := (mkF m 30 #[.val (.long v0), .second, .val (.long t0), .second] [(.long (8192 : Int64)), (.long t0)])) X.here hx rfl (hb hby d2_30) rfl k) ?_
      by_cases hc31 : (lcmpW t0 (8192 : Int64)) < (0 : Int32)
      · have hf := hf.trans (if_pos hc31)
        refine own_st (T' := T) (g' := (mkF m 34 #[.val (.long v0), .second, .val (.long t0), .second] [])) (fun _ k => XS.ifNo (g := (mkF m 31 #[.val (.long v0), .second, .val (.long t0), .second] [(.int (lcmpW t0 (8192 : Int64)))])) X.here hx rfl (hb hby d2_31) rfl ((if0 _ _).trans (tlt hc31).2.1) k) ?_
        refine own_st (T' := T) (g' := (mkF m 35 #[.val (.long v0), .second, .val (.long t0), .second] [(.int (2 : Int32))])) (fun _ k => XS.iconst (g := (mkF m 34 #[.val (.long v0), .second, .val (.long t0), .second] [])) X.here hx rfl (hb hby d2_34) k) ?_
        exact own_end (Q := Q2 Z p1 h0 n0) (v := some (.int (2 : Int32))) X (fun h => by rw [Bd.returns] at h; cases h) (fun fs hr => retI X hx Bd.returns (hb hby d2_35) hr) (⟨congrArg (fun z => some (Value.int z)) hf.symm, NL, eT⟩) (by decide) (by decide)
      · have hf := hf.trans (if_neg hc31)
        refine own_st (T' := T) (g' := (mkF m 36 #[.val (.long v0), .second, .val (.long t0), .second] [])) (fun _ k => XS.ifYes (g := (mkF m 31 #[.val (.long v0), .second, .val (.long t0), .second] [(.int (lcmpW t0 (8192 : Int64)))])) X.here hx rfl (pc0 := 31) (pc' := 36) rfl (hb hby d2_31) rfl ((if0 _ _).trans (flt hc31).2.1) (by decide) (by decide) k) ?_
        refine own_st (T' := T) (g' := (mkF m 37 #[.val (.long v0), .second, .val (.long t0), .second] [(.long t0)])) (fun _ k => Jvm.Free.XS.lloadN (g := (mkF m 36 #[.val (.long v0), .second, .val (.long t0), .second] [])) X.here hx rfl (hb hby d2_36) rfl k) ?_
        refine own_st (T' := T) (g' := (mkF m 40 #[.val (.long v0), .second, .val (.long t0), .second] [(.long (1048576 : Int64)), (.long t0)])) (fun _ k => (X.ldc2Long hx hown (mvT hZ (hw _ (List.mem_of_getElem? (i := 12) rfl))) (g := (mkF m 37 #[.val (.long v0), .second, .val (.long t0), .second] [(.long t0)])) rfl (hb hby d2_37)) _ k) ?_
        refine own_st (T' := T) (g' := (mkF m 41 #[.val (.long v0), .second, .val (.long t0), .second] [(.int (lcmpW t0 (1048576 : Int64)))])) (fun _ k => Jvm.Free.XS.lcmp (g := (mkF m 40 #[.val (.long v0), .second, .val (.long t0), .second] [(.long (1048576 : Int64)), (.long t0)])) X.here hx rfl (hb hby d2_40) rfl k) ?_
        by_cases hc41 : (lcmpW t0 (1048576 : Int64)) < (0 : Int32)
        · have hf := hf.trans (if_pos hc41)
          refine own_st (T' := T) (g' := (mkF m 44 #[.val (.long v0), .second, .val (.long t0), .second] [])) (fun _ k => XS.ifNo (g := (mkF m 41 #[.val (.long v0), .second, .val (.long t0), .second] [(.int (lcmpW t0 (1048576 : Int64)))])) X.here hx rfl (hb hby d2_41) rfl ((if0 _ _).trans (tlt hc41).2.1) k) ?_
          refine own_st (T' := T) (g' := (mkF m 45 #[.val (.long v0), .second, .val (.long t0), .second] [(.int (3 : Int32))])) (fun _ k => XS.iconst (g := (mkF m 44 #[.val (.long v0), .second, .val (.long t0), .second] [])) X.here hx rfl (hb hby d2_44) k) ?_
          exact own_end (Q := Q2 Z p1 h0 n0) (v := some (.int (3 : Int32))) X (fun h => by rw [Bd.returns] at h; cases h) (fun fs hr => retI X hx Bd.returns (hb hby d2_45) hr) (⟨congrArg (fun z => some (Value.int z)) hf.symm, NL, eT⟩) (by decide) (by decide)
        · have hf := hf.trans (if_neg hc41)
          refine own_st (T' := T) (g' := (mkF m 46 #[.val (.long v0), .second, .val (.long t0), .second] [])) (fun _ k => XS.ifYes (g := (mkF m 41 #[.val (.long v0), .second, .val (.long t0), .second] [(.int (lcmpW t0 (1048576 : Int64)))])) X.here hx rfl (pc0 := 41) (pc' := 46) rfl (hb hby d2_41) rfl ((if0 _ _).trans (flt hc41).2.1) (by decide) (by decide) k) ?_
          refine own_st (T' := T) (g' := (mkF m 47 #[.val (.long v0), .second, .val (.long t0), .second] [(.long t0)])) (fun _ k => Jvm.Free.XS.lloadN (g := (mkF m 46 #[.val (.long v0), .second, .val (.long t0), .second] [])) X.here hx rfl (hb hby d2_46) rfl k) ?_
          refine own_st (T' := T) (g' := (mkF m 50 #[.val (.long v0), .second, .val (.long t0), .second] [(.long (134217728 : Int64)), (.long t0)])) (fun _ k => (X.ldc2Long hx hown (mvT hZ (hw _ (List.mem_of_getElem? (i := 13) rfl))) (g := (mkF m 47 #[.val (.long v0), .second, .val (.long t0), .second] [(.long t0)])) rfl (hb hby d2_47)) _ k) ?_
          refine own_st (T' := T) (g' := (mkF m 51 #[.val (.long v0), .second, .val (.long t0), .second] [(.int (lcmpW t0 (134217728 : Int64)))])) (fun _ k => Jvm.Free.XS.lcmp (g := (mkF m 50 #[.val (.long v0), .second, .val (.long t0), .second] [(.long (134217728 : Int64)), (.long t0)])) X.here hx rfl (hb hby d2_50) rfl k) ?_
          by_cases hc51 : (lcmpW t0 (134217728 : Int64)) < (0 : Int32)
          · have hf := hf.trans (if_pos hc51)
            refine own_st (T' := T) (g' := (mkF m 54 #[.val (.long v0), .second, .val (.long t0), .second] [])) (fun _ k => XS.ifNo (g := (mkF m 51 #[.val (.long v0), .second, .val (.long t0), .second] [(.int (lcmpW t0 (134217728 : Int64)))])) X.here hx rfl (hb hby d2_51) rfl ((if0 _ _).trans (tlt hc51).2.1) k) ?_
            refine own_st (T' := T) (g' := (mkF m 55 #[.val (.long v0), .second, .val (.long t0), .second] [(.int (4 : Int32))])) (fun _ k => XS.iconst (g := (mkF m 54 #[.val (.long v0), .second, .val (.long t0), .second] [])) X.here hx rfl (hb hby d2_54) k) ?_
            exact own_end (Q := Q2 Z p1 h0 n0) (v := some (.int (4 : Int32))) X (fun h => by rw [Bd.returns] at h; cases h) (fun fs hr => retI X hx Bd.returns (hb hby d2_55) hr) (⟨congrArg (fun z => some (Value.int z)) hf.symm, NL, eT⟩) (by decide) (by decide)
          · have hf := hf.trans (if_neg hc51)
            refine own_st (T' := T) (g' := (mkF m 56 #[.val (.long v0), .second, .val (.long t0), .second] [])) (fun _ k => XS.ifYes (g := (mkF m 51 #[.val (.long v0), .second, .val (.long t0), .second] [(.int (lcmpW t0 (134217728 : Int64)))])) X.here hx rfl (pc0 := 51) (pc' := 56) rfl (hb hby d2_51) rfl ((if0 _ _).trans (flt hc51).2.1) (by decide) (by decide) k) ?_
            refine own_st (T' := T) (g' := (mkF m 57 #[.val (.long v0), .second, .val (.long t0), .second] [(.long t0)])) (fun _ k => Jvm.Free.XS.lloadN (g := (mkF m 56 #[.val (.long v0), .second, .val (.long t0), .second] [])) X.here hx rfl (hb hby d2_56) rfl k) ?_
            refine own_st (T' := T) (g' := (mkF m 60 #[.val (.long v0), .second, .val (.long t0), .second] [(.long (17179869184 : Int64)), (.long t0)])) (fun _ k => (X.ldc2Long hx hown (mvT hZ (hw _ (List.mem_of_getElem? (i := 14) rfl))) (g := (mkF m 57 #[.val (.long v0), .second, .val (.long t0), .second] [(.long t0)])) rfl (hb hby d2_57)) _ k) ?_
            refine own_st (T' := T) (g' := (mkF m 61 #[.val (.long v0), .second, .val (.long t0), .second] [(.int (lcmpW t0 (17179869184 : Int64)))])) (fun _ k => Jvm.Free.XS.lcmp (g := (mkF m 60 #[.val (.long v0), .second, .val (.long t0), .second] [(.long (17179869184 : Int64)), (.long t0)])) X.here hx rfl (hb hby d2_60) rfl k) ?_
            by_cases hc61 : (lcmpW t0 (17179869184 : Int64)) < (0 : Int32)
            · have hf := hf.trans (if_pos hc61)
              refine own_st (T' := T) (g' := (mkF m 64 #[.val (.long v0), .second, .val (.long t0), .second] [])) (fun _ k => XS.ifNo (g := (mkF m 61 #[.val (.long v0), .second, .val (.long t0), .second] [(.int (lcmpW t0 (17179869184 : Int64)))])) X.here hx rfl (hb hby d2_61) rfl ((if0 _ _).trans (tlt hc61).2.1) k) ?_
              refine own_st (T' := T) (g' := (mkF m 65 #[.val (.long v0), .second, .val (.long t0), .second] [(.int (5 : Int32))])) (fun _ k => XS.iconst (g := (mkF m 64 #[.val (.long v0), .second, .val (.long t0), .second] [])) X.here hx rfl (hb hby d2_64) k) ?_
              exact own_end (Q := Q2 Z p1 h0 n0) (v := some (.int (5 : Int32))) X (fun h => by rw [Bd.returns] at h; cases h) (fun fs hr => retI X hx Bd.returns (hb hby d2_65) hr) (⟨congrArg (fun z => some (Value.int z)) hf.symm, NL, eT⟩) (by decide) (by decide)
            · have hf := hf.trans (if_neg hc61)
              refine own_st (T' := T) (g' := (mkF m 66 #[.val (.long v0), .second, .val (.long t0), .second] [])) (fun _ k => XS.ifYes (g := (mkF m 61 #[.val (.long v0), .second, .val (.long t0), .second] [(.int (lcmpW t0 (17179869184 : Int64)))])) X.here hx rfl (pc0 := 61) (pc' := 66) rfl (hb hby d2_61) rfl ((if0 _ _).trans (flt hc61).2.1) (by decide) (by decide) k) ?_
              refine own_st (T' := T) (g' := (mkF m 67 #[.val (.long v0), .second, .val (.long t0), .second] [(.long t0)])) (fun _ k => Jvm.Free.XS.lloadN (g := (mkF m 66 #[.val (.long v0), .second, .val (.long t0), .second] [])) X.here hx rfl (hb hby d2_66) rfl k) ?_
              refine own_st (T' := T) (g' := (mkF m 70 #[.val (.long v0), .second, .val (.long t0), .second] [(.long (2199023255552 : Int64)), (.long t0)])) (fun _ k => (X.ldc2Long hx hown (mvT hZ (hw _ (List.mem_of_getElem? (i := 15) rfl))) (g := (mkF m 67 #[.val (.long v0), .second, .val (.long t0), .second] [(.long t0)])) rfl (hb hby d2_67)) _ k) ?_
              refine own_st (T' := T) (g' := (mkF m 71 #[.val (.long v0), .second, .val (.long t0), .second] [(.int (lcmpW t0 (2199023255552 : Int64)))])) (fun _ k => Jvm.Free.XS.lcmp (g := (mkF m 70 #[.val (.long v0), .second, .val (.long t0), .second] [(.long (2199023255552 : Int64)), (.long t0)])) X.here hx rfl (hb hby d2_70) rfl k) ?_
              by_cases hc71 : (lcmpW t0 (2199023255552 : Int64)) < (0 : Int32)
              · have hf := hf.trans (if_pos hc71)
                refine own_st (T' := T) (g' := (mkF m 74 #[.val (.long v0), .second, .val (.long t0), .second] [])) (fun _ k => XS.ifNo (g := (mkF m 71 #[.val (.long v0), .second, .val (.long t0), .second] [(.int (lcmpW t0 (2199023255552 : Int64)))])) X.here hx rfl (hb hby d2_71) rfl ((if0 _ _).trans (tlt hc71).2.1) k) ?_
                refine own_st (T' := T) (g' := (mkF m 76 #[.val (.long v0), .second, .val (.long t0), .second] [(.int (6 : Int32))])) (fun _ k => XS.bipush (g := (mkF m 74 #[.val (.long v0), .second, .val (.long t0), .second] [])) X.here hx rfl (hb hby d2_74) k) ?_
                exact own_end (Q := Q2 Z p1 h0 n0) (v := some (.int (6 : Int32))) X (fun h => by rw [Bd.returns] at h; cases h) (fun fs hr => retI X hx Bd.returns (hb hby d2_76) hr) (⟨congrArg (fun z => some (Value.int z)) hf.symm, NL, eT⟩) (by decide) (by decide)
              · have hf := hf.trans (if_neg hc71)
                refine own_st (T' := T) (g' := (mkF m 77 #[.val (.long v0), .second, .val (.long t0), .second] [])) (fun _ k => XS.ifYes (g := (mkF m 71 #[.val (.long v0), .second, .val (.long t0), .second] [(.int (lcmpW t0 (2199023255552 : Int64)))])) X.here hx rfl (pc0 := 71) (pc' := 77) rfl (hb hby d2_71) rfl ((if0 _ _).trans (flt hc71).2.1) (by decide) (by decide) k) ?_
                refine own_st (T' := T) (g' := (mkF m 78 #[.val (.long v0), .second, .val (.long t0), .second] [(.long t0)])) (fun _ k => Jvm.Free.XS.lloadN (g := (mkF m 77 #[.val (.long v0), .second, .val (.long t0), .second] [])) X.here hx rfl (hb hby d2_77) rfl k) ?_
                refine own_st (T' := T) (g' := (mkF m 81 #[.val (.long v0), .second, .val (.long t0), .second] [(.long (281474976710656 : Int64)), (.long t0)])) (fun _ k => (X.ldc2Long hx hown (mvT hZ (hw _ (List.mem_of_getElem? (i := 16) rfl))) (g := (mkF m 78 #[.val (.long v0), .second, .val (.long t0), .second] [(.long t0)])) rfl (hb hby d2_78)) _ k) ?_
                refine own_st (T' := T) (g' := (mkF m 82 #[.val (.long v0), .second, .val (.long t0), .second] [(.int (lcmpW t0 (281474976710656 : Int64)))])) (fun _ k => Jvm.Free.XS.lcmp (g := (mkF m 81 #[.val (.long v0), .second, .val (.long t0), .second] [(.long (281474976710656 : Int64)), (.long t0)])) X.here hx rfl (hb hby d2_81) rfl k) ?_
                by_cases hc82 : (lcmpW t0 (281474976710656 : Int64)) < (0 : Int32)
                · have hf := hf.trans (if_pos hc82)
                  refine own_st (T' := T) (g' := (mkF m 85 #[.val (.long v0), .second, .val (.long t0), .second] [])) (fun _ k => XS.ifNo (g := (mkF m 82 #[.val (.long v0), .second, .val (.long t0), .second] [(.int (lcmpW t0 (281474976710656 : Int64)))])) X.here hx rfl (hb hby d2_82) rfl ((if0 _ _).trans (tlt hc82).2.1) k) ?_
                  refine own_st (T' := T) (g' := (mkF m 87 #[.val (.long v0), .second, .val (.long t0), .second] [(.int (7 : Int32))])) (fun _ k => XS.bipush (g := (mkF m 85 #[.val (.long v0), .second, .val (.long t0), .second] [])) X.here hx rfl (hb hby d2_85) k) ?_
                  exact own_end (Q := Q2 Z p1 h0 n0) (v := some (.int (7 : Int32))) X (fun h => by rw [Bd.returns] at h; cases h) (fun fs hr => retI X hx Bd.returns (hb hby d2_87) hr) (⟨congrArg (fun z => some (Value.int z)) hf.symm, NL, eT⟩) (by decide) (by decide)
                · have hf := hf.trans (if_neg hc82)
                  refine own_st (T' := T) (g' := (mkF m 88 #[.val (.long v0), .second, .val (.long t0), .second] [])) (fun _ k => XS.ifYes (g := (mkF m 82 #[.val (.long v0), .second, .val (.long t0), .second] [(.int (lcmpW t0 (281474976710656 : Int64)))])) X.here hx rfl (pc0 := 82) (pc' := 88) rfl (hb hby d2_82) rfl ((if0 _ _).trans (flt hc82).2.1) (by decide) (by decide) k) ?_
                  refine own_st (T' := T) (g' := (mkF m 89 #[.val (.long v0), .second, .val (.long t0), .second] [(.long t0)])) (fun _ k => Jvm.Free.XS.lloadN (g := (mkF m 88 #[.val (.long v0), .second, .val (.long t0), .second] [])) X.here hx rfl (hb hby d2_88) rfl k) ?_
                  refine own_st (T' := T) (g' := (mkF m 92 #[.val (.long v0), .second, .val (.long t0), .second] [(.long (36028797018963968 : Int64)), (.long t0)])) (fun _ k => (X.ldc2Long hx hown (mvT hZ (hw _ (List.mem_of_getElem? (i := 17) rfl))) (g := (mkF m 89 #[.val (.long v0), .second, .val (.long t0), .second] [(.long t0)])) rfl (hb hby d2_89)) _ k) ?_
                  refine own_st (T' := T) (g' := (mkF m 93 #[.val (.long v0), .second, .val (.long t0), .second] [(.int (lcmpW t0 (36028797018963968 : Int64)))])) (fun _ k => Jvm.Free.XS.lcmp (g := (mkF m 92 #[.val (.long v0), .second, .val (.long t0), .second] [(.long (36028797018963968 : Int64)), (.long t0)])) X.here hx rfl (hb hby d2_92) rfl k) ?_
                  by_cases hc93 : (lcmpW t0 (36028797018963968 : Int64)) < (0 : Int32)
                  · have hf := hf.trans (if_pos hc93)
                    refine own_st (T' := T) (g' := (mkF m 96 #[.val (.long v0), .second, .val (.long t0), .second] [])) (fun _ k => XS.ifNo (g := (mkF m 93 #[.val (.long v0), .second, .val (.long t0), .second] [(.int (lcmpW t0 (36028797018963968 : Int64)))])) X.here hx rfl (hb hby d2_93) rfl ((if0 _ _).trans (tlt hc93).2.1) k) ?_
                    refine own_st (T' := T) (g' := (mkF m 98 #[.val (.long v0), .second, .val (.long t0), .second] [(.int (8 : Int32))])) (fun _ k => XS.bipush (g := (mkF m 96 #[.val (.long v0), .second, .val (.long t0), .second] [])) X.here hx rfl (hb hby d2_96) k) ?_
                    exact own_end (Q := Q2 Z p1 h0 n0) (v := some (.int (8 : Int32))) X (fun h => by rw [Bd.returns] at h; cases h) (fun fs hr => retI X hx Bd.returns (hb hby d2_98) hr) (⟨congrArg (fun z => some (Value.int z)) hf.symm, NL, eT⟩) (by decide) (by decide)
                  · have hf := hf.trans (if_neg hc93)
                    refine own_st (T' := T) (g' := (mkF m 99 #[.val (.long v0), .second, .val (.long t0), .second] [])) (fun _ k => XS.ifYes (g := (mkF m 93 #[.val (.long v0), .second, .val (.long t0), .second] [(.int (lcmpW t0 (36028797018963968 : Int64)))])) X.here hx rfl (pc0 := 93) (pc' := 99) rfl (hb hby d2_93) rfl ((if0 _ _).trans (flt hc93).2.1) (by decide) (by decide) k) ?_
                    refine own_st (T' := T) (g' := (mkF m 100 #[.val (.long v0), .second, .val (.long t0), .second] [(.long t0)])) (fun _ k => Jvm.Free.XS.lloadN (g := (mkF m 99 #[.val (.long v0), .second, .val (.long t0), .second] [])) X.here hx rfl (hb hby d2_99) rfl k) ?_
                    refine own_st (T' := T) (g' := (mkF m 103 #[.val (.long v0), .second, .val (.long t0), .second] [(.long (4611686018427387904 : Int64)), (.long t0)])) (fun _ k => (X.ldc2Long hx hown (mvT hZ (hw _ (List.mem_of_getElem? (i := 18) rfl))) (g := (mkF m 100 #[.val (.long v0), .second, .val (.long t0), .second] [(.long t0)])) rfl (hb hby d2_100)) _ k) ?_
                    refine own_st (T' := T) (g' := (mkF m 104 #[.val (.long v0), .second, .val (.long t0), .second] [(.int (lcmpW t0 (4611686018427387904 : Int64)))])) (fun _ k => Jvm.Free.XS.lcmp (g := (mkF m 103 #[.val (.long v0), .second, .val (.long t0), .second] [(.long (4611686018427387904 : Int64)), (.long t0)])) X.here hx rfl (hb hby d2_103) rfl k) ?_
                    by_cases hc104 : (lcmpW t0 (4611686018427387904 : Int64)) < (0 : Int32)
                    · have hf := hf.trans (if_pos hc104)
                      refine own_st (T' := T) (g' := (mkF m 107 #[.val (.long v0), .second, .val (.long t0), .second] [])) (fun _ k => XS.ifNo (g := (mkF m 104 #[.val (.long v0), .second, .val (.long t0), .second] [(.int (lcmpW t0 (4611686018427387904 : Int64)))])) X.here hx rfl (hb hby d2_104) rfl ((if0 _ _).trans (tlt hc104).2.1) k) ?_
                      refine own_st (T' := T) (g' := (mkF m 109 #[.val (.long v0), .second, .val (.long t0), .second] [(.int (9 : Int32))])) (fun _ k => XS.bipush (g := (mkF m 107 #[.val (.long v0), .second, .val (.long t0), .second] [])) X.here hx rfl (hb hby d2_107) k) ?_
                      exact own_end (Q := Q2 Z p1 h0 n0) (v := some (.int (9 : Int32))) X (fun h => by rw [Bd.returns] at h; cases h) (fun fs hr => retI X hx Bd.returns (hb hby d2_109) hr) (⟨congrArg (fun z => some (Value.int z)) hf.symm, NL, eT⟩) (by decide) (by decide)
                    · have hf := hf.trans (if_neg hc104)
                      refine own_st (T' := T) (g' := (mkF m 110 #[.val (.long v0), .second, .val (.long t0), .second] [])) (fun _ k => XS.ifYes (g := (mkF m 104 #[.val (.long v0), .second, .val (.long t0), .second] [(.int (lcmpW t0 (4611686018427387904 : Int64)))])) X.here hx rfl (pc0 := 104) (pc' := 110) rfl (hb hby d2_104) rfl ((if0 _ _).trans (flt hc104).2.1) (by decide) (by decide) k) ?_
                      refine own_st (T' := T) (g' := (mkF m 112 #[.val (.long v0), .second, .val (.long t0), .second] [(.int (10 : Int32))])) (fun _ k => XS.bipush (g := (mkF m 110 #[.val (.long v0), .second, .val (.long t0), .second] [])) X.here hx rfl (hb hby d2_110) k) ?_
                      exact own_end (Q := Q2 Z p1 h0 n0) (v := some (.int (10 : Int32))) X (fun h => by rw [Bd.returns] at h; cases h) (fun fs hr => retI X hx Bd.returns (hb hby d2_112) hr) (⟨congrArg (fun z => some (Value.int z)) hf.symm, NL, eT⟩) (by decide) (by decide)
  have hf : own_f2_0 p1 = own_f2_0 p1 := rfl
  refine own_st (T' := s₁) (g' := (mkF m 1 #[.val (.long p1), .second, .unset, .unset] [(.long p1)])) (fun _ k => Jvm.Free.XS.lloadN (g := (mkF m 0 #[.val (.long p1), .second, .unset, .unset] [])) X0.here hx rfl (hb hby d2_0) rfl k) ?_
  refine own_st (T' := s₁) (g' := (mkF m 2 #[.val (.long p1), .second, .unset, .unset] [(.long (0 : Int64)), (.long p1)])) (fun _ k => Jvm.Free.XS.lconst (g := (mkF m 1 #[.val (.long p1), .second, .unset, .unset] [(.long p1)])) X0.here hx rfl (hb hby d2_1) k) ?_
  refine own_st (T' := s₁) (g' := (mkF m 3 #[.val (.long p1), .second, .unset, .unset] [(.int (lcmpW p1 (0 : Int64)))])) (fun _ k => Jvm.Free.XS.lcmp (g := (mkF m 2 #[.val (.long p1), .second, .unset, .unset] [(.long (0 : Int64)), (.long p1)])) X0.here hx rfl (hb hby d2_2) rfl k) ?_
  by_cases hc3 : (lcmpW p1 (0 : Int64)) < (0 : Int32)
  · have hf := hf.trans (if_pos hc3)
    refine own_st (T' := s₁) (g' := (mkF m 10 #[.val (.long p1), .second, .unset, .unset] [])) (fun _ k => XS.ifYes (g := (mkF m 3 #[.val (.long p1), .second, .unset, .unset] [(.int (lcmpW p1 (0 : Int64)))])) X0.here hx rfl (pc0 := 3) (pc' := 10) rfl (hb hby d2_3) rfl ((if0 _ _).trans (tlt hc3).1) (by decide) (by decide) k) ?_
    refine own_st (T' := s₁) (g' := (mkF m 11 #[.val (.long p1), .second, .unset, .unset] [(.long p1)])) (fun _ k => Jvm.Free.XS.lloadN (g := (mkF m 10 #[.val (.long p1), .second, .unset, .unset] [])) X0.here hx rfl (hb hby d2_10) rfl k) ?_
    refine own_st (T' := s₁) (g' := (mkF m 14 #[.val (.long p1), .second, .unset, .unset] [(.long (-1 : Int64)), (.long p1)])) (fun _ k => (X0.ldc2Long hx hown (mvT hZ (hw _ (List.mem_of_getElem? (i := 10) rfl))) (g := (mkF m 11 #[.val (.long p1), .second, .unset, .unset] [(.long p1)])) rfl (hb hby d2_11)) _ k) ?_
    refine own_st (T' := s₁) (g' := (mkF m 15 #[.val (.long p1), .second, .unset, .unset] [(.long (p1 ^^^ (-1 : Int64)))])) (fun _ k => Jvm.Free.XS.lxor (g := (mkF m 14 #[.val (.long p1), .second, .unset, .unset] [(.long (-1 : Int64)), (.long p1)])) X0.here hx rfl (hb hby d2_14) rfl k) ?_
    exact b15 s₁ _ X0 e0 N0  p1 (p1 ^^^ (-1 : Int64)) hf
  · have hf := hf.trans (if_neg hc3)
    refine own_st (T' := s₁) (g' := (mkF m 6 #[.val (.long p1), .second, .unset, .unset] [])) (fun _ k => XS.ifNo (g := (mkF m 3 #[.val (.long p1), .second, .unset, .unset] [(.int (lcmpW p1 (0 : Int64)))])) X0.here hx rfl (hb hby d2_3) rfl ((if0 _ _).trans (flt hc3).1) k) ?_
    refine own_st (T' := s₁) (g' := (mkF m 7 #[.val (.long p1), .second, .unset, .unset] [(.long p1)])) (fun _ k => Jvm.Free.XS.lloadN (g := (mkF m 6 #[.val (.long p1), .second, .unset, .unset] [])) X0.here hx rfl (hb hby d2_6) rfl k) ?_
    refine own_st (T' := s₁) (g' := (mkF m 15 #[.val (.long p1), .second, .unset, .unset] [(.long p1)])) (fun _ k => XS.goto (g := (mkF m 7 #[.val (.long p1), .second, .unset, .unset] [(.long p1)])) X0.here hx rfl (pc0 := 7) (pc' := 15) rfl (hb hby d2_7) (by decide) (by decide) k) ?_
    exact b15 s₁ _ X0 e0 N0  p1 p1 hf
theorem own_sz0 (k : Nat) (s : Int32) (r : Int64) (h : own_u r < 128) : own_sz (k + 1) s r = s := if_pos ((own_low r).mpr h)
theorem own_szS (k : Nat) (s : Int32) (r : Int64) (h : 128 ≤ own_u r) : own_sz (k + 1) s r = own_sz k (s + 1) (own_sh r) := if_neg (fun q => by have := (own_low r).mp q; omega)
theorem own_lcY (m k : Int64) (K : Int) (hk : k.toInt = K) (h : m.toInt < K) : (lcmpW m k) < (0 : Int32) := (lw_lt m k).mpr (by rw [Int64.lt_iff_toInt_lt, hk]; exact h)
theorem own_lcN (m k : Int64) (K : Int) (hk : k.toInt = K) (h : K ≤ m.toInt) : ¬ (lcmpW m k) < (0 : Int32) := fun q => by
  have := (lw_lt m k).mp q
  rw [Int64.lt_iff_toInt_lt, hk] at this; omega
set_option maxRecDepth 65536 in
set_option maxHeartbeats 4000000 in
theorem own_main (v m r : Int64) (h0 : 0 ≤ m.toInt) (hu : own_u r = 2 * m.toInt ∨ own_u r = 2 * m.toInt + 1) : own_sz 10 (1 : Int32) r = own_f2_15 v m := by
  have hm := rng64 m
  by_cases q0 : m.toInt < 64
  · refine Eq.trans (own_sz0 9 _ (r) (by omega)) ?_
    symm
    refine Eq.trans (if_pos (own_lcY m 64 64 (by decide) (by omega))) ?_
    rfl
  by_cases q1 : m.toInt < 8192
  · have u0 := own_u_sh (r)
    refine Eq.trans (own_szS 9 _ (r) (by omega)) ?_
    refine Eq.trans (own_sz0 8 _ (own_sh r) (by omega)) ?_
    symm
    refine Eq.trans (if_neg (own_lcN m 64 64 (by decide) (by omega))) ?_
    refine Eq.trans (if_pos (own_lcY m 8192 8192 (by decide) (by omega))) ?_
    rfl
  by_cases q2 : m.toInt < 1048576
  · have u0 := own_u_sh (r)
    have u1 := own_u_sh (own_sh r)
    refine Eq.trans (own_szS 9 _ (r) (by omega)) ?_
    refine Eq.trans (own_szS 8 _ (own_sh r) (by omega)) ?_
    refine Eq.trans (own_sz0 7 _ (own_sh (own_sh r)) (by omega)) ?_
    symm
    refine Eq.trans (if_neg (own_lcN m 64 64 (by decide) (by omega))) ?_
    refine Eq.trans (if_neg (own_lcN m 8192 8192 (by decide) (by omega))) ?_
    refine Eq.trans (if_pos (own_lcY m 1048576 1048576 (by decide) (by omega))) ?_
    rfl
  by_cases q3 : m.toInt < 134217728
  · have u0 := own_u_sh (r)
    have u1 := own_u_sh (own_sh r)
    have u2 := own_u_sh (own_sh (own_sh r))
    refine Eq.trans (own_szS 9 _ (r) (by omega)) ?_
    refine Eq.trans (own_szS 8 _ (own_sh r) (by omega)) ?_
    refine Eq.trans (own_szS 7 _ (own_sh (own_sh r)) (by omega)) ?_
    refine Eq.trans (own_sz0 6 _ (own_sh (own_sh (own_sh r))) (by omega)) ?_
    symm
    refine Eq.trans (if_neg (own_lcN m 64 64 (by decide) (by omega))) ?_
    refine Eq.trans (if_neg (own_lcN m 8192 8192 (by decide) (by omega))) ?_
    refine Eq.trans (if_neg (own_lcN m 1048576 1048576 (by decide) (by omega))) ?_
    refine Eq.trans (if_pos (own_lcY m 134217728 134217728 (by decide) (by omega))) ?_
    rfl
  by_cases q4 : m.toInt < 17179869184
  · have u0 := own_u_sh (r)
    have u1 := own_u_sh (own_sh r)
    have u2 := own_u_sh (own_sh (own_sh r))
    have u3 := own_u_sh (own_sh (own_sh (own_sh r)))
    refine Eq.trans (own_szS 9 _ (r) (by omega)) ?_
    refine Eq.trans (own_szS 8 _ (own_sh r) (by omega)) ?_
    refine Eq.trans (own_szS 7 _ (own_sh (own_sh r)) (by omega)) ?_
    refine Eq.trans (own_szS 6 _ (own_sh (own_sh (own_sh r))) (by omega)) ?_
    refine Eq.trans (own_sz0 5 _ (own_sh (own_sh (own_sh (own_sh r)))) (by omega)) ?_
    symm
    refine Eq.trans (if_neg (own_lcN m 64 64 (by decide) (by omega))) ?_
    refine Eq.trans (if_neg (own_lcN m 8192 8192 (by decide) (by omega))) ?_
    refine Eq.trans (if_neg (own_lcN m 1048576 1048576 (by decide) (by omega))) ?_
    refine Eq.trans (if_neg (own_lcN m 134217728 134217728 (by decide) (by omega))) ?_
    refine Eq.trans (if_pos (own_lcY m 17179869184 17179869184 (by decide) (by omega))) ?_
    rfl
  by_cases q5 : m.toInt < 2199023255552
  · have u0 := own_u_sh (r)
    have u1 := own_u_sh (own_sh r)
    have u2 := own_u_sh (own_sh (own_sh r))
    have u3 := own_u_sh (own_sh (own_sh (own_sh r)))
    have u4 := own_u_sh (own_sh (own_sh (own_sh (own_sh r))))
    refine Eq.trans (own_szS 9 _ (r) (by omega)) ?_
    refine Eq.trans (own_szS 8 _ (own_sh r) (by omega)) ?_
    refine Eq.trans (own_szS 7 _ (own_sh (own_sh r)) (by omega)) ?_
    refine Eq.trans (own_szS 6 _ (own_sh (own_sh (own_sh r))) (by omega)) ?_
    refine Eq.trans (own_szS 5 _ (own_sh (own_sh (own_sh (own_sh r)))) (by omega)) ?_
    refine Eq.trans (own_sz0 4 _ (own_sh (own_sh (own_sh (own_sh (own_sh r))))) (by omega)) ?_
    symm
    refine Eq.trans (if_neg (own_lcN m 64 64 (by decide) (by omega))) ?_
    refine Eq.trans (if_neg (own_lcN m 8192 8192 (by decide) (by omega))) ?_
    refine Eq.trans (if_neg (own_lcN m 1048576 1048576 (by decide) (by omega))) ?_
    refine Eq.trans (if_neg (own_lcN m 134217728 134217728 (by decide) (by omega))) ?_
    refine Eq.trans (if_neg (own_lcN m 17179869184 17179869184 (by decide) (by omega))) ?_
    refine Eq.trans (if_pos (own_lcY m 2199023255552 2199023255552 (by decide) (by omega))) ?_
    rfl
  by_cases q6 : m.toInt < 281474976710656
  · have u0 := own_u_sh (r)
    have u1 := own_u_sh (own_sh r)
    have u2 := own_u_sh (own_sh (own_sh r))
    have u3 := own_u_sh (own_sh (own_sh (own_sh r)))
    have u4 := own_u_sh (own_sh (own_sh (own_sh (own_sh r))))
    have u5 := own_u_sh (own_sh (own_sh (own_sh (own_sh (own_sh r)))))
    refine Eq.trans (own_szS 9 _ (r) (by omega)) ?_
    refine Eq.trans (own_szS 8 _ (own_sh r) (by omega)) ?_
    refine Eq.trans (own_szS 7 _ (own_sh (own_sh r)) (by omega)) ?_
    refine Eq.trans (own_szS 6 _ (own_sh (own_sh (own_sh r))) (by omega)) ?_
    refine Eq.trans (own_szS 5 _ (own_sh (own_sh (own_sh (own_sh r)))) (by omega)) ?_
    refine Eq.trans (own_szS 4 _ (own_sh (own_sh (own_sh (own_sh (own_sh r))))) (by omega)) ?_
    refine Eq.trans (own_sz0 3 _ (own_sh (own_sh (own_sh (own_sh (own_sh (own_sh r)))))) (by omega)) ?_
    symm
    refine Eq.trans (if_neg (own_lcN m 64 64 (by decide) (by omega))) ?_
    refine Eq.trans (if_neg (own_lcN m 8192 8192 (by decide) (by omega))) ?_
    refine Eq.trans (if_neg (own_lcN m 1048576 1048576 (by decide) (by omega))) ?_
    refine Eq.trans (if_neg (own_lcN m 134217728 134217728 (by decide) (by omega))) ?_
    refine Eq.trans (if_neg (own_lcN m 17179869184 17179869184 (by decide) (by omega))) ?_
    refine Eq.trans (if_neg (own_lcN m 2199023255552 2199023255552 (by decide) (by omega))) ?_
    refine Eq.trans (if_pos (own_lcY m 281474976710656 281474976710656 (by decide) (by omega))) ?_
    rfl
  by_cases q7 : m.toInt < 36028797018963968
  · have u0 := own_u_sh (r)
    have u1 := own_u_sh (own_sh r)
    have u2 := own_u_sh (own_sh (own_sh r))
    have u3 := own_u_sh (own_sh (own_sh (own_sh r)))
    have u4 := own_u_sh (own_sh (own_sh (own_sh (own_sh r))))
    have u5 := own_u_sh (own_sh (own_sh (own_sh (own_sh (own_sh r)))))
    have u6 := own_u_sh (own_sh (own_sh (own_sh (own_sh (own_sh (own_sh r))))))
    refine Eq.trans (own_szS 9 _ (r) (by omega)) ?_
    refine Eq.trans (own_szS 8 _ (own_sh r) (by omega)) ?_
    refine Eq.trans (own_szS 7 _ (own_sh (own_sh r)) (by omega)) ?_
    refine Eq.trans (own_szS 6 _ (own_sh (own_sh (own_sh r))) (by omega)) ?_
    refine Eq.trans (own_szS 5 _ (own_sh (own_sh (own_sh (own_sh r)))) (by omega)) ?_
    refine Eq.trans (own_szS 4 _ (own_sh (own_sh (own_sh (own_sh (own_sh r))))) (by omega)) ?_
    refine Eq.trans (own_szS 3 _ (own_sh (own_sh (own_sh (own_sh (own_sh (own_sh r)))))) (by omega)) ?_
    refine Eq.trans (own_sz0 2 _ (own_sh (own_sh (own_sh (own_sh (own_sh (own_sh (own_sh r))))))) (by omega)) ?_
    symm
    refine Eq.trans (if_neg (own_lcN m 64 64 (by decide) (by omega))) ?_
    refine Eq.trans (if_neg (own_lcN m 8192 8192 (by decide) (by omega))) ?_
    refine Eq.trans (if_neg (own_lcN m 1048576 1048576 (by decide) (by omega))) ?_
    refine Eq.trans (if_neg (own_lcN m 134217728 134217728 (by decide) (by omega))) ?_
    refine Eq.trans (if_neg (own_lcN m 17179869184 17179869184 (by decide) (by omega))) ?_
    refine Eq.trans (if_neg (own_lcN m 2199023255552 2199023255552 (by decide) (by omega))) ?_
    refine Eq.trans (if_neg (own_lcN m 281474976710656 281474976710656 (by decide) (by omega))) ?_
    refine Eq.trans (if_pos (own_lcY m 36028797018963968 36028797018963968 (by decide) (by omega))) ?_
    rfl
  by_cases q8 : m.toInt < 4611686018427387904
  · have u0 := own_u_sh (r)
    have u1 := own_u_sh (own_sh r)
    have u2 := own_u_sh (own_sh (own_sh r))
    have u3 := own_u_sh (own_sh (own_sh (own_sh r)))
    have u4 := own_u_sh (own_sh (own_sh (own_sh (own_sh r))))
    have u5 := own_u_sh (own_sh (own_sh (own_sh (own_sh (own_sh r)))))
    have u6 := own_u_sh (own_sh (own_sh (own_sh (own_sh (own_sh (own_sh r))))))
    have u7 := own_u_sh (own_sh (own_sh (own_sh (own_sh (own_sh (own_sh (own_sh r)))))))
    refine Eq.trans (own_szS 9 _ (r) (by omega)) ?_
    refine Eq.trans (own_szS 8 _ (own_sh r) (by omega)) ?_
    refine Eq.trans (own_szS 7 _ (own_sh (own_sh r)) (by omega)) ?_
    refine Eq.trans (own_szS 6 _ (own_sh (own_sh (own_sh r))) (by omega)) ?_
    refine Eq.trans (own_szS 5 _ (own_sh (own_sh (own_sh (own_sh r)))) (by omega)) ?_
    refine Eq.trans (own_szS 4 _ (own_sh (own_sh (own_sh (own_sh (own_sh r))))) (by omega)) ?_
    refine Eq.trans (own_szS 3 _ (own_sh (own_sh (own_sh (own_sh (own_sh (own_sh r)))))) (by omega)) ?_
    refine Eq.trans (own_szS 2 _ (own_sh (own_sh (own_sh (own_sh (own_sh (own_sh (own_sh r))))))) (by omega)) ?_
    refine Eq.trans (own_sz0 1 _ (own_sh (own_sh (own_sh (own_sh (own_sh (own_sh (own_sh (own_sh r)))))))) (by omega)) ?_
    symm
    refine Eq.trans (if_neg (own_lcN m 64 64 (by decide) (by omega))) ?_
    refine Eq.trans (if_neg (own_lcN m 8192 8192 (by decide) (by omega))) ?_
    refine Eq.trans (if_neg (own_lcN m 1048576 1048576 (by decide) (by omega))) ?_
    refine Eq.trans (if_neg (own_lcN m 134217728 134217728 (by decide) (by omega))) ?_
    refine Eq.trans (if_neg (own_lcN m 17179869184 17179869184 (by decide) (by omega))) ?_
    refine Eq.trans (if_neg (own_lcN m 2199023255552 2199023255552 (by decide) (by omega))) ?_
    refine Eq.trans (if_neg (own_lcN m 281474976710656 281474976710656 (by decide) (by omega))) ?_
    refine Eq.trans (if_neg (own_lcN m 36028797018963968 36028797018963968 (by decide) (by omega))) ?_
    refine Eq.trans (if_pos (own_lcY m 4611686018427387904 4611686018427387904 (by decide) (by omega))) ?_
    rfl
  have u0 := own_u_sh (r)
  have u1 := own_u_sh (own_sh r)
  have u2 := own_u_sh (own_sh (own_sh r))
  have u3 := own_u_sh (own_sh (own_sh (own_sh r)))
  have u4 := own_u_sh (own_sh (own_sh (own_sh (own_sh r))))
  have u5 := own_u_sh (own_sh (own_sh (own_sh (own_sh (own_sh r)))))
  have u6 := own_u_sh (own_sh (own_sh (own_sh (own_sh (own_sh (own_sh r))))))
  have u7 := own_u_sh (own_sh (own_sh (own_sh (own_sh (own_sh (own_sh (own_sh r)))))))
  have u8 := own_u_sh (own_sh (own_sh (own_sh (own_sh (own_sh (own_sh (own_sh (own_sh r))))))))
  refine Eq.trans (own_szS 9 _ (r) (by omega)) ?_
  refine Eq.trans (own_szS 8 _ (own_sh r) (by omega)) ?_
  refine Eq.trans (own_szS 7 _ (own_sh (own_sh r)) (by omega)) ?_
  refine Eq.trans (own_szS 6 _ (own_sh (own_sh (own_sh r))) (by omega)) ?_
  refine Eq.trans (own_szS 5 _ (own_sh (own_sh (own_sh (own_sh r)))) (by omega)) ?_
  refine Eq.trans (own_szS 4 _ (own_sh (own_sh (own_sh (own_sh (own_sh r))))) (by omega)) ?_
  refine Eq.trans (own_szS 3 _ (own_sh (own_sh (own_sh (own_sh (own_sh (own_sh r)))))) (by omega)) ?_
  refine Eq.trans (own_szS 2 _ (own_sh (own_sh (own_sh (own_sh (own_sh (own_sh (own_sh r))))))) (by omega)) ?_
  refine Eq.trans (own_szS 1 _ (own_sh (own_sh (own_sh (own_sh (own_sh (own_sh (own_sh (own_sh r)))))))) (by omega)) ?_
  refine Eq.trans (own_sz0 0 _ (own_sh (own_sh (own_sh (own_sh (own_sh (own_sh (own_sh (own_sh (own_sh r))))))))) (by omega)) ?_
  symm
  refine Eq.trans (if_neg (own_lcN m 64 64 (by decide) (by omega))) ?_
  refine Eq.trans (if_neg (own_lcN m 8192 8192 (by decide) (by omega))) ?_
  refine Eq.trans (if_neg (own_lcN m 1048576 1048576 (by decide) (by omega))) ?_
  refine Eq.trans (if_neg (own_lcN m 134217728 134217728 (by decide) (by omega))) ?_
  refine Eq.trans (if_neg (own_lcN m 17179869184 17179869184 (by decide) (by omega))) ?_
  refine Eq.trans (if_neg (own_lcN m 2199023255552 2199023255552 (by decide) (by omega))) ?_
  refine Eq.trans (if_neg (own_lcN m 281474976710656 281474976710656 (by decide) (by omega))) ?_
  refine Eq.trans (if_neg (own_lcN m 36028797018963968 36028797018963968 (by decide) (by omega))) ?_
  refine Eq.trans (if_neg (own_lcN m 4611686018427387904 4611686018427387904 (by decide) (by omega))) ?_
  rfl
theorem own_not (a : Int64) : (a ^^^ (-1 : Int64)).toInt = -a.toInt - 1 := by
  have e : a ^^^ (-1 : Int64) = ~~~a := by
    rw [← Int64.toBitVec_inj, Int64.toBitVec_xor, Int64.toBitVec_not]
    have : (-1 : Int64).toBitVec = BitVec.allOnes 64 := by decide
    rw [this, BitVec.xor_allOnes]
  rw [e]
  have t := Int64.toInt_not a; have b := bm64 (-a.toInt - 1); have r := rng64 (~~~a); have r2 := rng64 a
  rw [← t] at b
  omega
theorem own_law (v : Int64) : own_f1_0 v = own_f2_0 v := by
  have hv := rng64 v
  have a := c_lshl v 1 1 (by decide)
  have b := c_lshr v 63 63 (by decide)
  have e63 : ((2 ^ 63 : Nat) : Int) = 9223372036854775808 := by decide
  rw [e63] at b
  by_cases h : v.toInt < 0
  · have e : v >>> ((63 : Int32) &&& 0x3f).toInt64 = -1 := by
      rw [← Int64.toInt_inj, b]
      have : (-1 : Int64).toInt = -1 := rfl
      rw [this]; omega
    have hz : own_u (own_zz v) = 2 * (v ^^^ (-1 : Int64)).toInt + 1 := by
      unfold own_zz own_u
      rw [e, own_not, own_not]; omega
    refine Eq.trans ?_ (if_pos ((lw_lt v 0).mpr (by rw [Int64.lt_iff_toInt_lt]; exact h))).symm
    exact own_main v _ _ (by rw [own_not]; omega) (Or.inr hz)
  · have e : v >>> ((63 : Int32) &&& 0x3f).toInt64 = 0 := by
      rw [← Int64.toInt_inj, b]
      have : (0 : Int64).toInt = 0 := rfl
      rw [this]; omega
    have hz : own_u (own_zz v) = 2 * v.toInt := by
      unfold own_zz own_u
      rw [e, Int64.xor_zero]; omega
    refine Eq.trans ?_ (if_neg (fun q => h (by have := (lw_lt v 0).mp q; rw [Int64.lt_iff_toInt_lt] at this; exact this))).symm
    exact own_main v _ _ (by omega) (Or.inl hz)
theorem own_pn0 : plainName "com/example/millrace/millrace/wire/ProtocolWriterSizeOfVarlongPinLaw" = true := by first | (simp [plainName, overriddenIn]; done) | decide +kernel
theorem own_pd0_0 : parseMethodDescriptor "(J)I" = some ⟨[.long], some .int⟩ := by decide +kernel
theorem own_ef0 (m : MethodId) (x0 : Int64) (x1 : Int32) : entryFrame m #[(.long x0), (.int x1)] maxLocals = mkF m 0 #[.val (.long x0), .second, .val (.int x1), .unset, .unset] [] := by first | (simp [entryFrame, mkF, argsToLocals, Value.category, maxLocals]; done) | rfl
def Q0 (Z : State) (p1 : Int64) (p2 : Int32) (h0 : Heap) (n0 : Nat) (v : Option Value) (h : Heap) (L : List Loc) : Prop := v = some (.int 1) ∧ Fr n0 L
set_option maxRecDepth 65536 in
set_option maxHeartbeats 40000000 in
theorem rm0 (l : Launch) (Z : State) (a0 : Array Value) (hw : ∀ d ∈ tables_1, d.before a0 Z = true) (ws : List Jvm.Cond) (p1 : Int64) (p2 : Int32) (h0 : Heap) (n0 : Nat) (Z0 : n0 ≤ h0.size)  :
    MetFree l x (head1 (Jvm.Cond.code x code maxLocals ret :: ws) room_1) (fun a U => a = #[(.long p1), (.int p2)] ∧ Z.Warmed39 U.vm ∧ U.heap = h0) (fun _ _ _ _ _ => True) (fun _ U o U' => ∃ v L, o = .returned v ∧ Q0 Z p1 p2 h0 n0 v U'.heap L ∧ FrameEnd U o U' L room_1.cells room_1.slots) := by
  refine MetFree.of_bodySF (plainFor_of_name own_pn0) hisR ?_
  intro p e s m args below meth c s₁ Bd hml0 hP hK
  obtain ⟨rfl, hZ, hh⟩ := hP
  have hx := Bd.exec
  have hby := Bd.bytes
  have hml : c.maxLocals = 5 := hml0
  have hown : s.vm.findClass "com/example/millrace/millrace/wire/ProtocolWriterSizeOfVarlongPinLaw" = some m.cls := findClass_of_methodNamed Bd.named
  have hnm := (name_of_methodNamed Bd.named Bd.method).1
  have hlk := Bd.notSynchronized
  have X0 : Stand p l e room_1 s m #[(.long p1), (.int p2)] below meth c s₁ [] 0 0 := Stand.of_body Bd
  have e0 : s₁.heap = h0 := by rw [← hh, Bd.state]; rfl
  have N0 := Fr.nil n0
  show own_Goes p e below (fun o U' => ∃ v L, o = .returned v ∧ Q0 Z p1 p2 h0 n0 v U'.heap L ∧ FrameEnd s o U' L room_1.cells room_1.slots) s₁ (entryFrame m #[(.long p1), (.int p2)] maxLocals)
  refine own_st (T' := s₁) (g' := mkF m 0 #[.val (.long p1), .second, .val (.int p2), .unset, .unset] []) (fun _ k => castTop (own_ef0 m p1 p2) k) ?_
  refine own_st (T' := s₁) (g' := (mkF m 1 #[.val (.long p1), .second, .val (.int p2), .unset, .unset] [(.long p1)])) (fun _ k => Jvm.Free.XS.lloadN (g := (mkF m 0 #[.val (.long p1), .second, .val (.int p2), .unset, .unset] [])) X0.here hx rfl (hb hby at_0) rfl k) ?_
  refine own_st (T' := s₁) (g' := (mkF m 2 #[.val (.long p1), .second, .val (.int p2), .unset, .unset] [(.int p2), (.long p1)])) (fun _ k => Jvm.Free.XS.iloadN (g := (mkF m 1 #[.val (.long p1), .second, .val (.int p2), .unset, .unset] [(.long p1)])) X0.here hx rfl (hb hby at_1) rfl k) ?_
  refine own_st (T' := s₁) (g' := (mkF m 4 #[.val (.long p1), .second, .val (.int p2), .unset, .unset] [(.int (63 : Int32)), (.int p2), (.long p1)])) (fun _ k => XS.bipush (g := (mkF m 2 #[.val (.long p1), .second, .val (.int p2), .unset, .unset] [(.int p2), (.long p1)])) X0.here hx rfl (hb hby at_2) k) ?_
  refine own_st (T' := s₁) (g' := (mkF m 5 #[.val (.long p1), .second, .val (.int p2), .unset, .unset] [(.int (p2 &&& (63 : Int32))), (.long p1)])) (fun _ k => Jvm.Free.XS.iand (g := (mkF m 4 #[.val (.long p1), .second, .val (.int p2), .unset, .unset] [(.int (63 : Int32)), (.int p2), (.long p1)])) X0.here hx rfl (hb hby at_4) rfl k) ?_
  refine own_st (T' := s₁) (g' := (mkF m 6 #[.val (.long p1), .second, .val (.int p2), .unset, .unset] [(.long ((p1 >>> ((p2 &&& (63 : Int32)) &&& 0x3f).toInt64)))])) (fun _ k => Jvm.Free.XS.lshr (g := (mkF m 5 #[.val (.long p1), .second, .val (.int p2), .unset, .unset] [(.int (p2 &&& (63 : Int32))), (.long p1)])) X0.here hx rfl (hb hby at_5) rfl k) ?_
  refine own_st (T' := s₁) (g' := (mkF m 7 #[.val (.long p1), .second, .val (.int p2), .val (.long ((p1 >>> ((p2 &&& (63 : Int32)) &&& 0x3f).toInt64))), .second] [])) (fun _ k => Jvm.Free.XS.lstoreN (g := (mkF m 6 #[.val (.long p1), .second, .val (.int p2), .unset, .unset] [(.long ((p1 >>> ((p2 &&& (63 : Int32)) &&& 0x3f).toInt64)))])) X0.here hx rfl (hb hby at_6) rfl (l' := #[.val (.long p1), .second, .val (.int p2), .val (.long ((p1 >>> ((p2 &&& (63 : Int32)) &&& 0x3f).toInt64))), .second]) rfl k) ?_
  refine own_st (T' := s₁) (g' := (mkF m 8 #[.val (.long p1), .second, .val (.int p2), .val (.long ((p1 >>> ((p2 &&& (63 : Int32)) &&& 0x3f).toInt64))), .second] [(.long ((p1 >>> ((p2 &&& (63 : Int32)) &&& 0x3f).toInt64)))])) (fun _ k => Jvm.Free.XS.lloadN (g := (mkF m 7 #[.val (.long p1), .second, .val (.int p2), .val (.long ((p1 >>> ((p2 &&& (63 : Int32)) &&& 0x3f).toInt64))), .second] [])) X0.here hx rfl (hb hby at_7) rfl k) ?_
  obtain ⟨_, _, ⟨T1, L1, k1, n1⟩, -, X1, ⟨Lc1, hQ1, l1, y1, z1⟩, st1⟩ := Jvm.LawKit.callS X0 hx (y := (⟨"com/example/millrace/millrace/wire/ProtocolWriter", "sizeOfVarlong", "(J)I"⟩ : MethodName)) hown (mvT hZ (hw _ (List.mem_of_getElem? (i := 0) rfl))) (mvT hZ (hw _ (List.mem_of_getElem? (i := 1) rfl))) (mvT hZ (hw _ (List.mem_of_getElem? (i := 2) rfl))) (mvT hZ (hw _ (List.mem_of_getElem? (i := 3) rfl))) (by decide) (backOf (W := 0) (rm1 l Z a0 hw [] ((p1 >>> ((p2 &&& (63 : Int32)) &&& 0x3f).toInt64)) h0 n0 Z0 ) hZ (hw _ (List.mem_of_getElem? (i := 3) rfl)) (hw _ (List.mem_of_getElem? (i := 2) rfl)) (by decide) (by decide)) (g := (mkF m 8 #[.val (.long p1), .second, .val (.int p2), .val (.long ((p1 >>> ((p2 &&& (63 : Int32)) &&& 0x3f).toInt64))), .second] [(.long ((p1 >>> ((p2 &&& (63 : Int32)) &&& 0x3f).toInt64)))])) rfl (by rw [hml]; rfl) (argsL := [(.long ((p1 >>> ((p2 &&& (63 : Int32)) &&& 0x3f).toInt64)))]) (rest := []) (lenOf own_pd0_0 rfl) rfl (by show 2 * 0 + _ ≤ _; exact Nat.le_of_eq rfl) (hb hby at_8) (fun _ _ => ⟨rfl, e0, (by decide : 0 + 0 ≤ _), (by decide : 0 + 0 ≤ _)⟩)
  dsimp only [Pt.U, Pt.locs, Pt.cells, Pt.slots] at X1 l1 y1 z1 st1 hQ1
  subst l1 y1 z1
  obtain ⟨rfl, N1q, e1⟩ := hQ1
  have N1 := Fr.app N0 N1q
  refine own_st (T' := T1) (g' := (mkF m 11 #[.val (.long p1), .second, .val (.int p2), .val (.long ((p1 >>> ((p2 &&& (63 : Int32)) &&& 0x3f).toInt64))), .second] [(.int (own_f1_0 ((p1 >>> ((p2 &&& (63 : Int32)) &&& 0x3f).toInt64))))])) (fun _ k => (st1) _ k) ?_
  refine own_st (T' := T1) (g' := (mkF m 12 #[.val (.long p1), .second, .val (.int p2), .val (.long ((p1 >>> ((p2 &&& (63 : Int32)) &&& 0x3f).toInt64))), .second] [(.long ((p1 >>> ((p2 &&& (63 : Int32)) &&& 0x3f).toInt64))), (.int (own_f1_0 ((p1 >>> ((p2 &&& (63 : Int32)) &&& 0x3f).toInt64))))])) (fun _ k => Jvm.Free.XS.lloadN (g := (mkF m 11 #[.val (.long p1), .second, .val (.int p2), .val (.long ((p1 >>> ((p2 &&& (63 : Int32)) &&& 0x3f).toInt64))), .second] [(.int (own_f1_0 ((p1 >>> ((p2 &&& (63 : Int32)) &&& 0x3f).toInt64))))])) X1.here hx rfl (hb hby at_11) rfl k) ?_
  obtain ⟨_, _, ⟨T2, L2, k2, n2⟩, -, X2, ⟨Lc2, hQ2, l2, y2, z2⟩, st2⟩ := Jvm.LawKit.callS X1 hx (y := (⟨"com/example/millrace/millrace/wire/ProtocolWriterSizeOfVarlongPinLaw", "expected", "(J)I"⟩ : MethodName)) hown (mvT hZ (hw _ (List.mem_of_getElem? (i := 5) rfl))) (mvT hZ (hw _ (List.mem_of_getElem? (i := 6) rfl))) (mvT hZ (hw _ (List.mem_of_getElem? (i := 7) rfl))) (mvT hZ (hw _ (List.mem_of_getElem? (i := 8) rfl))) (by decide) (backOf (W := 1) (rm2 l Z a0 hw [] ((p1 >>> ((p2 &&& (63 : Int32)) &&& 0x3f).toInt64)) h0 n0 Z0 ) hZ (hw _ (List.mem_of_getElem? (i := 8) rfl)) (hw _ (List.mem_of_getElem? (i := 7) rfl)) (by decide) (by decide)) (g := (mkF m 12 #[.val (.long p1), .second, .val (.int p2), .val (.long ((p1 >>> ((p2 &&& (63 : Int32)) &&& 0x3f).toInt64))), .second] [(.long ((p1 >>> ((p2 &&& (63 : Int32)) &&& 0x3f).toInt64))), (.int (own_f1_0 ((p1 >>> ((p2 &&& (63 : Int32)) &&& 0x3f).toInt64))))])) rfl (by rw [hml]; rfl) (argsL := [(.long ((p1 >>> ((p2 &&& (63 : Int32)) &&& 0x3f).toInt64)))]) (rest := [(.int (own_f1_0 ((p1 >>> ((p2 &&& (63 : Int32)) &&& 0x3f).toInt64))))]) (lenOf own_pd0_0 rfl) rfl (by show 2 * 0 + _ ≤ _; exact Nat.le_of_eq rfl) (hb hby at_12) (fun _ _ => ⟨rfl, e1, (by decide : 0 + 0 ≤ _), (by decide : 0 + 0 ≤ _)⟩)
  dsimp only [Pt.U, Pt.locs, Pt.cells, Pt.slots] at X2 l2 y2 z2 st2 hQ2
  subst l2 y2 z2
  obtain ⟨rfl, N2q, e2⟩ := hQ2
  have N2 := Fr.app N1 N2q
  refine own_st (T' := T2) (g' := (mkF m 15 #[.val (.long p1), .second, .val (.int p2), .val (.long ((p1 >>> ((p2 &&& (63 : Int32)) &&& 0x3f).toInt64))), .second] [(.int (own_f2_0 ((p1 >>> ((p2 &&& (63 : Int32)) &&& 0x3f).toInt64)))), (.int (own_f1_0 ((p1 >>> ((p2 &&& (63 : Int32)) &&& 0x3f).toInt64))))])) (fun _ k => (st2) _ k) ?_
  refine own_st (T' := T2) (g' := (mkF m 18 #[.val (.long p1), .second, .val (.int p2), .val (.long ((p1 >>> ((p2 &&& (63 : Int32)) &&& 0x3f).toInt64))), .second] [])) (fun _ k => XS.icmpNo (g := (mkF m 15 #[.val (.long p1), .second, .val (.int p2), .val (.long ((p1 >>> ((p2 &&& (63 : Int32)) &&& 0x3f).toInt64))), .second] [(.int (own_f2_0 ((p1 >>> ((p2 &&& (63 : Int32)) &&& 0x3f).toInt64)))), (.int (own_f1_0 ((p1 >>> ((p2 &&& (63 : Int32)) &&& 0x3f).toInt64))))])) X2.here hx rfl (hb hby at_15) rfl (teq (own_law _)).2 k) ?_
  refine own_st (T' := T2) (g' := (mkF m 19 #[.val (.long p1), .second, .val (.int p2), .val (.long ((p1 >>> ((p2 &&& (63 : Int32)) &&& 0x3f).toInt64))), .second] [(.int (1 : Int32))])) (fun _ k => XS.iconst (g := (mkF m 18 #[.val (.long p1), .second, .val (.int p2), .val (.long ((p1 >>> ((p2 &&& (63 : Int32)) &&& 0x3f).toInt64))), .second] [])) X2.here hx rfl (hb hby at_18) k) ?_
  refine own_st (T' := T2) (g' := (mkF m 23 #[.val (.long p1), .second, .val (.int p2), .val (.long ((p1 >>> ((p2 &&& (63 : Int32)) &&& 0x3f).toInt64))), .second] [(.int (1 : Int32))])) (fun _ k => XS.goto (g := (mkF m 19 #[.val (.long p1), .second, .val (.int p2), .val (.long ((p1 >>> ((p2 &&& (63 : Int32)) &&& 0x3f).toInt64))), .second] [(.int (1 : Int32))])) X2.here hx rfl (pc0 := 19) (pc' := 23) rfl (hb hby at_19) (by decide) (by decide) k) ?_
  exact own_end (Q := Q0 Z p1 p2 h0 n0) (v := some (.int (nar .boolean (1 : Int32)))) X2 (fun h => by rw [Bd.returns] at h; cases h) (fun fs hr => retN X2 hx (t := .boolean) Bd.returns (by simp) (hb hby at_23) hr) (⟨rfl, N2⟩) (by decide) (by decide)
set_option maxRecDepth 65536 in
set_option maxHeartbeats 40000000 in
theorem comes_1 {Post : Tables → Env → Array Value → State → Outcome → State → Prop} (hpost : ∀ tb e args s v u, (limb_1_1.after args s (.returned v) u = true ∧ limb_1_2.after args s (.returned v) u = true ∧ True) → FrameEnd s (.returned v) u (Jvm.fieldLocs frame_1_writes args s ++ Jvm.arrayLocs frame_1_arrays args s ++ Jvm.staticLocs frame_1_statics s) 0 0 → Post tb e args s (.returned v) u) :
    ArmFor flags0 classFile x code maxLocals ret World_1 tables_1 room_1 Calls_1 rest_1 Pre_1 Post := by
  intro l hfl _ _ p e ha hc hk s m args below hf hA hF happ hP
  obtain ⟨hcalls, hrest, hpre⟩ := hP
  obtain ⟨-, -, -, hnamed, -, -, -, hat⟩ := (Spec.applies_iff hf).mp happ
  obtain ⟨hg, hn⟩ := and_e (Cond.before_iff.mp (show (Jvm.Cond.and given_1 narrow_1).before args s = true from hpre))
  obtain ⟨hcount, hg0⟩ := and_e hg
  obtain ⟨ga0, hg1⟩ := and_e hg0
  obtain ⟨w0, w1, rfl⟩ : ∃ w0 w1 : Value, args = #[w0, w1] := by
    have hs : args.size = 2 := by simpa [Cond.value, given_1] using hcount
    obtain ⟨L⟩ := args
    match L, hs with
    | [w0, w1], _ => exact ⟨w0, w1, rfl⟩
  have hw := fun d (hd : d ∈ tables_1) => atoms_spec (ws := Jvm.Cond.code x code maxLocals ret :: tables_1) hat d (List.mem_cons_of_mem _ hd)
  obtain ⟨i0, ei0⟩ := isL_v ga0
  obtain rfl : w0 = (.long i0) := Option.some.inj ei0
  obtain ⟨i1, ei1⟩ := is_v hg1
  obtain rfl : w1 = (.int i1) := Option.some.inj ei1
  obtain ⟨n, o, h1, h2, h3, _, L, rfl, ⟨rfl, N⟩, hq⟩ := rm0 l s _ hw tables_1 i0 i1 s.heap s.heap.size (Nat.le_refl _)  p e ha hc hk s m _ below hf ((Spec.applies_iff_loose hf).mp happ).1 ⟨rfl, State.Warmed39.refl s, rfl⟩ trivial
  refine ⟨n, _, h1, h2, h3, hpost _ _ _ _ _ _ ⟨Cond.after_iff.mpr rfl, Cond.after_iff.mpr (eq_i res_at (Term.int_eval (1)) rfl), trivial⟩ ⟨hq.1, hq.2.1, (hq.2.2.sift fun y hy => Or.inr (N y hy)).mono (by decide) (by decide)⟩⟩
theorem main_1_1 : Claimed_1_1 := comes_1 fun _ _ _ _ _ _ h hF => ⟨h.1, hF⟩
theorem main_1_2 : Claimed_1_2 := comes_1 fun _ _ _ _ _ _ h hF => ⟨h.2.1, hF⟩
end Jvm.Pilot.@@N@@
namespace Jvm.Pilot.@@N@@
open Jvm Jvm.ClassFile Sem Op Lib Jvm.Free Jvm.Stand Jvm.Pilot.@@N@@.Jvm.D
/-! MADE BY PROGRAM (witnessworld.py) out of the Statement's table words and the real class files: 9 classes; the members and pool entries that the words name. The judged class is class 1, her method 2. -/
namespace start1
open Jvm.ClassFile
def u (s : String) : CpInfo := .utf8 (stringToUtf16 s)
/-- a pool by its gaps: so many unusable entries, then the entry; so many at the end -/
def gap : Nat → List CpInfo → List CpInfo
  | 0, r => r
  | n + 1, r => .unusable :: gap n r
def poolList (es : List (Nat × CpInfo)) (last : Nat) : List CpInfo := es.foldr (fun e r => gap e.1 (e.2 :: r)) (gap last [])
def pool (es : List (Nat × CpInfo)) (last : Nat) : Array CpInfo := ⟨poolList es last⟩
def fileOf (pool : Array CpInfo) (this : Nat) (attrs : Array Attribute := #[]) (ms : Array MethodInfo := #[]) (fl : Nat := 33) (sup : Nat := 0) (ifs : Array Nat := #[]) (fds : Array FieldInfo := #[]) : ClassFile where
  minorVersion := 0
  majorVersion := 65
  constantPool := pool
  accessFlags := fl
  thisClass := this
  superClass := sup
  interfaces := ifs
  fields := fds
  methods := ms
  attributes := attrs
def plain (name : String) (sup : Option ClassId) : Class where
  name := name
  kind := .ordinary
  loader := none
  accessFlags := 33
  super := sup
  interfaces := #[]
  cf := none
  fields := #[]
  methods := #[]
  instanceTypes := #[]
  staticTypes := #[]
  resolved := #[]
  callSites := []
  init := .initialized
  statics := none
  mirror := none

def pool0 : Array CpInfo := pool [(5, u "<init>"), (0, u "()V"), (1, .class_ 10), (1, u "java/lang/Object")] 113

def k0m0 : Method := { name := "<init>", desc := "()V", sig := { parameters := [], returnType := none }, accessFlags := 1, code := none }
/-- java/lang/Object -/
def k0 : Class := { plain "java/lang/Object" none with
  accessFlags := 33
  interfaces := #[]
  cf := some (fileOf pool0 8 #[] #[{ accessFlags := 1, nameIndex := 5, descriptorIndex := 6, attributes := #[] }] 33 0 #[] #[])
  fields := #[]
  methods := #[k0m0]
  instanceTypes := #[]
  staticTypes := #[]
  resolved := Array.replicate 124 none
  statics := none }

def pool1 : Array CpInfo := pool [(2, .class_ 4), (1, u "java/lang/Object"), (0, u "<init>"), (0, u "()V"), (0, .long 18446744073709551615), (1, .long 64), (1, .long 8192), (1, .long 1048576), (1, .long 134217728), (1, .long 17179869184), (1, .long 2199023255552), (1, .long 281474976710656), (1, .long 36028797018963968), (1, .long 4611686018427387904), (1, .methodref 28 29), (0, .class_ 30), (0, .nameAndType 31 32), (0, u "com/example/millrace/millrace/wire/ProtocolWriter"), (0, u "sizeOfVarlong"), (0, u "(J)I"), (0, .methodref 34 35), (0, .class_ 36), (0, .nameAndType 37 32), (0, u "com/example/millrace/millrace/wire/ProtocolWriterSizeOfVarlongPinLaw"), (0, u "expected"), (3, u "law"), (0, u "(JI)Z")] 2

def k1m0 : Method := { name := "<init>", desc := "()V", sig := { parameters := [], returnType := none }, accessFlags := 2, code := none }
def k1c1 : Code := { maxStack := 4, maxLocals := 4, code := method_2_code, exceptionTable := #[], attributes := #[] }
def k1m1 : Method := { name := "expected", desc := "(J)I", sig := { parameters := [.long], returnType := some .int }, accessFlags := 10, code := some k1c1 }
def k1c2 : Code := { maxStack := 4, maxLocals := 5, code := code, exceptionTable := #[], attributes := #[] }
def k1m2 : Method := { name := "law", desc := "(JI)Z", sig := { parameters := [.long, .int], returnType := some .boolean }, accessFlags := 9, code := some k1c2 }
/-- com/example/millrace/millrace/wire/ProtocolWriterSizeOfVarlongPinLaw -/
def k1 : Class := { plain "com/example/millrace/millrace/wire/ProtocolWriterSizeOfVarlongPinLaw" (some 0) with
  accessFlags := 49
  interfaces := #[]
  cf := some (fileOf pool1 34 #[] #[{ accessFlags := 2, nameIndex := 5, descriptorIndex := 6, attributes := #[] }, { accessFlags := 10, nameIndex := 37, descriptorIndex := 32, attributes := #[] }, { accessFlags := 9, nameIndex := 41, descriptorIndex := 42, attributes := #[] }] 49 2 #[] #[])
  fields := #[]
  methods := #[k1m0, k1m1, k1m2]
  instanceTypes := #[]
  staticTypes := #[]
  resolved := Array.replicate 45 none
  statics := none }

def pool2 : Array CpInfo := pool [(2, .class_ 4), (1, u "java/lang/Object"), (9, .class_ 16), (1, u "com/example/millrace/millrace/wire/ProtocolWriter"), (0, u "bytes"), (0, u "[B"), (2, u "position"), (0, u "I"), (60, .long 18446744073709551488), (150, u "sizeOfVarlong"), (0, u "(J)I")] 17

def k2c0 : Code := { maxStack := 5, maxLocals := 5, code := prog_128_method_33_code, exceptionTable := #[], attributes := #[] }
def k2m0 : Method := { name := "sizeOfVarlong", desc := "(J)I", sig := { parameters := [.long], returnType := some .int }, accessFlags := 8, code := some k2c0 }
/-- com/example/millrace/millrace/wire/ProtocolWriter -/
def k2 : Class := { plain "com/example/millrace/millrace/wire/ProtocolWriter" (some 0) with
  accessFlags := 49
  interfaces := #[]
  cf := some (fileOf pool2 14 #[] #[{ accessFlags := 8, nameIndex := 234, descriptorIndex := 235, attributes := #[] }] 49 2 #[] #[{ accessFlags := 2, nameIndex := 17, descriptorIndex := 18, attributes := #[] }, { accessFlags := 2, nameIndex := 21, descriptorIndex := 22, attributes := #[] }])
  fields := #[{ name := "bytes", type := (.array .byte), accessFlags := 2, slot := 0, constantValue := 0 }, { name := "position", type := .int, accessFlags := 2, slot := 1, constantValue := 0 }]
  methods := #[k2m0]
  instanceTypes := #[(.array .byte), .int]
  staticTypes := #[]
  resolved := Array.replicate 253 none
  statics := none }

def pool3 : Array CpInfo := pool [(1, u "java/lang/Cloneable"), (0, .class_ 1), (0, u "java/lang/Object"), (0, .class_ 3)] 3

/-- java/lang/Cloneable -/
def k3 : Class := { plain "java/lang/Cloneable" (some 0) with
  accessFlags := 1537
  interfaces := #[]
  cf := some (fileOf pool3 2 #[] #[] 1537 4 #[] #[])
  fields := #[]
  methods := #[]
  instanceTypes := #[]
  staticTypes := #[]
  resolved := Array.replicate 8 none
  statics := none }

def pool4 : Array CpInfo := pool [(1, u "java/io/Serializable"), (0, .class_ 1), (0, u "java/lang/Object"), (0, .class_ 3)] 3

/-- java/io/Serializable -/
def k4 : Class := { plain "java/io/Serializable" (some 0) with
  accessFlags := 1537
  interfaces := #[]
  cf := some (fileOf pool4 2 #[] #[] 1537 4 #[] #[])
  fields := #[]
  methods := #[]
  instanceTypes := #[]
  staticTypes := #[]
  resolved := Array.replicate 8 none
  statics := none }

/-- the primitive byte -/
def k5 : Class := { plain "byte" none with kind := .primitive 'B', accessFlags := 0x411 }
/-- [B -/
def k6 : Class := { plain "[B" (some 0) with kind := .array 5 .byte, interfaces := #[3, 4], accessFlags := 1041 }

/-- the primitive int -/
def k7 : Class := { plain "int" none with kind := .primitive 'I', accessFlags := 0x411 }
/-- [I -/
def k8 : Class := { plain "[I" (some 0) with kind := .array 7 .int, interfaces := #[3, 4], accessFlags := 1041 }

def heap : Heap := #[]
def classes : Array Class := #[k0, k1, k2, k3, k4, k5, k6, k7, k8]
def interned : List (Array UInt16 × Addr) := []
def slotsUsed : Nat := 0
def theMethod : MethodId := ⟨1, 2⟩
def args0 : Array Value := #[.long 5, .int 2]
def aboutOver (below : List Frame) : State where
  vm := { classes := classes, interned := interned.toArray }
  heap := heap
  slotsUsed := slotsUsed
  threads := #[{ frames := .invoking theMethod args0 :: below }]
def below0 : List Frame := [.native { method := ⟨0, 0⟩, args := #[] }]
def about1 : State := aboutOver below0
def p0 : Program := .bare "" "" ""
def e0 : Env := launch0.env 0 0 0
theorem w_frames : about1.frames = Frame.invoking theMethod args0 :: below0 := rfl
set_option maxRecDepth 65536 in
theorem w_args : argsFit about1.vm theMethod args0 = true := by decide +kernel
set_option maxRecDepth 65536 in
theorem w_heap : heapFits about1 = true := by decide +kernel
set_option maxRecDepth 65536 in
theorem w_runnable : about1.curStatus? = some .runnable := by decide +kernel
set_option maxRecDepth 65536 in
theorem w_alone : about1.alone = true := by decide +kernel
set_option maxRecDepth 65536 in
theorem w_named : about1.methodNamed? x = some theMethod := by decide +kernel
set_option maxRecDepth 65536 in
theorem w_hears : about1.hears theMethod below0 = true := by decide +kernel
set_option maxRecDepth 65536 in
theorem w_ripe : about1.ripe theMethod args0 below0 = true := by decide +kernel
theorem w_running : about1.status = .running := rfl
set_option maxRecDepth 65536 in
theorem w_room : about1.hasRoom e0.platform room_1 = true :=
  launch0.hasRoom_least _ room_1 (by decide +kernel) (by decide +kernel) (by decide +kernel) (by decide +kernel) (by decide +kernel) (by decide +kernel)
theorem allAtoms_all (ts : List Jvm.Cond) (a : Array Jvm.Value) (st : Jvm.State) : (allAtoms ts).before a st = ts.all (fun c => c.before a st) := by
  induction ts with
  | nil => rfl
  | cons c t ih =>
    show (Jvm.Cond.and c (allAtoms t)).before a st = _
    rw [Jvm.Cond.before_and, ih, List.all_cons]
def words1 : List Jvm.Cond := Jvm.Cond.code x code maxLocals ret :: tables_1
/-- a 'code' word, met by the world's own term for the bytes: nothing is compared byte by byte -/
theorem code_word {y : MethodName} {bytes : ByteArray} {mx : Nat} {rt : Option FieldType} {a : Array Value} {s : State} {m : MethodId} {meth : Method} {c : Code} (h1 : s.methodNamed? y = some m) (h2 : s.vm.method? m = some meth) (h3 : meth.code = some c) (h4 : c.code = bytes)
    (h5 : (c.maxLocals == mx && c.exceptionTable.isEmpty && decide (c.maxStack ≤ mostOperands) && decide (meth.sig.returnType = rt) && !meth.locks && decide (parseMethodDescriptor y.desc = some meth.sig)) = true) : (Jvm.Cond.code y bytes mx rt).before a s = true := by
  simp only [Bool.and_eq_true, beq_iff_eq, Bool.not_eq_true', decide_eq_true_eq] at h5
  obtain ⟨⟨⟨⟨⟨g1, g2⟩, g3⟩, g4⟩, g5⟩, g6⟩ := h5
  simp [Cond.before, Cond.holds, Cond.value, h1, h2, h3, h4, g1, g2, g3, g4, g5, g6]
def isCode : Jvm.Cond → Bool
  | .code _ _ _ _ => true
  | _ => false
theorem all_split {L : List Jvm.Cond} {P : Jvm.Cond → Bool} (h1 : L.all (fun c => isCode c || P c) = true) (h2 : ∀ c ∈ L.filter isCode, P c = true) : L.all P = true := by
  refine List.all_eq_true.mpr fun c hc => ?_
  have h := List.all_eq_true.mp h1 c hc
  rcases Bool.eq_false_or_eq_true (isCode c) with hi | hi
  · exact h2 c (List.mem_filter.mpr ⟨hc, hi⟩)
  · simpa [hi] using h
set_option maxRecDepth 65536 in
theorem w_c0 : (Jvm.Cond.code x code maxLocals ret).before args0 about1 = true := code_word (m := ⟨1, 2⟩) (meth := k1m2) (c := k1c2) (by decide +kernel) rfl rfl rfl (by decide +kernel)
set_option maxRecDepth 65536 in
theorem w_c1 : (Jvm.Cond.code ({ cls := "com/example/millrace/millrace/wire/ProtocolWriter", name := "sizeOfVarlong", desc := "(J)I" } : Jvm.MethodName) prog_128_method_33_code (5 : Nat) (Option.some Jvm.ClassFile.FieldType.int)).before args0 about1 = true := code_word (m := ⟨2, 0⟩) (meth := k2m0) (c := k2c0) (by decide +kernel) rfl rfl rfl (by decide +kernel)
set_option maxRecDepth 65536 in
theorem w_c2 : (Jvm.Cond.code ({ cls := "com/example/millrace/millrace/wire/ProtocolWriterSizeOfVarlongPinLaw", name := "expected", desc := "(J)I" } : Jvm.MethodName) method_2_code (4 : Nat) (Option.some Jvm.ClassFile.FieldType.int)).before args0 about1 = true := code_word (m := ⟨1, 1⟩) (meth := k1m1) (c := k1c1) (by decide +kernel) rfl rfl rfl (by decide +kernel)
def codes1 : List Jvm.Cond := [Jvm.Cond.code x code maxLocals ret, Jvm.Cond.code ({ cls := "com/example/millrace/millrace/wire/ProtocolWriter", name := "sizeOfVarlong", desc := "(J)I" } : Jvm.MethodName) prog_128_method_33_code (5 : Nat) (Option.some Jvm.ClassFile.FieldType.int), Jvm.Cond.code ({ cls := "com/example/millrace/millrace/wire/ProtocolWriterSizeOfVarlongPinLaw", name := "expected", desc := "(J)I" } : Jvm.MethodName) method_2_code (4 : Nat) (Option.some Jvm.ClassFile.FieldType.int)]
set_option maxRecDepth 65536 in
theorem codes_eq : words1.filter isCode = codes1 := rfl
theorem w_codes : ∀ c ∈ words1.filter isCode, c.before args0 about1 = true := by
  rw [codes_eq]
  intro c hc
  simp only [codes1, List.mem_cons, List.not_mem_nil, or_false] at hc
  rcases hc with rfl | rfl | rfl
  · exact w_c0
  · exact w_c1
  · exact w_c2
set_option maxRecDepth 65536 in
theorem w_t1 : words1.all (fun c => isCode c || c.before args0 about1) = true := by decide +kernel
theorem w_tables : (allAtoms (Jvm.Cond.code x code maxLocals ret :: tables_1)).before args0 about1 = true := by
  rw [allAtoms_all]
  show words1.all (fun c => c.before args0 about1) = true
  refine all_split ?_ w_codes
  rw [w_t1]
set_option maxRecDepth 65536 in
theorem w_case : (Jvm.Cond.and given_1 narrow_1).before args0 about1 = true := by decide +kernel
theorem w_applies : (headSpec (Jvm.Cond.code x code maxLocals ret :: tables_1) room_1).applies x e0.platform about1 = true :=
  (Spec.applies_iff w_frames).mpr ⟨w_running, w_runnable, w_alone, w_named, w_hears, w_ripe, w_room, w_tables⟩
theorem atStart : AtStart classFile x code maxLocals ret World_1 tables_1 room_1 Calls_1 rest_1 Pre_1 launch0 p0 e0 about1 theMethod args0 below0 :=
  ⟨lists_1, trivial, launch0.admits_env _ _ _, launch0.least_env, fairChoices_fair.cas, fairChoices_fair.clock, w_frames, w_args, w_heap, w_applies, trivial, trivial, w_case⟩
end start1
theorem witness_1 : WitnessClaimed_1 := ⟨start1.p0, start1.e0, start1.about1, start1.theMethod, start1.args0, start1.below0, start1.atStart⟩
end Jvm.Pilot.@@N@@
