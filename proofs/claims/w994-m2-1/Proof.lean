import JvmDerived
import JvmDerived.Pilot.@@N@@Statement
import JvmDerived.Pilot.@@N@@Code
set_option linter.unusedVariables false
set_option linter.unusedSimpArgs false
namespace Jvm.RoadKit
open Sem ClassFile Op Lib Jvm.Stand Jvm.Free Jvm.LawKit
section New
variable {p : Program} {l : Launch} {e : Env} {R : Room} {s : State} {m : MethodId} {args : Array Value} {below : List Frame} {meth : Method} {c : Code} {T : State} {locs : List Loc} {cells slots : Nat}
theorem retI (X : Stand p l e R s m args below meth c T locs cells slots) (hx : p.tables.exec = Jvm.exec) {pc : Nat} {Ls : Array Slot} {z : Int32} {rest : List Value} (hret : meth.sig.returnType = some .int) (hd : decode c.code pc = .ok (.ireturn, 1)) {fs : List Frame}
    (hl : ∀ (f : JFrame) (acts : List Action), f.method = m → f.locked = none → f.entered = [] → (doReturn e (T.setTop f) acts (some (.int z))).1 = T.setFrames fs) : Steps p.tables e below (T.setTop (mkF m pc Ls (.int z :: rest))) (T.setFrames fs) := by
  have hm' : T.vm.method? m = some meth := X.method'
  have hn : narrow .int (.int z) = .int z := rfl
  show Steps p.tables e below (T.setTop { method := m, pc := pc, locals := Ls, stack := _ :: rest, locked := none }) _
  jvm_step X.here [X.here.top, hx, hd, hm', hret, hn]
  first | (intro acts; rw [hl _ acts rfl rfl rfl]) | rw [hl _ _ rfl rfl rfl]
  exact Steps.refl _
end New
end Jvm.RoadKit
namespace Jvm.Pilot.@@N@@
open Jvm Jvm.ClassFile Sem Op Lib Jvm.Free Jvm.Stand Jvm.LawKit Jvm.RoadKit Bundle Jvm.Pilot.@@N@@.Jvm.D
/-- the run from here ends well -/
def own_Go (tb : Tables) (e : Env) (below : List Frame) (P : Outcome → State → Prop) (T : State) (f : JFrame) : Prop := ∃ s₂ o, Steps tb e below (T.setTop f) s₂ ∧ s₂.status = .running ∧ Ended s₂ below o ∧ P o s₂
theorem own_go {tb : Tables} {e : Env} {below : List Frame} {P : Outcome → State → Prop} {T T' : State} {f f' : JFrame} (k : ∀ t, Steps tb e below (T'.setTop f') t → Steps tb e below (T.setTop f) t) (h : own_Go tb e below P T' f') : own_Go tb e below P T f := by
  obtain ⟨s₂, o, h1, h2⟩ := h
  exact ⟨s₂, o, k _ h1, h2⟩
theorem own_keep1 {h0 h h' : Heap} {ws : List Addr} {b : Addr} (K : Keep h0 h ws) (K' : Keep h h' [b]) (q : h0.size ≤ b) : Keep h0 h' ws := K.trans K' fun x hx => Or.inr (by cases List.mem_singleton.mp hx; exact q)
theorem own_eqi {a b : Term} {args : Array Value} {first s : State} {o : Option Outcome} {idx : List Nat} {y : Int32} (h : (Jvm.Cond.eq a b).value args first o s idx = some true) (hb : b.eval args first o idx s = some (.int y)) : a.eval args first o idx s = some (.int y) := by
  cases ha : a.eval args first o idx s with
  | none => simp [Cond.value, ha] at h
  | some x => cases x <;> simp [Cond.value, ha, hb] at h; subst h; rfl
theorem own_not1 {a b : Addr} (q : a ≠ b) : a ∉ [b] := fun h => q (List.mem_singleton.mp h)
def own_PW (s : State) (Q : Option Value → Heap → List Loc → Prop) (k n : Nat) (o : Outcome) (U : State) : Prop := ∃ v L, o = .returned v ∧ Q v U.heap L ∧ ReturnedEndW s o U L k n
def own_P (s : State) (Q : Option Value → Heap → List Loc → Prop) (k n : Nat) (o : Outcome) (U : State) : Prop := ∃ v L, o = .returned v ∧ Q v U.heap L ∧ FrameEnd s o U L k n
theorem own_ushrL (x : Int64) (k : Int32) (n : Nat) (hk : (k.toInt64.toUInt64 &&& Int64.toUInt64 63).toBitVec % 64 = BitVec.ofNat 64 n) (hn : n < 64) : (XT.ushrL x k).toBitVec = x.toBitVec >>> n := by
  unfold XT.ushrL
  show (x.toUInt64 >>> (k.toInt64.toUInt64 &&& Int64.toUInt64 63)).toBitVec = _
  rw [UInt64.toBitVec_shiftRight, hk]
  have e : (BitVec.ofNat 64 n).toNat = n := by rw [BitVec.toNat_ofNat]; exact Nat.mod_eq_of_lt (by omega)
  rw [BitVec.ushiftRight_eq', e]
  rfl
theorem own_unxor (z : Int64) (k k2 : Int32) (n : Nat) (h1 : (k.toInt64.toUInt64 &&& Int64.toUInt64 63).toBitVec % 64 = BitVec.ofNat 64 n) (h2 : (k2.toInt64.toUInt64 &&& Int64.toUInt64 63).toBitVec % 64 = BitVec.ofNat 64 (2 * n)) (hn : 2 * n < 64) (h3 : 64 ≤ 3 * n) :
    ((z ^^^ XT.ushrL z k) ^^^ XT.ushrL (z ^^^ XT.ushrL z k) k) ^^^ XT.ushrL (z ^^^ XT.ushrL z k) k2 = z := by
  apply Int64.toBitVec_inj.mp
  simp only [Int64.toBitVec_xor, own_ushrL _ k n h1 (by omega), own_ushrL _ k2 (2*n) h2 hn]
  apply BitVec.eq_of_getLsbD_eq
  intro i hi
  have h : z.toBitVec.getLsbD (n + (2 * n + i)) = false := BitVec.getLsbD_of_ge _ _ (by omega)
  have h' : n + (n + i) = 2 * n + i := by omega
  simp [BitVec.getLsbD_xor, BitVec.getLsbD_ushiftRight, h, h']
def own_m1 (z : Int64) : Int64 := (z ^^^ XT.ushrL z 30) * -4658895280553007687
def own_m2 (z : Int64) : Int64 := (z ^^^ XT.ushrL z 27) * -7723592293110705685
def own_m3 (z : Int64) : Int64 := z ^^^ XT.ushrL z 31
theorem own_inv1 : (-4658895280553007687 : Int64) * -7575587736534282103 = 1 := by decide
theorem own_inv2 : (-7723592293110705685 : Int64) * 3573116690164977347 = 1 := by decide
def own_mix (z : Int64) : Int64 := own_m3 (own_m2 (own_m1 z))
theorem own_div {a b : Int64} (ha : 0 ≤ a.toInt) (hb : 0 < b.toInt) : (a / b).toInt = a.toInt / b.toInt := by
  have h1 := a.toInt_lt
  have e : a.toInt.tdiv b.toInt = a.toInt / b.toInt := Int.tdiv_eq_ediv_of_nonneg ha
  have q0 : 0 ≤ a.toInt / b.toInt := Int.ediv_nonneg ha (Int.le_of_lt hb)
  have q1 : a.toInt / b.toInt ≤ a.toInt := Int.ediv_le_self _ ha
  rw [Int64.toInt_div, e, Int.bmod_eq_of_le] <;> omega
theorem own_rem {a b : Int64} (ha : 0 ≤ a.toInt) (hb : 0 < b.toInt) : (a - a / b * b).toInt = a.toInt % b.toInt := by
  have h1 := a.toInt_lt
  have d := own_div ha hb
  have q : b.toInt * (a.toInt / b.toInt) + a.toInt % b.toInt = a.toInt := Int.mul_ediv_add_emod _ _
  have r0 := Int.emod_nonneg a.toInt (Int.ne_of_gt hb)
  have p0 : 0 ≤ b.toInt * (a.toInt / b.toInt) := Int.mul_nonneg (Int.le_of_lt hb) (Int.ediv_nonneg ha (Int.le_of_lt hb))
  have m : (a / b * b).toInt = b.toInt * (a.toInt / b.toInt) := by
    rw [Int64.toInt_mul, d, Int.mul_comm, Int.bmod_eq_of_le] <;> omega
  rw [Int64.toInt_sub, m, Int.bmod_eq_of_le] <;> omega
theorem own_quo {a b : Int64} (ha : 0 ≤ a.toInt) (hb : 0 < b.toInt) : (a / b * b).toInt = a.toInt - a.toInt % b.toInt := by
  have h1 := a.toInt_lt
  have d := own_div ha hb
  have q : b.toInt * (a.toInt / b.toInt) + a.toInt % b.toInt = a.toInt := Int.mul_ediv_add_emod _ _
  have r0 := Int.emod_nonneg a.toInt (Int.ne_of_gt hb)
  have p0 : 0 ≤ b.toInt * (a.toInt / b.toInt) := Int.mul_nonneg (Int.le_of_lt hb) (Int.ediv_nonneg ha (Int.le_of_lt hb))
  rw [Int64.toInt_mul, d, Int.mul_comm, Int.bmod_eq_of_le] <;> omega
theorem own_maxI : (9223372036854775807 : Int64).toInt = 9223372036854775807 := by decide
def own_rm (a : Int64) (s : Int32) : Int64 := a - a / s.toInt64 * s.toInt64
def own_exc (s : Int32) : Int64 := own_rm (own_rm 9223372036854775807 s + 1) s
def own_lim (s : Int32) : Int64 := 9223372036854775807 - own_exc s
def own_acc (d : Int64) (s : Int32) : Int32 := if own_rm 9223372036854775807 s = (s - 1).toInt64 then 1 else if d < 9223372036854775807 / s.toInt64 * s.toInt64 then 1 else 0
theorem own_i64 (x : Int32) : x.toInt64.toInt = x.toInt := by simp
theorem own_oneI : (1 : Int64).toInt = 1 := by decide
theorem own_lim_eq {s : Int32} (hs : 2 ≤ s.toInt) : (own_lim s).toInt = if (9223372036854775807 : Int) % s.toInt = s.toInt - 1 then 9223372036854775807 else 9223372036854775807 - 9223372036854775807 % s.toInt - 1 := by
  have h31 := s.toInt_lt
  have e := own_i64 s
  have r := own_rem (a := 9223372036854775807) (b := s.toInt64) (by rw [own_maxI]; decide) (by omega)
  rw [own_maxI, e] at r
  have r0 := Int.emod_nonneg (9223372036854775807 : Int) (b := s.toInt) (by omega)
  have r1 := Int.emod_lt_of_pos (9223372036854775807 : Int) (b := s.toInt) (by omega)
  have a1 : (own_rm 9223372036854775807 s + 1).toInt = 9223372036854775807 % s.toInt + 1 := by
    rw [Int64.toInt_add, own_oneI]; unfold own_rm; rw [r, Int.bmod_eq_of_le] <;> omega
  have x := own_rem (a := own_rm 9223372036854775807 s + 1) (b := s.toInt64) (by rw [a1]; omega) (by omega)
  rw [a1, e] at x
  have x' : (own_exc s).toInt = (9223372036854775807 % s.toInt + 1) % s.toInt := x
  generalize (9223372036854775807 : Int) % s.toInt = q at *
  unfold own_lim
  by_cases h : q = s.toInt - 1
  · rw [if_pos h]
    have : (q + 1) % s.toInt = 0 := by rw [h, Int.sub_add_cancel]; exact Int.emod_self
    rw [Int64.toInt_sub, own_maxI, x', this]; rfl
  · rw [if_neg h]
    have : (q + 1) % s.toInt = q + 1 := Int.emod_eq_of_lt (by omega) (by omega)
    rw [Int64.toInt_sub, own_maxI, x', this, Int.bmod_eq_of_le] <;> omega
theorem own_pred32 {s : Int32} (hs : 2 ≤ s.toInt) : (s - 1).toInt64.toInt = s.toInt - 1 := by
  have h31 := s.toInt_lt
  rw [own_i64, Int32.toInt_sub, show (1 : Int32).toInt = 1 from by decide, Int.bmod_eq_of_le] <;> omega
theorem own_acc_iff {s : Int32} (hs : 2 ≤ s.toInt) {d : Int64} : own_acc d s = 0 ↔ own_lim s < d := by
  have h31 := s.toInt_lt
  have hd := d.toInt_lt
  have e := own_i64 s
  have r := own_rem (a := 9223372036854775807) (b := s.toInt64) (by rw [own_maxI]; decide) (by omega)
  have q := own_quo (a := 9223372036854775807) (b := s.toInt64) (by rw [own_maxI]; decide) (by omega)
  rw [own_maxI, e] at r q
  have r' : (own_rm 9223372036854775807 s).toInt = 9223372036854775807 % s.toInt := r
  rw [Int64.lt_iff_toInt_lt, own_lim_eq hs]
  have c1 : own_rm 9223372036854775807 s = (s - 1).toInt64 ↔ (9223372036854775807 : Int) % s.toInt = s.toInt - 1 := by rw [← Int64.toInt_inj, r', own_pred32 hs]
  have c2 : d < 9223372036854775807 / s.toInt64 * s.toInt64 ↔ d.toInt < 9223372036854775807 - 9223372036854775807 % s.toInt := by rw [Int64.lt_iff_toInt_lt, q]
  unfold own_acc
  simp only [c1, c2]
  generalize (9223372036854775807 : Int) % s.toInt = w at *
  by_cases h : w = s.toInt - 1
  · simp only [if_pos h]; constructor
    · intro z; exact absurd z (by decide)
    · intro z; omega
  · simp only [if_neg h]
    by_cases k : d.toInt < 9223372036854775807 - w
    · simp only [if_pos k]; constructor
      · intro z; exact absurd z (by decide)
      · intro z; omega
    · simp only [if_neg k]; constructor
      · intro _; omega
      · intro _; trivial
def own_face (d : Int64) (s : Int32) : Int32 := (own_rm d s).toInt32 + 1
theorem own_face_in {s : Int32} (hs : 2 ≤ s.toInt) {d : Int64} (hd : 0 ≤ d.toInt) : ¬ own_face d s < 1 ∧ ¬ s < own_face d s := by
  have h31 := s.toInt_lt
  have e := own_i64 s
  have r := own_rem (a := d) (b := s.toInt64) hd (by omega)
  rw [e] at r
  have r' : (own_rm d s).toInt = d.toInt % s.toInt := r
  have r0 := Int.emod_nonneg d.toInt (b := s.toInt) (by omega)
  have r1 := Int.emod_lt_of_pos d.toInt (b := s.toInt) (by omega)
  have a : (own_rm d s).toInt32.toInt = d.toInt % s.toInt := by
    rw [Int64.toInt_toInt32, r', Int.bmod_eq_of_le] <;> omega
  have f : (own_face d s).toInt = d.toInt % s.toInt + 1 := by
    unfold own_face
    rw [Int32.toInt_add, a, show (1 : Int32).toInt = 1 from by decide, Int.bmod_eq_of_le] <;> omega
  rw [Int32.lt_iff_toInt_lt, Int32.lt_iff_toInt_lt, f, show (1 : Int32).toInt = 1 from by decide]
  omega
theorem own_least (P : Nat → Prop) (h : ∃ n, P n) : ∃ n, P n ∧ ∀ m, m < n → ¬ P m := by
  obtain ⟨n, hn⟩ := h
  induction n using Nat.strongRecOn with
  | ind n ih =>
    by_cases q : ∃ m, m < n ∧ P m
    · obtain ⟨m, hm, hp⟩ := q; exact ih m hm hp
    · exact ⟨n, hn, fun m hm hp => q ⟨m, hm, hp⟩⟩
def own_st (w : Int64) : Nat → Int64
  | 0 => w
  | k + 1 => own_st w k + -7046029254386353131
def own_draw (w : Int64) (k : Nat) : Int64 := XT.ushrL (own_mix (own_st w k)) 1
theorem own_draw_nn (w : Int64) (k : Nat) : 0 ≤ (own_draw w k).toInt := by
  unfold own_draw
  have e := own_ushrL (own_mix (own_st w k)) 1 1 (by decide) (by decide)
  have : (XT.ushrL (own_mix (own_st w k)) 1).toBitVec.msb = false := by
    rw [e, BitVec.msb_ushiftRight]; simp
  exact BitVec.toInt_nonneg_of_msb_false this
theorem own_st_eq (w : Int64) : ∀ k, own_st w k = w + Int64.ofNat k * -7046029254386353131
  | 0 => by simp [own_st]
  | k + 1 => by
    rw [own_st, own_st_eq w k]
    have : Int64.ofNat (k + 1) = Int64.ofNat k + 1 := by
      apply Int64.toBitVec_inj.mp
      show BitVec.ofNat 64 (k + 1) = BitVec.ofNat 64 k + BitVec.ofNat 64 1
      rw [BitVec.ofNat_add_ofNat]
    rw [this, Int64.add_mul, Int64.one_mul, Int64.add_assoc]
theorem own_hit (w : Int64) : ∃ k, 1 ≤ k ∧ own_st w k = 0 := by
  refine ⟨(-w * -1018231460777725123).toBitVec.toNat + 2 ^ 64, by omega, ?_⟩
  have e : Int64.ofNat ((-w * -1018231460777725123).toBitVec.toNat + 2 ^ 64) = -w * -1018231460777725123 := by
    apply Int64.toBitVec_inj.mp
    show BitVec.ofNat 64 ((-w * -1018231460777725123).toBitVec.toNat + 2 ^ 64) = _
    apply BitVec.eq_of_toNat_eq
    rw [BitVec.toNat_ofNat, Nat.add_mod_right]
    exact Nat.mod_eq_of_lt (BitVec.isLt _)
  rw [own_st_eq, e, Int64.mul_assoc, show (-1018231460777725123 : Int64) * -7046029254386353131 = 1 from by decide, Int64.mul_one, Int64.add_right_neg]
theorem own_lim_nn {s : Int32} (hs : 2 ≤ s.toInt) : 0 ≤ (own_lim s).toInt := by
  have h31 := s.toInt_lt
  have r1 := Int.emod_lt_of_pos (9223372036854775807 : Int) (b := s.toInt) (by omega)
  rw [own_lim_eq hs]; split <;> omega
theorem own_first {s : Int32} (hs : 2 ≤ s.toInt) (w : Int64) : ∃ K, (1 ≤ K ∧ ¬ own_lim s < own_draw w K) ∧ ∀ j, j < K → ¬ (1 ≤ j ∧ ¬ own_lim s < own_draw w j) := by
  apply own_least (fun K => 1 ≤ K ∧ ¬ own_lim s < own_draw w K)
  obtain ⟨k, h1, h0⟩ := own_hit w
  refine ⟨k, h1, ?_⟩
  unfold own_draw
  rw [h0, show XT.ushrL (own_mix 0) 1 = 0 from by decide +kernel, Int64.lt_iff_toInt_lt, Int64.toInt_zero]
  have := own_lim_nn hs; omega
theorem own_sides (x : Int32) : 2 ≤ ((2 : Int32) + ((x &&& 2147483647) % 2147483646)).toInt := by
  have h1 : (x &&& 2147483647).toBitVec.toNat ≤ (2147483647 : Int32).toBitVec.toNat := by rw [Int32.toBitVec_and, BitVec.toNat_and]; exact Nat.and_le_right
  have e2 : (2147483647 : Int32).toBitVec.toNat = 2147483647 := by decide
  have e1 : (x &&& 2147483647).toInt = (x &&& 2147483647).toBitVec.toNat := BitVec.toInt_eq_toNat_of_lt (by omega)
  have m : ((x &&& 2147483647) % 2147483646).toInt = (x &&& 2147483647).toInt % 2147483646 := by
    rw [Int32.toInt_mod, show (2147483646 : Int32).toInt = 2147483646 from by decide]
    exact Int.tmod_eq_emod_of_nonneg (by omega)
  have r0 := Int.emod_nonneg (x &&& 2147483647).toInt (b := 2147483646) (by omega)
  have r1 := Int.emod_lt_of_pos (x &&& 2147483647).toInt (b := 2147483646) (by omega)
  rw [Int32.toInt_add, m, show (2 : Int32).toInt = 2 from by decide, Int.bmod_eq_of_le] <;> omega
theorem own_nz {s : Int32} (hs : 2 ≤ s.toInt) : s.toInt64 ≠ 0 := fun q => by
  have := congrArg Int64.toInt q
  rw [own_i64, Int64.toInt_zero] at this; omega
theorem own_K1 {s : Int32} (hs : 2 ≤ s.toInt) {w : Int64} {K : Nat} (h1 : 1 ≤ K) (hm : ∀ j, j < K → ¬ (1 ≤ j ∧ ¬ own_lim s < own_draw w j)) (hA : ¬ own_acc (own_draw w 1) s = 0) : K = 1 :=
  Nat.le_antisymm (Nat.not_lt.mp fun q => hm 1 q ⟨Nat.le_refl _, fun z => hA ((own_acc_iff hs).mpr z)⟩) h1
theorem own_K2 {s : Int32} (hs : 2 ≤ s.toInt) {w : Int64} {K : Nat} (h1 : 1 ≤ K) (hK : ¬ own_lim s < own_draw w K) (hm : ∀ j, j < K → ¬ (1 ≤ j ∧ ¬ own_lim s < own_draw w j)) (hA : own_acc (own_draw w 1) s = 0) (hB : ¬ own_acc (own_draw w 2) s = 0) : K = 2 := by
  have a : ¬ 2 < K := fun q => hm 2 q ⟨by decide, fun z => hB ((own_acc_iff hs).mpr z)⟩
  have b : K ≠ 1 := fun q => hK (q ▸ (own_acc_iff hs).mp hA)
  omega
def own_it (a x : Int64) : Int64 := x * (2 - a * x)
def own_inv (a : Int64) : Int64 := own_it a (own_it a (own_it a (own_it a (own_it a a))))
theorem d3_0 : decode prog_96_method_1_code 0 = .ok (.aload_n 0, 1) := by decide +kernel
theorem d3_1 : decode prog_96_method_1_code 1 = .ok (.invokespecial 1, 3) := by decide +kernel
theorem d3_4 : decode prog_96_method_1_code 4 = .ok (.aload_n 0, 1) := by decide +kernel
theorem d3_5 : decode prog_96_method_1_code 5 = .ok (.lload_n 1, 1) := by decide +kernel
theorem d3_6 : decode prog_96_method_1_code 6 = .ok (.putfield 7, 3) := by decide +kernel
theorem d3_9 : decode prog_96_method_1_code 9 = .ok (.return_, 1) := by decide +kernel
theorem pn_0 : plainName "com/example/gunline/gunline/core/SeededDice" = true := by first | (simp [plainName, overriddenIn]; done) | decide +kernel
theorem ef_3 (m : MethodId) {a1 : Addr} {q2 : Int64} : entryFrame m #[(.ref a1), (.long q2)] 3 = mkF m 0 #[.val (.ref a1), .val (.long q2), .second] [] := by first | (simp [entryFrame, mkF, argsToLocals, Value.category]; done) | rfl
def Q3 (Z : State) (a1 : Addr) (q2 : Int64) (u : Value) (h0 : Heap) (n0 : Nat) (v : Option Value) (h : Heap) (L : List Loc) : Prop := v = none ∧ Fr n0 L ∧ Keep h0 h [a1] ∧ Exa Z h a1 "com/example/gunline/gunline/core/SeededDice" ∧ Fld Z h a1 "com/example/gunline/gunline/core/SeededDice" "state" "J" (.long q2)
set_option maxRecDepth 65536 in
set_option maxHeartbeats 40000000 in
theorem rm3 (l : Launch) (Z : State) (a0 : Array Value) (hw : ∀ d ∈ tables_1, d.before a0 Z = true) (ws : List Jvm.Cond) (a1 : Addr) (q2 : Int64) (u : Value) (h0 : Heap) (n0 : Nat) (Z0 : n0 ≤ h0.size) (F : Fld Z h0 a1 "com/example/gunline/gunline/core/SeededDice" "state" "J" u) (Ex : Exa Z h0 a1 "com/example/gunline/gunline/core/SeededDice") (g : n0 ≤ a1) :
    MetFree l (⟨"com/example/gunline/gunline/core/SeededDice", "<init>", "(J)V"⟩ : MethodName) (head1 (Jvm.Cond.code (⟨"com/example/gunline/gunline/core/SeededDice", "<init>", "(J)V"⟩ : MethodName) prog_96_method_1_code 3 none :: ws) ({ frames := 1, cells := 0, slots := 0, locals := 12 } : Room)) (fun a U => a = #[(.ref a1), (.long q2)] ∧ Z.Warmed39 U.vm ∧ U.heap = h0) (fun _ _ _ _ _ => True) (fun _ U o U' => ∃ v L, o = .returned v ∧ Q3 Z a1 q2 u h0 n0 v U'.heap L ∧ FrameEnd U o U' L (({ frames := 1, cells := 0, slots := 0, locals := 12 } : Room)).cells (({ frames := 1, cells := 0, slots := 0, locals := 12 } : Room)).slots) := by
  refine MetFree.of_bodySF (plainFor_of_name pn_0) hisR ?_
  intro p e s m args below meth c s₁ Bd hml0 hP hK
  obtain ⟨rfl, hZ, hh⟩ := hP
  have hx := Bd.exec
  have hby := Bd.bytes
  have hml : c.maxLocals = 3 := hml0
  have hown : s.vm.findClass "com/example/gunline/gunline/core/SeededDice" = some m.cls := findClass_of_methodNamed Bd.named
  have hnm := (name_of_methodNamed Bd.named Bd.method).1
  have X0 : Stand p l e ({ frames := 1, cells := 0, slots := 0, locals := 12 } : Room) s m #[(.ref a1), (.long q2)] below meth c s₁ [] 0 0 := Stand.of_body Bd
  have e0 : s₁.heap = h0 := by rw [← hh, Bd.state]; rfl
  have N0 := Fr.nil n0
  show own_Go p.tables e below (own_P s (Q3 Z a1 q2 u h0 n0) ({ frames := 1, cells := 0, slots := 0, locals := 12 } : Room).cells ({ frames := 1, cells := 0, slots := 0, locals := 12 } : Room).slots) s₁ _
  rw [ef_3]
  show own_Go p.tables e below _ s₁ (mkF m 0 #[.val (.ref a1), .val (.long q2), .second] [])
  refine own_go (fun tz kz => XS.aloadN X0.here hx rfl (hb hby d3_0) rfl rfl kz) ?_
  show own_Go p.tables e below _ s₁ (mkF m 1 #[.val (.ref a1), .val (.long q2), .second] [(.ref a1)])
  obtain ⟨T1, X1, e1, st1⟩ := initO X0 hx hZ hown (hw _ (List.mem_of_getElem? (i := 22) rfl)) (hw _ (List.mem_of_getElem? (i := 23) rfl)) (hw _ (List.mem_of_getElem? (i := 24) rfl)) e0 (g := (mkF m 1 #[.val (.ref a1), .val (.long q2), .second] [(.ref a1)])) rfl (by rw [hml]; rfl) rfl (hb hby d3_1) (by decide) (W := 0) (by show 2 * 0 + _ ≤ _; exact Nat.le_of_eq rfl) (by decide)
  refine own_go st1 ?_
  show own_Go p.tables e below _ T1 (mkF m 4 #[.val (.ref a1), .val (.long q2), .second] [])
  refine own_go (fun tz kz => XS.aloadN X1.here hx rfl (hb hby d3_4) rfl rfl kz) ?_
  show own_Go p.tables e below _ T1 (mkF m 5 #[.val (.ref a1), .val (.long q2), .second] [(.ref a1)])
  refine own_go (fun tz kz => XT.lloadN X1.here hx rfl (hb hby d3_5) rfl kz) ?_
  show own_Go p.tables e below _ T1 (mkF m 6 #[.val (.ref a1), .val (.long q2), .second] [(.long q2), (.ref a1)])
  obtain ⟨T2, h2, X2, e2, W2, st2⟩ := putF X1 hx hZ hown (host := "") (Or.inl (hw _ (List.mem_of_getElem? (i := 25) rfl))) Via.refl e1 F Ex (Or.inl (hw _ (List.mem_of_getElem? (i := 26) rfl))) (hw _ (List.mem_of_getElem? (i := 17) rfl)) (ty := .long) (by decide) rfl rfl (g := (mkF m 6 #[.val (.ref a1), .val (.long q2), .second] [(.long q2), (.ref a1)])) rfl rfl (hb hby d3_6)
  have Fw2 := F.same W2
  have N2 := Fr.snoc X2 N0 g
  refine own_go st2 ?_
  show own_Go p.tables e below _ T2 (mkF m 9 #[.val (.ref a1), .val (.long q2), .second] [])
  obtain ⟨fs, hr, hrun, hended, hW, hsame⟩ := X2.leave (v := none) (fun _ => rfl) (BodyLoose.notSynchronized Bd)
  refine ⟨_, _, ?_, hrun, hended, _, _, rfl, ?_, ⟨_, rfl⟩, hW, hsame.mono (by decide) (by decide)⟩
  · exact X2.returnOut hx Bd.returns (hb hby d3_9) hr
  · show Q3 Z a1 q2 u h0 n0 _ T2.heap _
    rw [e2]
    exact ⟨rfl, N2, (Keep.refl _ _).wr W2 (Or.inl (List.mem_of_getElem? (i := 0) rfl)), Ex.wr W2, Fw2⟩
theorem d6_0 : decode prog_96_method_2_code 0 = .ok (.aload_n 0, 1) := by decide +kernel
theorem d6_1 : decode prog_96_method_2_code 1 = .ok (.dup, 1) := by decide +kernel
theorem d6_2 : decode prog_96_method_2_code 2 = .ok (.getfield 7, 3) := by decide +kernel
theorem d6_5 : decode prog_96_method_2_code 5 = .ok (.ldc2_w 13, 3) := by decide +kernel
theorem d6_8 : decode prog_96_method_2_code 8 = .ok (.ladd, 1) := by decide +kernel
theorem d6_9 : decode prog_96_method_2_code 9 = .ok (.putfield 7, 3) := by decide +kernel
theorem d6_12 : decode prog_96_method_2_code 12 = .ok (.aload_n 0, 1) := by decide +kernel
theorem d6_13 : decode prog_96_method_2_code 13 = .ok (.getfield 7, 3) := by decide +kernel
theorem d6_16 : decode prog_96_method_2_code 16 = .ok (.lstore_n 1, 1) := by decide +kernel
theorem d6_17 : decode prog_96_method_2_code 17 = .ok (.lload_n 1, 1) := by decide +kernel
theorem d6_18 : decode prog_96_method_2_code 18 = .ok (.lload_n 1, 1) := by decide +kernel
theorem d6_19 : decode prog_96_method_2_code 19 = .ok (.bipush 30, 2) := by decide +kernel
theorem d6_21 : decode prog_96_method_2_code 21 = .ok (.lushr, 1) := by decide +kernel
theorem d6_22 : decode prog_96_method_2_code 22 = .ok (.lxor, 1) := by decide +kernel
theorem d6_23 : decode prog_96_method_2_code 23 = .ok (.ldc2_w 15, 3) := by decide +kernel
theorem d6_26 : decode prog_96_method_2_code 26 = .ok (.lmul, 1) := by decide +kernel
theorem d6_27 : decode prog_96_method_2_code 27 = .ok (.lstore_n 1, 1) := by decide +kernel
theorem d6_28 : decode prog_96_method_2_code 28 = .ok (.lload_n 1, 1) := by decide +kernel
theorem d6_29 : decode prog_96_method_2_code 29 = .ok (.lload_n 1, 1) := by decide +kernel
theorem d6_30 : decode prog_96_method_2_code 30 = .ok (.bipush 27, 2) := by decide +kernel
theorem d6_32 : decode prog_96_method_2_code 32 = .ok (.lushr, 1) := by decide +kernel
theorem d6_33 : decode prog_96_method_2_code 33 = .ok (.lxor, 1) := by decide +kernel
theorem d6_34 : decode prog_96_method_2_code 34 = .ok (.ldc2_w 17, 3) := by decide +kernel
theorem d6_37 : decode prog_96_method_2_code 37 = .ok (.lmul, 1) := by decide +kernel
theorem d6_38 : decode prog_96_method_2_code 38 = .ok (.lstore_n 1, 1) := by decide +kernel
theorem d6_39 : decode prog_96_method_2_code 39 = .ok (.lload_n 1, 1) := by decide +kernel
theorem d6_40 : decode prog_96_method_2_code 40 = .ok (.lload_n 1, 1) := by decide +kernel
theorem d6_41 : decode prog_96_method_2_code 41 = .ok (.bipush 31, 2) := by decide +kernel
theorem d6_43 : decode prog_96_method_2_code 43 = .ok (.lushr, 1) := by decide +kernel
theorem d6_44 : decode prog_96_method_2_code 44 = .ok (.lxor, 1) := by decide +kernel
theorem d6_45 : decode prog_96_method_2_code 45 = .ok (.lreturn, 1) := by decide +kernel
theorem ef_6 (m : MethodId) {a1 : Addr} : entryFrame m #[(.ref a1)] 3 = mkF m 0 #[.val (.ref a1), .unset, .unset] [] := by first | (simp [entryFrame, mkF, argsToLocals, Value.category]; done) | rfl
def Q6 (Z : State) (a1 : Addr) (w : Int64) (h0 : Heap) (n0 : Nat) (v : Option Value) (h : Heap) (L : List Loc) : Prop := v = some (.long (own_mix (w + -7046029254386353131))) ∧ Fr n0 L ∧ Keep h0 h [a1] ∧ Exa Z h a1 "com/example/gunline/gunline/core/SeededDice" ∧ Fld Z h a1 "com/example/gunline/gunline/core/SeededDice" "state" "J" (.long (w + -7046029254386353131))
set_option maxRecDepth 65536 in
set_option maxHeartbeats 40000000 in
theorem rm6 (l : Launch) (Z : State) (a0 : Array Value) (hw : ∀ d ∈ tables_1, d.before a0 Z = true) (ws : List Jvm.Cond) (a1 : Addr) (w : Int64) (h0 : Heap) (n0 : Nat) (Z0 : n0 ≤ h0.size) (F : Fld Z h0 a1 "com/example/gunline/gunline/core/SeededDice" "state" "J" (.long w)) (Ex : Exa Z h0 a1 "com/example/gunline/gunline/core/SeededDice") (g : n0 ≤ a1) :
    MetFree l (⟨"com/example/gunline/gunline/core/SeededDice", "next", "()J"⟩ : MethodName) (head1 (Jvm.Cond.code (⟨"com/example/gunline/gunline/core/SeededDice", "next", "()J"⟩ : MethodName) prog_96_method_2_code 3 (some .long) :: ws) ({ frames := 0, cells := 0, slots := 0, locals := 0 } : Room)) (fun a U => a = #[(.ref a1)] ∧ Z.Warmed39 U.vm ∧ U.heap = h0) (fun _ _ _ _ _ => True) (fun _ U o U' => ∃ v L, o = .returned v ∧ Q6 Z a1 w h0 n0 v U'.heap L ∧ FrameEnd U o U' L (({ frames := 0, cells := 0, slots := 0, locals := 0 } : Room)).cells (({ frames := 0, cells := 0, slots := 0, locals := 0 } : Room)).slots) := by
  refine MetFree.of_bodySF (plainFor_of_name pn_0) hisR ?_
  intro p e s m args below meth c s₁ Bd hml0 hP hK
  obtain ⟨rfl, hZ, hh⟩ := hP
  have hx := Bd.exec
  have hby := Bd.bytes
  have hml : c.maxLocals = 3 := hml0
  have hown : s.vm.findClass "com/example/gunline/gunline/core/SeededDice" = some m.cls := findClass_of_methodNamed Bd.named
  have hnm := (name_of_methodNamed Bd.named Bd.method).1
  have X0 : Stand p l e ({ frames := 0, cells := 0, slots := 0, locals := 0 } : Room) s m #[(.ref a1)] below meth c s₁ [] 0 0 := Stand.of_body Bd
  have e0 : s₁.heap = h0 := by rw [← hh, Bd.state]; rfl
  have N0 := Fr.nil n0
  show own_Go p.tables e below (own_P s (Q6 Z a1 w h0 n0) ({ frames := 0, cells := 0, slots := 0, locals := 0 } : Room).cells ({ frames := 0, cells := 0, slots := 0, locals := 0 } : Room).slots) s₁ _
  rw [ef_6]
  show own_Go p.tables e below _ s₁ (mkF m 0 #[.val (.ref a1), .unset, .unset] [])
  refine own_go (fun tz kz => XS.aloadN X0.here hx rfl (hb hby d6_0) rfl rfl kz) ?_
  show own_Go p.tables e below _ s₁ (mkF m 1 #[.val (.ref a1), .unset, .unset] [(.ref a1)])
  refine own_go (fun tz kz => XS.dup X0.here hx rfl (hb hby d6_1) rfl rfl kz) ?_
  show own_Go p.tables e below _ s₁ (mkF m 2 #[.val (.ref a1), .unset, .unset] [(.ref a1), (.ref a1)])
  obtain ⟨T1, X1, e1, st1⟩ := getF X0 hx hZ hown (host := "") (Or.inl (hw _ (List.mem_of_getElem? (i := 25) rfl))) Via.refl e0 F (g := (mkF m 2 #[.val (.ref a1), .unset, .unset] [(.ref a1), (.ref a1)])) rfl rfl (hb hby d6_2)
  refine own_go st1 ?_
  show own_Go p.tables e below _ T1 (mkF m 5 #[.val (.ref a1), .unset, .unset] [(.long w), (.ref a1)])
  refine own_go (fun tz kz => X1.ldc2J hx hown (mvT hZ (hw _ (List.mem_of_getElem? (i := 38) rfl))) rfl (hb hby d6_5) kz) ?_
  show own_Go p.tables e below _ T1 (mkF m 8 #[.val (.ref a1), .unset, .unset] [(.long (-7046029254386353131 : Int64)), (.long w), (.ref a1)])
  refine own_go (fun tz kz => XT.ladd X1.here hx rfl (hb hby d6_8) rfl kz) ?_
  show own_Go p.tables e below _ T1 (mkF m 9 #[.val (.ref a1), .unset, .unset] [(.long (w + (-7046029254386353131 : Int64))), (.ref a1)])
  obtain ⟨T2, h2, X2, e2, W2, st2⟩ := putF X1 hx hZ hown (host := "") (Or.inl (hw _ (List.mem_of_getElem? (i := 25) rfl))) Via.refl e1 F Ex (Or.inl (hw _ (List.mem_of_getElem? (i := 26) rfl))) (hw _ (List.mem_of_getElem? (i := 17) rfl)) (ty := .long) (by decide) rfl rfl (g := (mkF m 9 #[.val (.ref a1), .unset, .unset] [(.long (w + (-7046029254386353131 : Int64))), (.ref a1)])) rfl rfl (hb hby d6_9)
  have Fw2 := F.same W2
  have N2 := Fr.snoc X2 N0 g
  refine own_go st2 ?_
  show own_Go p.tables e below _ T2 (mkF m 12 #[.val (.ref a1), .unset, .unset] [])
  refine own_go (fun tz kz => XS.aloadN X2.here hx rfl (hb hby d6_12) rfl rfl kz) ?_
  show own_Go p.tables e below _ T2 (mkF m 13 #[.val (.ref a1), .unset, .unset] [(.ref a1)])
  obtain ⟨T3, X3, e3, st3⟩ := getF X2 hx hZ hown (host := "") (Or.inl (hw _ (List.mem_of_getElem? (i := 25) rfl))) Via.refl e2 Fw2 (g := (mkF m 13 #[.val (.ref a1), .unset, .unset] [(.ref a1)])) rfl rfl (hb hby d6_13)
  refine own_go st3 ?_
  show own_Go p.tables e below _ T3 (mkF m 16 #[.val (.ref a1), .unset, .unset] [(.long (w + (-7046029254386353131 : Int64)))])
  refine own_go (fun tz kz => XT.lstoreN X3.here hx rfl (hb hby d6_16) rfl (l' := #[.val (.ref a1), .val (.long (w + (-7046029254386353131 : Int64))), .second]) rfl kz) ?_
  show own_Go p.tables e below _ T3 (mkF m 17 #[.val (.ref a1), .val (.long (w + (-7046029254386353131 : Int64))), .second] [])
  generalize gz : (w + (-7046029254386353131 : Int64)) = z
  show own_Go p.tables e below _ T3 (mkF m 17 #[.val (.ref a1), .val (.long z), .second] [])
  refine own_go (fun tz kz => XT.lloadN X3.here hx rfl (hb hby d6_17) rfl kz) ?_
  show own_Go p.tables e below _ T3 (mkF m 18 #[.val (.ref a1), .val (.long z), .second] [(.long z)])
  refine own_go (fun tz kz => XT.lloadN X3.here hx rfl (hb hby d6_18) rfl kz) ?_
  show own_Go p.tables e below _ T3 (mkF m 19 #[.val (.ref a1), .val (.long z), .second] [(.long z), (.long z)])
  refine own_go (fun tz kz => XS.bipush X3.here hx rfl (hb hby d6_19) kz) ?_
  show own_Go p.tables e below _ T3 (mkF m 21 #[.val (.ref a1), .val (.long z), .second] [(.int (30 : Int32)), (.long z), (.long z)])
  refine own_go (fun tz kz => XT.lushr X3.here hx rfl (hb hby d6_21) rfl kz) ?_
  show own_Go p.tables e below _ T3 (mkF m 22 #[.val (.ref a1), .val (.long z), .second] [(.long (XT.ushrL z (30 : Int32))), (.long z)])
  refine own_go (fun tz kz => XT.lxor X3.here hx rfl (hb hby d6_22) rfl kz) ?_
  show own_Go p.tables e below _ T3 (mkF m 23 #[.val (.ref a1), .val (.long z), .second] [(.long (z ^^^ (XT.ushrL z (30 : Int32))))])
  refine own_go (fun tz kz => X3.ldc2J hx hown (mvT hZ (hw _ (List.mem_of_getElem? (i := 39) rfl))) rfl (hb hby d6_23) kz) ?_
  show own_Go p.tables e below _ T3 (mkF m 26 #[.val (.ref a1), .val (.long z), .second] [(.long (-4658895280553007687 : Int64)), (.long (z ^^^ (XT.ushrL z (30 : Int32))))])
  refine own_go (fun tz kz => XT.lmul X3.here hx rfl (hb hby d6_26) rfl kz) ?_
  show own_Go p.tables e below _ T3 (mkF m 27 #[.val (.ref a1), .val (.long z), .second] [(.long ((z ^^^ (XT.ushrL z (30 : Int32))) * (-4658895280553007687 : Int64)))])
  show own_Go p.tables e below _ T3 (mkF m 27 #[.val (.ref a1), .val (.long z), .second] [(.long (own_m1 z))])
  refine own_go (fun tz kz => XT.lstoreN X3.here hx rfl (hb hby d6_27) rfl (l' := #[.val (.ref a1), .val (.long (own_m1 z)), .second]) rfl kz) ?_
  show own_Go p.tables e below _ T3 (mkF m 28 #[.val (.ref a1), .val (.long (own_m1 z)), .second] [])
  refine own_go (fun tz kz => XT.lloadN X3.here hx rfl (hb hby d6_28) rfl kz) ?_
  show own_Go p.tables e below _ T3 (mkF m 29 #[.val (.ref a1), .val (.long (own_m1 z)), .second] [(.long (own_m1 z))])
  refine own_go (fun tz kz => XT.lloadN X3.here hx rfl (hb hby d6_29) rfl kz) ?_
  show own_Go p.tables e below _ T3 (mkF m 30 #[.val (.ref a1), .val (.long (own_m1 z)), .second] [(.long (own_m1 z)), (.long (own_m1 z))])
  refine own_go (fun tz kz => XS.bipush X3.here hx rfl (hb hby d6_30) kz) ?_
  show own_Go p.tables e below _ T3 (mkF m 32 #[.val (.ref a1), .val (.long (own_m1 z)), .second] [(.int (27 : Int32)), (.long (own_m1 z)), (.long (own_m1 z))])
  refine own_go (fun tz kz => XT.lushr X3.here hx rfl (hb hby d6_32) rfl kz) ?_
  show own_Go p.tables e below _ T3 (mkF m 33 #[.val (.ref a1), .val (.long (own_m1 z)), .second] [(.long (XT.ushrL (own_m1 z) (27 : Int32))), (.long (own_m1 z))])
  refine own_go (fun tz kz => XT.lxor X3.here hx rfl (hb hby d6_33) rfl kz) ?_
  show own_Go p.tables e below _ T3 (mkF m 34 #[.val (.ref a1), .val (.long (own_m1 z)), .second] [(.long ((own_m1 z) ^^^ (XT.ushrL (own_m1 z) (27 : Int32))))])
  refine own_go (fun tz kz => X3.ldc2J hx hown (mvT hZ (hw _ (List.mem_of_getElem? (i := 40) rfl))) rfl (hb hby d6_34) kz) ?_
  show own_Go p.tables e below _ T3 (mkF m 37 #[.val (.ref a1), .val (.long (own_m1 z)), .second] [(.long (-7723592293110705685 : Int64)), (.long ((own_m1 z) ^^^ (XT.ushrL (own_m1 z) (27 : Int32))))])
  refine own_go (fun tz kz => XT.lmul X3.here hx rfl (hb hby d6_37) rfl kz) ?_
  show own_Go p.tables e below _ T3 (mkF m 38 #[.val (.ref a1), .val (.long (own_m1 z)), .second] [(.long (((own_m1 z) ^^^ (XT.ushrL (own_m1 z) (27 : Int32))) * (-7723592293110705685 : Int64)))])
  show own_Go p.tables e below _ T3 (mkF m 38 #[.val (.ref a1), .val (.long (own_m1 z)), .second] [(.long (own_m2 (own_m1 z)))])
  refine own_go (fun tz kz => XT.lstoreN X3.here hx rfl (hb hby d6_38) rfl (l' := #[.val (.ref a1), .val (.long (own_m2 (own_m1 z))), .second]) rfl kz) ?_
  show own_Go p.tables e below _ T3 (mkF m 39 #[.val (.ref a1), .val (.long (own_m2 (own_m1 z))), .second] [])
  refine own_go (fun tz kz => XT.lloadN X3.here hx rfl (hb hby d6_39) rfl kz) ?_
  show own_Go p.tables e below _ T3 (mkF m 40 #[.val (.ref a1), .val (.long (own_m2 (own_m1 z))), .second] [(.long (own_m2 (own_m1 z)))])
  refine own_go (fun tz kz => XT.lloadN X3.here hx rfl (hb hby d6_40) rfl kz) ?_
  show own_Go p.tables e below _ T3 (mkF m 41 #[.val (.ref a1), .val (.long (own_m2 (own_m1 z))), .second] [(.long (own_m2 (own_m1 z))), (.long (own_m2 (own_m1 z)))])
  refine own_go (fun tz kz => XS.bipush X3.here hx rfl (hb hby d6_41) kz) ?_
  show own_Go p.tables e below _ T3 (mkF m 43 #[.val (.ref a1), .val (.long (own_m2 (own_m1 z))), .second] [(.int (31 : Int32)), (.long (own_m2 (own_m1 z))), (.long (own_m2 (own_m1 z)))])
  refine own_go (fun tz kz => XT.lushr X3.here hx rfl (hb hby d6_43) rfl kz) ?_
  show own_Go p.tables e below _ T3 (mkF m 44 #[.val (.ref a1), .val (.long (own_m2 (own_m1 z))), .second] [(.long (XT.ushrL (own_m2 (own_m1 z)) (31 : Int32))), (.long (own_m2 (own_m1 z)))])
  refine own_go (fun tz kz => XT.lxor X3.here hx rfl (hb hby d6_44) rfl kz) ?_
  show own_Go p.tables e below _ T3 (mkF m 45 #[.val (.ref a1), .val (.long (own_m2 (own_m1 z))), .second] [(.long ((own_m2 (own_m1 z)) ^^^ (XT.ushrL (own_m2 (own_m1 z)) (31 : Int32))))])
  show own_Go p.tables e below _ T3 (mkF m 45 #[.val (.ref a1), .val (.long (own_m2 (own_m1 z))), .second] [(.long (own_mix z))])
  obtain ⟨fs, hr, hrun, hended, hW, hsame⟩ := X3.leave (v := some (.long (own_mix z))) (fun h => by rw [Bd.returns] at h; cases h) (BodyLoose.notSynchronized Bd)
  refine ⟨_, _, ?_, hrun, hended, _, _, rfl, ?_, ⟨_, rfl⟩, hW, hsame.mono (by decide) (by decide)⟩
  · exact X3.lreturnOut hx Bd.returns (hb hby d6_45) hr
  · show Q6 Z a1 w h0 n0 _ T3.heap _
    rw [e3]
    exact ⟨(by rw [← gz]), N2, (Keep.refl _ _).wr W2 (Or.inl (List.mem_of_getElem? (i := 0) rfl)), Ex.wr W2, Fw2⟩
theorem d2_0 : decode method_4_code 0 = .ok (.lload_n 0, 1) := by decide +kernel
theorem d2_1 : decode method_4_code 1 = .ok (.lstore_n 2, 1) := by decide +kernel
theorem d2_2 : decode method_4_code 2 = .ok (.lload_n 2, 1) := by decide +kernel
theorem d2_3 : decode method_4_code 3 = .ok (.ldc2_w 42, 3) := by decide +kernel
theorem d2_6 : decode method_4_code 6 = .ok (.lload_n 0, 1) := by decide +kernel
theorem d2_7 : decode method_4_code 7 = .ok (.lload_n 2, 1) := by decide +kernel
theorem d2_8 : decode method_4_code 8 = .ok (.lmul, 1) := by decide +kernel
theorem d2_9 : decode method_4_code 9 = .ok (.lsub, 1) := by decide +kernel
theorem d2_10 : decode method_4_code 10 = .ok (.lmul, 1) := by decide +kernel
theorem d2_11 : decode method_4_code 11 = .ok (.lstore_n 2, 1) := by decide +kernel
theorem d2_12 : decode method_4_code 12 = .ok (.lload_n 2, 1) := by decide +kernel
theorem d2_13 : decode method_4_code 13 = .ok (.ldc2_w 42, 3) := by decide +kernel
theorem d2_16 : decode method_4_code 16 = .ok (.lload_n 0, 1) := by decide +kernel
theorem d2_17 : decode method_4_code 17 = .ok (.lload_n 2, 1) := by decide +kernel
theorem d2_18 : decode method_4_code 18 = .ok (.lmul, 1) := by decide +kernel
theorem d2_19 : decode method_4_code 19 = .ok (.lsub, 1) := by decide +kernel
theorem d2_20 : decode method_4_code 20 = .ok (.lmul, 1) := by decide +kernel
theorem d2_21 : decode method_4_code 21 = .ok (.lstore_n 2, 1) := by decide +kernel
theorem d2_22 : decode method_4_code 22 = .ok (.lload_n 2, 1) := by decide +kernel
theorem d2_23 : decode method_4_code 23 = .ok (.ldc2_w 42, 3) := by decide +kernel
theorem d2_26 : decode method_4_code 26 = .ok (.lload_n 0, 1) := by decide +kernel
theorem d2_27 : decode method_4_code 27 = .ok (.lload_n 2, 1) := by decide +kernel
theorem d2_28 : decode method_4_code 28 = .ok (.lmul, 1) := by decide +kernel
theorem d2_29 : decode method_4_code 29 = .ok (.lsub, 1) := by decide +kernel
theorem d2_30 : decode method_4_code 30 = .ok (.lmul, 1) := by decide +kernel
theorem d2_31 : decode method_4_code 31 = .ok (.lstore_n 2, 1) := by decide +kernel
theorem d2_32 : decode method_4_code 32 = .ok (.lload_n 2, 1) := by decide +kernel
theorem d2_33 : decode method_4_code 33 = .ok (.ldc2_w 42, 3) := by decide +kernel
theorem d2_36 : decode method_4_code 36 = .ok (.lload_n 0, 1) := by decide +kernel
theorem d2_37 : decode method_4_code 37 = .ok (.lload_n 2, 1) := by decide +kernel
theorem d2_38 : decode method_4_code 38 = .ok (.lmul, 1) := by decide +kernel
theorem d2_39 : decode method_4_code 39 = .ok (.lsub, 1) := by decide +kernel
theorem d2_40 : decode method_4_code 40 = .ok (.lmul, 1) := by decide +kernel
theorem d2_41 : decode method_4_code 41 = .ok (.lstore_n 2, 1) := by decide +kernel
theorem d2_42 : decode method_4_code 42 = .ok (.lload_n 2, 1) := by decide +kernel
theorem d2_43 : decode method_4_code 43 = .ok (.ldc2_w 42, 3) := by decide +kernel
theorem d2_46 : decode method_4_code 46 = .ok (.lload_n 0, 1) := by decide +kernel
theorem d2_47 : decode method_4_code 47 = .ok (.lload_n 2, 1) := by decide +kernel
theorem d2_48 : decode method_4_code 48 = .ok (.lmul, 1) := by decide +kernel
theorem d2_49 : decode method_4_code 49 = .ok (.lsub, 1) := by decide +kernel
theorem d2_50 : decode method_4_code 50 = .ok (.lmul, 1) := by decide +kernel
theorem d2_51 : decode method_4_code 51 = .ok (.lstore_n 2, 1) := by decide +kernel
theorem d2_52 : decode method_4_code 52 = .ok (.lload_n 2, 1) := by decide +kernel
theorem d2_53 : decode method_4_code 53 = .ok (.lreturn, 1) := by decide +kernel
theorem pn_1 : plainName "com/example/gunline/gunline/core/SeededDiceRollPinLaw" = true := by first | (simp [plainName, overriddenIn]; done) | decide +kernel
theorem ef_2 (m : MethodId) {q1 : Int64} : entryFrame m #[(.long q1)] 4 = mkF m 0 #[.val (.long q1), .second, .unset, .unset] [] := by first | (simp [entryFrame, mkF, argsToLocals, Value.category]; done) | rfl
def Q2 (Z : State) (q1 : Int64) (h0 : Heap) (n0 : Nat) (v : Option Value) (h : Heap) (L : List Loc) : Prop := v = some (.long (own_inv q1)) ∧ Fr n0 L ∧ h = h0
set_option maxRecDepth 65536 in
set_option maxHeartbeats 40000000 in
theorem rm2 (l : Launch) (Z : State) (a0 : Array Value) (hw : ∀ d ∈ tables_1, d.before a0 Z = true) (ws : List Jvm.Cond) (q1 : Int64) (h0 : Heap) (n0 : Nat) (Z0 : n0 ≤ h0.size) :
    MetFree l (⟨"com/example/gunline/gunline/core/SeededDiceRollPinLaw", "inverse", "(J)J"⟩ : MethodName) (head1 (Jvm.Cond.code (⟨"com/example/gunline/gunline/core/SeededDiceRollPinLaw", "inverse", "(J)J"⟩ : MethodName) method_4_code 4 (some .long) :: ws) ({ frames := 0, cells := 0, slots := 0, locals := 0 } : Room)) (fun a U => a = #[(.long q1)] ∧ Z.Warmed39 U.vm ∧ U.heap = h0) (fun _ _ _ _ _ => True) (fun _ U o U' => ∃ v L, o = .returned v ∧ Q2 Z q1 h0 n0 v U'.heap L ∧ FrameEnd U o U' L (({ frames := 0, cells := 0, slots := 0, locals := 0 } : Room)).cells (({ frames := 0, cells := 0, slots := 0, locals := 0 } : Room)).slots) := by
  refine MetFree.of_bodySF (plainFor_of_name pn_1) hisR ?_
  intro p e s m args below meth c s₁ Bd hml0 hP hK
  obtain ⟨rfl, hZ, hh⟩ := hP
  have hx := Bd.exec
  have hby := Bd.bytes
  have hml : c.maxLocals = 4 := hml0
  have hown : s.vm.findClass "com/example/gunline/gunline/core/SeededDiceRollPinLaw" = some m.cls := findClass_of_methodNamed Bd.named
  have hnm := (name_of_methodNamed Bd.named Bd.method).1
  have X0 : Stand p l e ({ frames := 0, cells := 0, slots := 0, locals := 0 } : Room) s m #[(.long q1)] below meth c s₁ [] 0 0 := Stand.of_body Bd
  have e0 : s₁.heap = h0 := by rw [← hh, Bd.state]; rfl
  have N0 := Fr.nil n0
  show own_Go p.tables e below (own_P s (Q2 Z q1 h0 n0) ({ frames := 0, cells := 0, slots := 0, locals := 0 } : Room).cells ({ frames := 0, cells := 0, slots := 0, locals := 0 } : Room).slots) s₁ _
  rw [ef_2]
  show own_Go p.tables e below _ s₁ (mkF m 0 #[.val (.long q1), .second, .unset, .unset] [])
  refine own_go (fun tz kz => XT.lloadN X0.here hx rfl (hb hby d2_0) rfl kz) ?_
  show own_Go p.tables e below _ s₁ (mkF m 1 #[.val (.long q1), .second, .unset, .unset] [(.long q1)])
  refine own_go (fun tz kz => XT.lstoreN X0.here hx rfl (hb hby d2_1) rfl (l' := #[.val (.long q1), .second, .val (.long q1), .second]) rfl kz) ?_
  show own_Go p.tables e below _ s₁ (mkF m 2 #[.val (.long q1), .second, .val (.long q1), .second] [])
  refine own_go (fun tz kz => XT.lloadN X0.here hx rfl (hb hby d2_2) rfl kz) ?_
  show own_Go p.tables e below _ s₁ (mkF m 3 #[.val (.long q1), .second, .val (.long q1), .second] [(.long q1)])
  refine own_go (fun tz kz => X0.ldc2J hx hown (mvT hZ (hw _ (List.mem_of_getElem? (i := 15) rfl))) rfl (hb hby d2_3) kz) ?_
  show own_Go p.tables e below _ s₁ (mkF m 6 #[.val (.long q1), .second, .val (.long q1), .second] [(.long (2 : Int64)), (.long q1)])
  refine own_go (fun tz kz => XT.lloadN X0.here hx rfl (hb hby d2_6) rfl kz) ?_
  show own_Go p.tables e below _ s₁ (mkF m 7 #[.val (.long q1), .second, .val (.long q1), .second] [(.long q1), (.long (2 : Int64)), (.long q1)])
  refine own_go (fun tz kz => XT.lloadN X0.here hx rfl (hb hby d2_7) rfl kz) ?_
  show own_Go p.tables e below _ s₁ (mkF m 8 #[.val (.long q1), .second, .val (.long q1), .second] [(.long q1), (.long q1), (.long (2 : Int64)), (.long q1)])
  refine own_go (fun tz kz => XT.lmul X0.here hx rfl (hb hby d2_8) rfl kz) ?_
  show own_Go p.tables e below _ s₁ (mkF m 9 #[.val (.long q1), .second, .val (.long q1), .second] [(.long (q1 * q1)), (.long (2 : Int64)), (.long q1)])
  refine own_go (fun tz kz => XT.lsub X0.here hx rfl (hb hby d2_9) rfl kz) ?_
  show own_Go p.tables e below _ s₁ (mkF m 10 #[.val (.long q1), .second, .val (.long q1), .second] [(.long ((2 : Int64) - (q1 * q1))), (.long q1)])
  refine own_go (fun tz kz => XT.lmul X0.here hx rfl (hb hby d2_10) rfl kz) ?_
  show own_Go p.tables e below _ s₁ (mkF m 11 #[.val (.long q1), .second, .val (.long q1), .second] [(.long (q1 * ((2 : Int64) - (q1 * q1))))])
  show own_Go p.tables e below _ s₁ (mkF m 11 #[.val (.long q1), .second, .val (.long q1), .second] [(.long (own_it q1 q1))])
  refine own_go (fun tz kz => XT.lstoreN X0.here hx rfl (hb hby d2_11) rfl (l' := #[.val (.long q1), .second, .val (.long (own_it q1 q1)), .second]) rfl kz) ?_
  show own_Go p.tables e below _ s₁ (mkF m 12 #[.val (.long q1), .second, .val (.long (own_it q1 q1)), .second] [])
  refine own_go (fun tz kz => XT.lloadN X0.here hx rfl (hb hby d2_12) rfl kz) ?_
  show own_Go p.tables e below _ s₁ (mkF m 13 #[.val (.long q1), .second, .val (.long (own_it q1 q1)), .second] [(.long (own_it q1 q1))])
  refine own_go (fun tz kz => X0.ldc2J hx hown (mvT hZ (hw _ (List.mem_of_getElem? (i := 15) rfl))) rfl (hb hby d2_13) kz) ?_
  show own_Go p.tables e below _ s₁ (mkF m 16 #[.val (.long q1), .second, .val (.long (own_it q1 q1)), .second] [(.long (2 : Int64)), (.long (own_it q1 q1))])
  refine own_go (fun tz kz => XT.lloadN X0.here hx rfl (hb hby d2_16) rfl kz) ?_
  show own_Go p.tables e below _ s₁ (mkF m 17 #[.val (.long q1), .second, .val (.long (own_it q1 q1)), .second] [(.long q1), (.long (2 : Int64)), (.long (own_it q1 q1))])
  refine own_go (fun tz kz => XT.lloadN X0.here hx rfl (hb hby d2_17) rfl kz) ?_
  show own_Go p.tables e below _ s₁ (mkF m 18 #[.val (.long q1), .second, .val (.long (own_it q1 q1)), .second] [(.long (own_it q1 q1)), (.long q1), (.long (2 : Int64)), (.long (own_it q1 q1))])
  refine own_go (fun tz kz => XT.lmul X0.here hx rfl (hb hby d2_18) rfl kz) ?_
  show own_Go p.tables e below _ s₁ (mkF m 19 #[.val (.long q1), .second, .val (.long (own_it q1 q1)), .second] [(.long (q1 * (own_it q1 q1))), (.long (2 : Int64)), (.long (own_it q1 q1))])
  refine own_go (fun tz kz => XT.lsub X0.here hx rfl (hb hby d2_19) rfl kz) ?_
  show own_Go p.tables e below _ s₁ (mkF m 20 #[.val (.long q1), .second, .val (.long (own_it q1 q1)), .second] [(.long ((2 : Int64) - (q1 * (own_it q1 q1)))), (.long (own_it q1 q1))])
  refine own_go (fun tz kz => XT.lmul X0.here hx rfl (hb hby d2_20) rfl kz) ?_
  show own_Go p.tables e below _ s₁ (mkF m 21 #[.val (.long q1), .second, .val (.long (own_it q1 q1)), .second] [(.long ((own_it q1 q1) * ((2 : Int64) - (q1 * (own_it q1 q1)))))])
  show own_Go p.tables e below _ s₁ (mkF m 21 #[.val (.long q1), .second, .val (.long (own_it q1 q1)), .second] [(.long (own_it q1 (own_it q1 q1)))])
  refine own_go (fun tz kz => XT.lstoreN X0.here hx rfl (hb hby d2_21) rfl (l' := #[.val (.long q1), .second, .val (.long (own_it q1 (own_it q1 q1))), .second]) rfl kz) ?_
  show own_Go p.tables e below _ s₁ (mkF m 22 #[.val (.long q1), .second, .val (.long (own_it q1 (own_it q1 q1))), .second] [])
  refine own_go (fun tz kz => XT.lloadN X0.here hx rfl (hb hby d2_22) rfl kz) ?_
  show own_Go p.tables e below _ s₁ (mkF m 23 #[.val (.long q1), .second, .val (.long (own_it q1 (own_it q1 q1))), .second] [(.long (own_it q1 (own_it q1 q1)))])
  refine own_go (fun tz kz => X0.ldc2J hx hown (mvT hZ (hw _ (List.mem_of_getElem? (i := 15) rfl))) rfl (hb hby d2_23) kz) ?_
  show own_Go p.tables e below _ s₁ (mkF m 26 #[.val (.long q1), .second, .val (.long (own_it q1 (own_it q1 q1))), .second] [(.long (2 : Int64)), (.long (own_it q1 (own_it q1 q1)))])
  refine own_go (fun tz kz => XT.lloadN X0.here hx rfl (hb hby d2_26) rfl kz) ?_
  show own_Go p.tables e below _ s₁ (mkF m 27 #[.val (.long q1), .second, .val (.long (own_it q1 (own_it q1 q1))), .second] [(.long q1), (.long (2 : Int64)), (.long (own_it q1 (own_it q1 q1)))])
  refine own_go (fun tz kz => XT.lloadN X0.here hx rfl (hb hby d2_27) rfl kz) ?_
  show own_Go p.tables e below _ s₁ (mkF m 28 #[.val (.long q1), .second, .val (.long (own_it q1 (own_it q1 q1))), .second] [(.long (own_it q1 (own_it q1 q1))), (.long q1), (.long (2 : Int64)), (.long (own_it q1 (own_it q1 q1)))])
  refine own_go (fun tz kz => XT.lmul X0.here hx rfl (hb hby d2_28) rfl kz) ?_
  show own_Go p.tables e below _ s₁ (mkF m 29 #[.val (.long q1), .second, .val (.long (own_it q1 (own_it q1 q1))), .second] [(.long (q1 * (own_it q1 (own_it q1 q1)))), (.long (2 : Int64)), (.long (own_it q1 (own_it q1 q1)))])
  refine own_go (fun tz kz => XT.lsub X0.here hx rfl (hb hby d2_29) rfl kz) ?_
  show own_Go p.tables e below _ s₁ (mkF m 30 #[.val (.long q1), .second, .val (.long (own_it q1 (own_it q1 q1))), .second] [(.long ((2 : Int64) - (q1 * (own_it q1 (own_it q1 q1))))), (.long (own_it q1 (own_it q1 q1)))])
  refine own_go (fun tz kz => XT.lmul X0.here hx rfl (hb hby d2_30) rfl kz) ?_
  show own_Go p.tables e below _ s₁ (mkF m 31 #[.val (.long q1), .second, .val (.long (own_it q1 (own_it q1 q1))), .second] [(.long ((own_it q1 (own_it q1 q1)) * ((2 : Int64) - (q1 * (own_it q1 (own_it q1 q1))))))])
  show own_Go p.tables e below _ s₁ (mkF m 31 #[.val (.long q1), .second, .val (.long (own_it q1 (own_it q1 q1))), .second] [(.long (own_it q1 (own_it q1 (own_it q1 q1))))])
  refine own_go (fun tz kz => XT.lstoreN X0.here hx rfl (hb hby d2_31) rfl (l' := #[.val (.long q1), .second, .val (.long (own_it q1 (own_it q1 (own_it q1 q1)))), .second]) rfl kz) ?_
  show own_Go p.tables e below _ s₁ (mkF m 32 #[.val (.long q1), .second, .val (.long (own_it q1 (own_it q1 (own_it q1 q1)))), .second] [])
  refine own_go (fun tz kz => XT.lloadN X0.here hx rfl (hb hby d2_32) rfl kz) ?_
  show own_Go p.tables e below _ s₁ (mkF m 33 #[.val (.long q1), .second, .val (.long (own_it q1 (own_it q1 (own_it q1 q1)))), .second] [(.long (own_it q1 (own_it q1 (own_it q1 q1))))])
  refine own_go (fun tz kz => X0.ldc2J hx hown (mvT hZ (hw _ (List.mem_of_getElem? (i := 15) rfl))) rfl (hb hby d2_33) kz) ?_
  show own_Go p.tables e below _ s₁ (mkF m 36 #[.val (.long q1), .second, .val (.long (own_it q1 (own_it q1 (own_it q1 q1)))), .second] [(.long (2 : Int64)), (.long (own_it q1 (own_it q1 (own_it q1 q1))))])
  refine own_go (fun tz kz => XT.lloadN X0.here hx rfl (hb hby d2_36) rfl kz) ?_
  show own_Go p.tables e below _ s₁ (mkF m 37 #[.val (.long q1), .second, .val (.long (own_it q1 (own_it q1 (own_it q1 q1)))), .second] [(.long q1), (.long (2 : Int64)), (.long (own_it q1 (own_it q1 (own_it q1 q1))))])
  refine own_go (fun tz kz => XT.lloadN X0.here hx rfl (hb hby d2_37) rfl kz) ?_
  show own_Go p.tables e below _ s₁ (mkF m 38 #[.val (.long q1), .second, .val (.long (own_it q1 (own_it q1 (own_it q1 q1)))), .second] [(.long (own_it q1 (own_it q1 (own_it q1 q1)))), (.long q1), (.long (2 : Int64)), (.long (own_it q1 (own_it q1 (own_it q1 q1))))])
  refine own_go (fun tz kz => XT.lmul X0.here hx rfl (hb hby d2_38) rfl kz) ?_
  show own_Go p.tables e below _ s₁ (mkF m 39 #[.val (.long q1), .second, .val (.long (own_it q1 (own_it q1 (own_it q1 q1)))), .second] [(.long (q1 * (own_it q1 (own_it q1 (own_it q1 q1))))), (.long (2 : Int64)), (.long (own_it q1 (own_it q1 (own_it q1 q1))))])
  refine own_go (fun tz kz => XT.lsub X0.here hx rfl (hb hby d2_39) rfl kz) ?_
  show own_Go p.tables e below _ s₁ (mkF m 40 #[.val (.long q1), .second, .val (.long (own_it q1 (own_it q1 (own_it q1 q1)))), .second] [(.long ((2 : Int64) - (q1 * (own_it q1 (own_it q1 (own_it q1 q1)))))), (.long (own_it q1 (own_it q1 (own_it q1 q1))))])
  refine own_go (fun tz kz => XT.lmul X0.here hx rfl (hb hby d2_40) rfl kz) ?_
  show own_Go p.tables e below _ s₁ (mkF m 41 #[.val (.long q1), .second, .val (.long (own_it q1 (own_it q1 (own_it q1 q1)))), .second] [(.long ((own_it q1 (own_it q1 (own_it q1 q1))) * ((2 : Int64) - (q1 * (own_it q1 (own_it q1 (own_it q1 q1)))))))])
  show own_Go p.tables e below _ s₁ (mkF m 41 #[.val (.long q1), .second, .val (.long (own_it q1 (own_it q1 (own_it q1 q1)))), .second] [(.long (own_it q1 (own_it q1 (own_it q1 (own_it q1 q1)))))])
  refine own_go (fun tz kz => XT.lstoreN X0.here hx rfl (hb hby d2_41) rfl (l' := #[.val (.long q1), .second, .val (.long (own_it q1 (own_it q1 (own_it q1 (own_it q1 q1))))), .second]) rfl kz) ?_
  show own_Go p.tables e below _ s₁ (mkF m 42 #[.val (.long q1), .second, .val (.long (own_it q1 (own_it q1 (own_it q1 (own_it q1 q1))))), .second] [])
  refine own_go (fun tz kz => XT.lloadN X0.here hx rfl (hb hby d2_42) rfl kz) ?_
  show own_Go p.tables e below _ s₁ (mkF m 43 #[.val (.long q1), .second, .val (.long (own_it q1 (own_it q1 (own_it q1 (own_it q1 q1))))), .second] [(.long (own_it q1 (own_it q1 (own_it q1 (own_it q1 q1)))))])
  refine own_go (fun tz kz => X0.ldc2J hx hown (mvT hZ (hw _ (List.mem_of_getElem? (i := 15) rfl))) rfl (hb hby d2_43) kz) ?_
  show own_Go p.tables e below _ s₁ (mkF m 46 #[.val (.long q1), .second, .val (.long (own_it q1 (own_it q1 (own_it q1 (own_it q1 q1))))), .second] [(.long (2 : Int64)), (.long (own_it q1 (own_it q1 (own_it q1 (own_it q1 q1)))))])
  refine own_go (fun tz kz => XT.lloadN X0.here hx rfl (hb hby d2_46) rfl kz) ?_
  show own_Go p.tables e below _ s₁ (mkF m 47 #[.val (.long q1), .second, .val (.long (own_it q1 (own_it q1 (own_it q1 (own_it q1 q1))))), .second] [(.long q1), (.long (2 : Int64)), (.long (own_it q1 (own_it q1 (own_it q1 (own_it q1 q1)))))])
  refine own_go (fun tz kz => XT.lloadN X0.here hx rfl (hb hby d2_47) rfl kz) ?_
  show own_Go p.tables e below _ s₁ (mkF m 48 #[.val (.long q1), .second, .val (.long (own_it q1 (own_it q1 (own_it q1 (own_it q1 q1))))), .second] [(.long (own_it q1 (own_it q1 (own_it q1 (own_it q1 q1))))), (.long q1), (.long (2 : Int64)), (.long (own_it q1 (own_it q1 (own_it q1 (own_it q1 q1)))))])
  refine own_go (fun tz kz => XT.lmul X0.here hx rfl (hb hby d2_48) rfl kz) ?_
  show own_Go p.tables e below _ s₁ (mkF m 49 #[.val (.long q1), .second, .val (.long (own_it q1 (own_it q1 (own_it q1 (own_it q1 q1))))), .second] [(.long (q1 * (own_it q1 (own_it q1 (own_it q1 (own_it q1 q1)))))), (.long (2 : Int64)), (.long (own_it q1 (own_it q1 (own_it q1 (own_it q1 q1)))))])
  refine own_go (fun tz kz => XT.lsub X0.here hx rfl (hb hby d2_49) rfl kz) ?_
  show own_Go p.tables e below _ s₁ (mkF m 50 #[.val (.long q1), .second, .val (.long (own_it q1 (own_it q1 (own_it q1 (own_it q1 q1))))), .second] [(.long ((2 : Int64) - (q1 * (own_it q1 (own_it q1 (own_it q1 (own_it q1 q1))))))), (.long (own_it q1 (own_it q1 (own_it q1 (own_it q1 q1)))))])
  refine own_go (fun tz kz => XT.lmul X0.here hx rfl (hb hby d2_50) rfl kz) ?_
  show own_Go p.tables e below _ s₁ (mkF m 51 #[.val (.long q1), .second, .val (.long (own_it q1 (own_it q1 (own_it q1 (own_it q1 q1))))), .second] [(.long ((own_it q1 (own_it q1 (own_it q1 (own_it q1 q1)))) * ((2 : Int64) - (q1 * (own_it q1 (own_it q1 (own_it q1 (own_it q1 q1))))))))])
  show own_Go p.tables e below _ s₁ (mkF m 51 #[.val (.long q1), .second, .val (.long (own_it q1 (own_it q1 (own_it q1 (own_it q1 q1))))), .second] [(.long (own_it q1 (own_it q1 (own_it q1 (own_it q1 (own_it q1 q1))))))])
  refine own_go (fun tz kz => XT.lstoreN X0.here hx rfl (hb hby d2_51) rfl (l' := #[.val (.long q1), .second, .val (.long (own_it q1 (own_it q1 (own_it q1 (own_it q1 (own_it q1 q1)))))), .second]) rfl kz) ?_
  show own_Go p.tables e below _ s₁ (mkF m 52 #[.val (.long q1), .second, .val (.long (own_it q1 (own_it q1 (own_it q1 (own_it q1 (own_it q1 q1)))))), .second] [])
  refine own_go (fun tz kz => XT.lloadN X0.here hx rfl (hb hby d2_52) rfl kz) ?_
  show own_Go p.tables e below _ s₁ (mkF m 53 #[.val (.long q1), .second, .val (.long (own_it q1 (own_it q1 (own_it q1 (own_it q1 (own_it q1 q1)))))), .second] [(.long (own_it q1 (own_it q1 (own_it q1 (own_it q1 (own_it q1 q1))))))])
  obtain ⟨fs, hr, hrun, hended, hW, hsame⟩ := X0.leave (v := some (.long (own_it q1 (own_it q1 (own_it q1 (own_it q1 (own_it q1 q1))))))) (fun h => by rw [Bd.returns] at h; cases h) (BodyLoose.notSynchronized Bd)
  refine ⟨_, _, ?_, hrun, hended, _, _, rfl, ?_, ⟨_, rfl⟩, hW, hsame.mono (by decide) (by decide)⟩
  · exact X0.lreturnOut hx Bd.returns (hb hby d2_53) hr
  · show Q2 Z q1 h0 n0 _ s₁.heap _
    rw [e0]
    exact ⟨rfl, N0, rfl⟩
theorem d1_0 : decode method_5_code 0 = .ok (.ldc2_w 44, 3) := by decide +kernel
theorem d1_3 : decode method_5_code 3 = .ok (.lstore_n 2, 1) := by decide +kernel
theorem d1_4 : decode method_5_code 4 = .ok (.ldc2_w 46, 3) := by decide +kernel
theorem d1_7 : decode method_5_code 7 = .ok (.lstore 4, 2) := by decide +kernel
theorem d1_9 : decode method_5_code 9 = .ok (.ldc2_w 48, 3) := by decide +kernel
theorem d1_12 : decode method_5_code 12 = .ok (.lstore 6, 2) := by decide +kernel
theorem d1_14 : decode method_5_code 14 = .ok (.lload_n 0, 1) := by decide +kernel
theorem d1_15 : decode method_5_code 15 = .ok (.lload_n 0, 1) := by decide +kernel
theorem d1_16 : decode method_5_code 16 = .ok (.bipush 31, 2) := by decide +kernel
theorem d1_18 : decode method_5_code 18 = .ok (.lushr, 1) := by decide +kernel
theorem d1_19 : decode method_5_code 19 = .ok (.lxor, 1) := by decide +kernel
theorem d1_20 : decode method_5_code 20 = .ok (.lload_n 0, 1) := by decide +kernel
theorem d1_21 : decode method_5_code 21 = .ok (.bipush 62, 2) := by decide +kernel
theorem d1_23 : decode method_5_code 23 = .ok (.lushr, 1) := by decide +kernel
theorem d1_24 : decode method_5_code 24 = .ok (.lxor, 1) := by decide +kernel
theorem d1_25 : decode method_5_code 25 = .ok (.lstore 8, 2) := by decide +kernel
theorem d1_27 : decode method_5_code 27 = .ok (.lload 8, 2) := by decide +kernel
theorem d1_29 : decode method_5_code 29 = .ok (.lload 6, 2) := by decide +kernel
theorem d1_31 : decode method_5_code 31 = .ok (.invokestatic 50, 3) := by decide +kernel
theorem d1_34 : decode method_5_code 34 = .ok (.lmul, 1) := by decide +kernel
theorem d1_35 : decode method_5_code 35 = .ok (.lstore 8, 2) := by decide +kernel
theorem d1_37 : decode method_5_code 37 = .ok (.lload 8, 2) := by decide +kernel
theorem d1_39 : decode method_5_code 39 = .ok (.lload 8, 2) := by decide +kernel
theorem d1_41 : decode method_5_code 41 = .ok (.bipush 27, 2) := by decide +kernel
theorem d1_43 : decode method_5_code 43 = .ok (.lushr, 1) := by decide +kernel
theorem d1_44 : decode method_5_code 44 = .ok (.lxor, 1) := by decide +kernel
theorem d1_45 : decode method_5_code 45 = .ok (.lload 8, 2) := by decide +kernel
theorem d1_47 : decode method_5_code 47 = .ok (.bipush 54, 2) := by decide +kernel
theorem d1_49 : decode method_5_code 49 = .ok (.lushr, 1) := by decide +kernel
theorem d1_50 : decode method_5_code 50 = .ok (.lxor, 1) := by decide +kernel
theorem d1_51 : decode method_5_code 51 = .ok (.lstore 8, 2) := by decide +kernel
theorem d1_53 : decode method_5_code 53 = .ok (.lload 8, 2) := by decide +kernel
theorem d1_55 : decode method_5_code 55 = .ok (.lload 4, 2) := by decide +kernel
theorem d1_57 : decode method_5_code 57 = .ok (.invokestatic 50, 3) := by decide +kernel
theorem d1_60 : decode method_5_code 60 = .ok (.lmul, 1) := by decide +kernel
theorem d1_61 : decode method_5_code 61 = .ok (.lstore 8, 2) := by decide +kernel
theorem d1_63 : decode method_5_code 63 = .ok (.lload 8, 2) := by decide +kernel
theorem d1_65 : decode method_5_code 65 = .ok (.lload 8, 2) := by decide +kernel
theorem d1_67 : decode method_5_code 67 = .ok (.bipush 30, 2) := by decide +kernel
theorem d1_69 : decode method_5_code 69 = .ok (.lushr, 1) := by decide +kernel
theorem d1_70 : decode method_5_code 70 = .ok (.lxor, 1) := by decide +kernel
theorem d1_71 : decode method_5_code 71 = .ok (.lload 8, 2) := by decide +kernel
theorem d1_73 : decode method_5_code 73 = .ok (.bipush 60, 2) := by decide +kernel
theorem d1_75 : decode method_5_code 75 = .ok (.lushr, 1) := by decide +kernel
theorem d1_76 : decode method_5_code 76 = .ok (.lxor, 1) := by decide +kernel
theorem d1_77 : decode method_5_code 77 = .ok (.lstore 8, 2) := by decide +kernel
theorem d1_79 : decode method_5_code 79 = .ok (.lload 8, 2) := by decide +kernel
theorem d1_81 : decode method_5_code 81 = .ok (.lload_n 2, 1) := by decide +kernel
theorem d1_82 : decode method_5_code 82 = .ok (.lsub, 1) := by decide +kernel
theorem d1_83 : decode method_5_code 83 = .ok (.lreturn, 1) := by decide +kernel
theorem pd_0 : parseMethodDescriptor "(J)J" = some ⟨[.long], some .long⟩ := by decide +kernel
theorem ef_1 (m : MethodId) {q1 : Int64} : entryFrame m #[(.long q1)] 10 = mkF m 0 #[.val (.long q1), .second, .unset, .unset, .unset, .unset, .unset, .unset, .unset, .unset] [] := by first | (simp [entryFrame, mkF, argsToLocals, Value.category]; done) | rfl
def Q1 (Z : State) (q1 : Int64) (h0 : Heap) (n0 : Nat) (v : Option Value) (h : Heap) (L : List Loc) : Prop := Fr n0 L ∧ h = h0 ∧ ∃ z : Int64, v = some (.long z)
set_option maxRecDepth 65536 in
set_option maxHeartbeats 40000000 in
theorem rm1 (l : Launch) (Z : State) (a0 : Array Value) (hw : ∀ d ∈ tables_1, d.before a0 Z = true) (ws : List Jvm.Cond) (q1 : Int64) (h0 : Heap) (n0 : Nat) (Z0 : n0 ≤ h0.size) :
    MetFree l (⟨"com/example/gunline/gunline/core/SeededDiceRollPinLaw", "seedFor", "(J)J"⟩ : MethodName) (head1 (Jvm.Cond.code (⟨"com/example/gunline/gunline/core/SeededDiceRollPinLaw", "seedFor", "(J)J"⟩ : MethodName) method_5_code 10 (some .long) :: ws) ({ frames := 1, cells := 0, slots := 0, locals := 17 } : Room)) (fun a U => a = #[(.long q1)] ∧ Z.Warmed39 U.vm ∧ U.heap = h0) (fun _ _ _ _ _ => True) (fun _ U o U' => ∃ v L, o = .returned v ∧ Q1 Z q1 h0 n0 v U'.heap L ∧ FrameEnd U o U' L (({ frames := 1, cells := 0, slots := 0, locals := 17 } : Room)).cells (({ frames := 1, cells := 0, slots := 0, locals := 17 } : Room)).slots) := by
  refine MetFree.of_bodySF (plainFor_of_name pn_1) hisR ?_
  intro p e s m args below meth c s₁ Bd hml0 hP hK
  obtain ⟨rfl, hZ, hh⟩ := hP
  have hx := Bd.exec
  have hby := Bd.bytes
  have hml : c.maxLocals = 10 := hml0
  have hown : s.vm.findClass "com/example/gunline/gunline/core/SeededDiceRollPinLaw" = some m.cls := findClass_of_methodNamed Bd.named
  have hnm := (name_of_methodNamed Bd.named Bd.method).1
  have X0 : Stand p l e ({ frames := 1, cells := 0, slots := 0, locals := 17 } : Room) s m #[(.long q1)] below meth c s₁ [] 0 0 := Stand.of_body Bd
  have e0 : s₁.heap = h0 := by rw [← hh, Bd.state]; rfl
  have N0 := Fr.nil n0
  show own_Go p.tables e below (own_P s (Q1 Z q1 h0 n0) ({ frames := 1, cells := 0, slots := 0, locals := 17 } : Room).cells ({ frames := 1, cells := 0, slots := 0, locals := 17 } : Room).slots) s₁ _
  rw [ef_1]
  show own_Go p.tables e below _ s₁ (mkF m 0 #[.val (.long q1), .second, .unset, .unset, .unset, .unset, .unset, .unset, .unset, .unset] [])
  refine own_go (fun tz kz => X0.ldc2J hx hown (mvT hZ (hw _ (List.mem_of_getElem? (i := 9) rfl))) rfl (hb hby d1_0) kz) ?_
  show own_Go p.tables e below _ s₁ (mkF m 3 #[.val (.long q1), .second, .unset, .unset, .unset, .unset, .unset, .unset, .unset, .unset] [(.long (-7046029254386353131 : Int64))])
  refine own_go (fun tz kz => XT.lstoreN X0.here hx rfl (hb hby d1_3) rfl (l' := #[.val (.long q1), .second, .val (.long (-7046029254386353131 : Int64)), .second, .unset, .unset, .unset, .unset, .unset, .unset]) rfl kz) ?_
  show own_Go p.tables e below _ s₁ (mkF m 4 #[.val (.long q1), .second, .val (.long (-7046029254386353131 : Int64)), .second, .unset, .unset, .unset, .unset, .unset, .unset] [])
  refine own_go (fun tz kz => X0.ldc2J hx hown (mvT hZ (hw _ (List.mem_of_getElem? (i := 10) rfl))) rfl (hb hby d1_4) kz) ?_
  show own_Go p.tables e below _ s₁ (mkF m 7 #[.val (.long q1), .second, .val (.long (-7046029254386353131 : Int64)), .second, .unset, .unset, .unset, .unset, .unset, .unset] [(.long (-4658895280553007687 : Int64))])
  refine own_go (fun tz kz => XT.lstore X0.here hx rfl (hb hby d1_7) rfl (l' := #[.val (.long q1), .second, .val (.long (-7046029254386353131 : Int64)), .second, .val (.long (-4658895280553007687 : Int64)), .second, .unset, .unset, .unset, .unset]) rfl kz) ?_
  show own_Go p.tables e below _ s₁ (mkF m 9 #[.val (.long q1), .second, .val (.long (-7046029254386353131 : Int64)), .second, .val (.long (-4658895280553007687 : Int64)), .second, .unset, .unset, .unset, .unset] [])
  refine own_go (fun tz kz => X0.ldc2J hx hown (mvT hZ (hw _ (List.mem_of_getElem? (i := 11) rfl))) rfl (hb hby d1_9) kz) ?_
  show own_Go p.tables e below _ s₁ (mkF m 12 #[.val (.long q1), .second, .val (.long (-7046029254386353131 : Int64)), .second, .val (.long (-4658895280553007687 : Int64)), .second, .unset, .unset, .unset, .unset] [(.long (-7723592293110705685 : Int64))])
  refine own_go (fun tz kz => XT.lstore X0.here hx rfl (hb hby d1_12) rfl (l' := #[.val (.long q1), .second, .val (.long (-7046029254386353131 : Int64)), .second, .val (.long (-4658895280553007687 : Int64)), .second, .val (.long (-7723592293110705685 : Int64)), .second, .unset, .unset]) rfl kz) ?_
  show own_Go p.tables e below _ s₁ (mkF m 14 #[.val (.long q1), .second, .val (.long (-7046029254386353131 : Int64)), .second, .val (.long (-4658895280553007687 : Int64)), .second, .val (.long (-7723592293110705685 : Int64)), .second, .unset, .unset] [])
  refine own_go (fun tz kz => XT.lloadN X0.here hx rfl (hb hby d1_14) rfl kz) ?_
  show own_Go p.tables e below _ s₁ (mkF m 15 #[.val (.long q1), .second, .val (.long (-7046029254386353131 : Int64)), .second, .val (.long (-4658895280553007687 : Int64)), .second, .val (.long (-7723592293110705685 : Int64)), .second, .unset, .unset] [(.long q1)])
  refine own_go (fun tz kz => XT.lloadN X0.here hx rfl (hb hby d1_15) rfl kz) ?_
  show own_Go p.tables e below _ s₁ (mkF m 16 #[.val (.long q1), .second, .val (.long (-7046029254386353131 : Int64)), .second, .val (.long (-4658895280553007687 : Int64)), .second, .val (.long (-7723592293110705685 : Int64)), .second, .unset, .unset] [(.long q1), (.long q1)])
  refine own_go (fun tz kz => XS.bipush X0.here hx rfl (hb hby d1_16) kz) ?_
  show own_Go p.tables e below _ s₁ (mkF m 18 #[.val (.long q1), .second, .val (.long (-7046029254386353131 : Int64)), .second, .val (.long (-4658895280553007687 : Int64)), .second, .val (.long (-7723592293110705685 : Int64)), .second, .unset, .unset] [(.int (31 : Int32)), (.long q1), (.long q1)])
  refine own_go (fun tz kz => XT.lushr X0.here hx rfl (hb hby d1_18) rfl kz) ?_
  show own_Go p.tables e below _ s₁ (mkF m 19 #[.val (.long q1), .second, .val (.long (-7046029254386353131 : Int64)), .second, .val (.long (-4658895280553007687 : Int64)), .second, .val (.long (-7723592293110705685 : Int64)), .second, .unset, .unset] [(.long (XT.ushrL q1 (31 : Int32))), (.long q1)])
  refine own_go (fun tz kz => XT.lxor X0.here hx rfl (hb hby d1_19) rfl kz) ?_
  show own_Go p.tables e below _ s₁ (mkF m 20 #[.val (.long q1), .second, .val (.long (-7046029254386353131 : Int64)), .second, .val (.long (-4658895280553007687 : Int64)), .second, .val (.long (-7723592293110705685 : Int64)), .second, .unset, .unset] [(.long (q1 ^^^ (XT.ushrL q1 (31 : Int32))))])
  refine own_go (fun tz kz => XT.lloadN X0.here hx rfl (hb hby d1_20) rfl kz) ?_
  show own_Go p.tables e below _ s₁ (mkF m 21 #[.val (.long q1), .second, .val (.long (-7046029254386353131 : Int64)), .second, .val (.long (-4658895280553007687 : Int64)), .second, .val (.long (-7723592293110705685 : Int64)), .second, .unset, .unset] [(.long q1), (.long (q1 ^^^ (XT.ushrL q1 (31 : Int32))))])
  refine own_go (fun tz kz => XS.bipush X0.here hx rfl (hb hby d1_21) kz) ?_
  show own_Go p.tables e below _ s₁ (mkF m 23 #[.val (.long q1), .second, .val (.long (-7046029254386353131 : Int64)), .second, .val (.long (-4658895280553007687 : Int64)), .second, .val (.long (-7723592293110705685 : Int64)), .second, .unset, .unset] [(.int (62 : Int32)), (.long q1), (.long (q1 ^^^ (XT.ushrL q1 (31 : Int32))))])
  refine own_go (fun tz kz => XT.lushr X0.here hx rfl (hb hby d1_23) rfl kz) ?_
  show own_Go p.tables e below _ s₁ (mkF m 24 #[.val (.long q1), .second, .val (.long (-7046029254386353131 : Int64)), .second, .val (.long (-4658895280553007687 : Int64)), .second, .val (.long (-7723592293110705685 : Int64)), .second, .unset, .unset] [(.long (XT.ushrL q1 (62 : Int32))), (.long (q1 ^^^ (XT.ushrL q1 (31 : Int32))))])
  refine own_go (fun tz kz => XT.lxor X0.here hx rfl (hb hby d1_24) rfl kz) ?_
  show own_Go p.tables e below _ s₁ (mkF m 25 #[.val (.long q1), .second, .val (.long (-7046029254386353131 : Int64)), .second, .val (.long (-4658895280553007687 : Int64)), .second, .val (.long (-7723592293110705685 : Int64)), .second, .unset, .unset] [(.long ((q1 ^^^ (XT.ushrL q1 (31 : Int32))) ^^^ (XT.ushrL q1 (62 : Int32))))])
  refine own_go (fun tz kz => XT.lstore X0.here hx rfl (hb hby d1_25) rfl (l' := #[.val (.long q1), .second, .val (.long (-7046029254386353131 : Int64)), .second, .val (.long (-4658895280553007687 : Int64)), .second, .val (.long (-7723592293110705685 : Int64)), .second, .val (.long ((q1 ^^^ (XT.ushrL q1 (31 : Int32))) ^^^ (XT.ushrL q1 (62 : Int32)))), .second]) rfl kz) ?_
  show own_Go p.tables e below _ s₁ (mkF m 27 #[.val (.long q1), .second, .val (.long (-7046029254386353131 : Int64)), .second, .val (.long (-4658895280553007687 : Int64)), .second, .val (.long (-7723592293110705685 : Int64)), .second, .val (.long ((q1 ^^^ (XT.ushrL q1 (31 : Int32))) ^^^ (XT.ushrL q1 (62 : Int32)))), .second] [])
  generalize gz1 : ((q1 ^^^ (XT.ushrL q1 (31 : Int32))) ^^^ (XT.ushrL q1 (62 : Int32))) = z1
  show own_Go p.tables e below _ s₁ (mkF m 27 #[.val (.long q1), .second, .val (.long (-7046029254386353131 : Int64)), .second, .val (.long (-4658895280553007687 : Int64)), .second, .val (.long (-7723592293110705685 : Int64)), .second, .val (.long z1), .second] [])
  refine own_go (fun tz kz => XT.lload X0.here hx rfl (hb hby d1_27) rfl kz) ?_
  show own_Go p.tables e below _ s₁ (mkF m 29 #[.val (.long q1), .second, .val (.long (-7046029254386353131 : Int64)), .second, .val (.long (-4658895280553007687 : Int64)), .second, .val (.long (-7723592293110705685 : Int64)), .second, .val (.long z1), .second] [(.long z1)])
  refine own_go (fun tz kz => XT.lload X0.here hx rfl (hb hby d1_29) rfl kz) ?_
  show own_Go p.tables e below _ s₁ (mkF m 31 #[.val (.long q1), .second, .val (.long (-7046029254386353131 : Int64)), .second, .val (.long (-4658895280553007687 : Int64)), .second, .val (.long (-7723592293110705685 : Int64)), .second, .val (.long z1), .second] [(.long (-7723592293110705685 : Int64)), (.long z1)])
  obtain ⟨_, _, ⟨T1, L1, k1, n1⟩, -, X1, ⟨Lc1, hQ1, l1, y1, z1⟩, st1⟩ := Jvm.LawKit.callS X0 hx (y := (⟨"com/example/gunline/gunline/core/SeededDiceRollPinLaw", "inverse", "(J)J"⟩ : MethodName)) hown (mvT hZ (hw _ (List.mem_of_getElem? (i := 12) rfl))) (mvT hZ (hw _ (List.mem_of_getElem? (i := 13) rfl))) (mvT hZ (hw _ (List.mem_of_getElem? (i := 7) rfl))) (mvT hZ (hw _ (List.mem_of_getElem? (i := 14) rfl))) (by decide) (backOf (W := 2) (rm2 l Z a0 hw [] (-7723592293110705685 : Int64) h0 n0 Z0) hZ (hw _ (List.mem_of_getElem? (i := 14) rfl)) (hw _ (List.mem_of_getElem? (i := 7) rfl)) (by decide) (by decide)) (g := (mkF m 31 #[.val (.long q1), .second, .val (.long (-7046029254386353131 : Int64)), .second, .val (.long (-4658895280553007687 : Int64)), .second, .val (.long (-7723592293110705685 : Int64)), .second, .val (.long z1), .second] [(.long (-7723592293110705685 : Int64)), (.long z1)])) rfl (by rw [hml]; rfl) (argsL := [(.long (-7723592293110705685 : Int64))]) (rest := [(.long z1)]) (lenOf pd_0 rfl) rfl (by show 2 * 0 + _ ≤ _; exact Nat.le_of_eq rfl) (hb hby d1_31) (fun _ _ => ⟨rfl, e0, (by decide : 0 + 0 ≤ _), (by decide : 0 + 0 ≤ _)⟩)
  dsimp only [Pt.U, Pt.locs, Pt.cells, Pt.slots] at X1 l1 y1 z1 st1 hQ1
  subst l1 y1 z1
  obtain ⟨rfl, N1q, e1⟩ := hQ1
  have N1 := Fr.app N0 N1q
  refine own_go (fun tz kz => st1 tz kz) ?_
  show own_Go p.tables e below _ T1 (mkF m 34 #[.val (.long q1), .second, .val (.long (-7046029254386353131 : Int64)), .second, .val (.long (-4658895280553007687 : Int64)), .second, .val (.long (-7723592293110705685 : Int64)), .second, .val (.long z1), .second] [(.long (own_inv (-7723592293110705685 : Int64))), (.long z1)])
  refine own_go (fun tz kz => XT.lmul X1.here hx rfl (hb hby d1_34) rfl kz) ?_
  show own_Go p.tables e below _ T1 (mkF m 35 #[.val (.long q1), .second, .val (.long (-7046029254386353131 : Int64)), .second, .val (.long (-4658895280553007687 : Int64)), .second, .val (.long (-7723592293110705685 : Int64)), .second, .val (.long z1), .second] [(.long (z1 * (own_inv (-7723592293110705685 : Int64))))])
  generalize gz2 : (z1 * (own_inv (-7723592293110705685 : Int64))) = z2
  show own_Go p.tables e below _ T1 (mkF m 35 #[.val (.long q1), .second, .val (.long (-7046029254386353131 : Int64)), .second, .val (.long (-4658895280553007687 : Int64)), .second, .val (.long (-7723592293110705685 : Int64)), .second, .val (.long z1), .second] [(.long z2)])
  refine own_go (fun tz kz => XT.lstore X1.here hx rfl (hb hby d1_35) rfl (l' := #[.val (.long q1), .second, .val (.long (-7046029254386353131 : Int64)), .second, .val (.long (-4658895280553007687 : Int64)), .second, .val (.long (-7723592293110705685 : Int64)), .second, .val (.long z2), .second]) rfl kz) ?_
  show own_Go p.tables e below _ T1 (mkF m 37 #[.val (.long q1), .second, .val (.long (-7046029254386353131 : Int64)), .second, .val (.long (-4658895280553007687 : Int64)), .second, .val (.long (-7723592293110705685 : Int64)), .second, .val (.long z2), .second] [])
  refine own_go (fun tz kz => XT.lload X1.here hx rfl (hb hby d1_37) rfl kz) ?_
  show own_Go p.tables e below _ T1 (mkF m 39 #[.val (.long q1), .second, .val (.long (-7046029254386353131 : Int64)), .second, .val (.long (-4658895280553007687 : Int64)), .second, .val (.long (-7723592293110705685 : Int64)), .second, .val (.long z2), .second] [(.long z2)])
  refine own_go (fun tz kz => XT.lload X1.here hx rfl (hb hby d1_39) rfl kz) ?_
  show own_Go p.tables e below _ T1 (mkF m 41 #[.val (.long q1), .second, .val (.long (-7046029254386353131 : Int64)), .second, .val (.long (-4658895280553007687 : Int64)), .second, .val (.long (-7723592293110705685 : Int64)), .second, .val (.long z2), .second] [(.long z2), (.long z2)])
  refine own_go (fun tz kz => XS.bipush X1.here hx rfl (hb hby d1_41) kz) ?_
  show own_Go p.tables e below _ T1 (mkF m 43 #[.val (.long q1), .second, .val (.long (-7046029254386353131 : Int64)), .second, .val (.long (-4658895280553007687 : Int64)), .second, .val (.long (-7723592293110705685 : Int64)), .second, .val (.long z2), .second] [(.int (27 : Int32)), (.long z2), (.long z2)])
  refine own_go (fun tz kz => XT.lushr X1.here hx rfl (hb hby d1_43) rfl kz) ?_
  show own_Go p.tables e below _ T1 (mkF m 44 #[.val (.long q1), .second, .val (.long (-7046029254386353131 : Int64)), .second, .val (.long (-4658895280553007687 : Int64)), .second, .val (.long (-7723592293110705685 : Int64)), .second, .val (.long z2), .second] [(.long (XT.ushrL z2 (27 : Int32))), (.long z2)])
  refine own_go (fun tz kz => XT.lxor X1.here hx rfl (hb hby d1_44) rfl kz) ?_
  show own_Go p.tables e below _ T1 (mkF m 45 #[.val (.long q1), .second, .val (.long (-7046029254386353131 : Int64)), .second, .val (.long (-4658895280553007687 : Int64)), .second, .val (.long (-7723592293110705685 : Int64)), .second, .val (.long z2), .second] [(.long (z2 ^^^ (XT.ushrL z2 (27 : Int32))))])
  refine own_go (fun tz kz => XT.lload X1.here hx rfl (hb hby d1_45) rfl kz) ?_
  show own_Go p.tables e below _ T1 (mkF m 47 #[.val (.long q1), .second, .val (.long (-7046029254386353131 : Int64)), .second, .val (.long (-4658895280553007687 : Int64)), .second, .val (.long (-7723592293110705685 : Int64)), .second, .val (.long z2), .second] [(.long z2), (.long (z2 ^^^ (XT.ushrL z2 (27 : Int32))))])
  refine own_go (fun tz kz => XS.bipush X1.here hx rfl (hb hby d1_47) kz) ?_
  show own_Go p.tables e below _ T1 (mkF m 49 #[.val (.long q1), .second, .val (.long (-7046029254386353131 : Int64)), .second, .val (.long (-4658895280553007687 : Int64)), .second, .val (.long (-7723592293110705685 : Int64)), .second, .val (.long z2), .second] [(.int (54 : Int32)), (.long z2), (.long (z2 ^^^ (XT.ushrL z2 (27 : Int32))))])
  refine own_go (fun tz kz => XT.lushr X1.here hx rfl (hb hby d1_49) rfl kz) ?_
  show own_Go p.tables e below _ T1 (mkF m 50 #[.val (.long q1), .second, .val (.long (-7046029254386353131 : Int64)), .second, .val (.long (-4658895280553007687 : Int64)), .second, .val (.long (-7723592293110705685 : Int64)), .second, .val (.long z2), .second] [(.long (XT.ushrL z2 (54 : Int32))), (.long (z2 ^^^ (XT.ushrL z2 (27 : Int32))))])
  refine own_go (fun tz kz => XT.lxor X1.here hx rfl (hb hby d1_50) rfl kz) ?_
  show own_Go p.tables e below _ T1 (mkF m 51 #[.val (.long q1), .second, .val (.long (-7046029254386353131 : Int64)), .second, .val (.long (-4658895280553007687 : Int64)), .second, .val (.long (-7723592293110705685 : Int64)), .second, .val (.long z2), .second] [(.long ((z2 ^^^ (XT.ushrL z2 (27 : Int32))) ^^^ (XT.ushrL z2 (54 : Int32))))])
  generalize gz3 : ((z2 ^^^ (XT.ushrL z2 (27 : Int32))) ^^^ (XT.ushrL z2 (54 : Int32))) = z3
  show own_Go p.tables e below _ T1 (mkF m 51 #[.val (.long q1), .second, .val (.long (-7046029254386353131 : Int64)), .second, .val (.long (-4658895280553007687 : Int64)), .second, .val (.long (-7723592293110705685 : Int64)), .second, .val (.long z2), .second] [(.long z3)])
  refine own_go (fun tz kz => XT.lstore X1.here hx rfl (hb hby d1_51) rfl (l' := #[.val (.long q1), .second, .val (.long (-7046029254386353131 : Int64)), .second, .val (.long (-4658895280553007687 : Int64)), .second, .val (.long (-7723592293110705685 : Int64)), .second, .val (.long z3), .second]) rfl kz) ?_
  show own_Go p.tables e below _ T1 (mkF m 53 #[.val (.long q1), .second, .val (.long (-7046029254386353131 : Int64)), .second, .val (.long (-4658895280553007687 : Int64)), .second, .val (.long (-7723592293110705685 : Int64)), .second, .val (.long z3), .second] [])
  refine own_go (fun tz kz => XT.lload X1.here hx rfl (hb hby d1_53) rfl kz) ?_
  show own_Go p.tables e below _ T1 (mkF m 55 #[.val (.long q1), .second, .val (.long (-7046029254386353131 : Int64)), .second, .val (.long (-4658895280553007687 : Int64)), .second, .val (.long (-7723592293110705685 : Int64)), .second, .val (.long z3), .second] [(.long z3)])
  refine own_go (fun tz kz => XT.lload X1.here hx rfl (hb hby d1_55) rfl kz) ?_
  show own_Go p.tables e below _ T1 (mkF m 57 #[.val (.long q1), .second, .val (.long (-7046029254386353131 : Int64)), .second, .val (.long (-4658895280553007687 : Int64)), .second, .val (.long (-7723592293110705685 : Int64)), .second, .val (.long z3), .second] [(.long (-4658895280553007687 : Int64)), (.long z3)])
  obtain ⟨_, _, ⟨T2, L2, k2, n2⟩, -, X2, ⟨Lc2, hQ2, l2, y2, z2⟩, st2⟩ := Jvm.LawKit.callS X1 hx (y := (⟨"com/example/gunline/gunline/core/SeededDiceRollPinLaw", "inverse", "(J)J"⟩ : MethodName)) hown (mvT hZ (hw _ (List.mem_of_getElem? (i := 12) rfl))) (mvT hZ (hw _ (List.mem_of_getElem? (i := 13) rfl))) (mvT hZ (hw _ (List.mem_of_getElem? (i := 7) rfl))) (mvT hZ (hw _ (List.mem_of_getElem? (i := 14) rfl))) (by decide) (backOf (W := 2) (rm2 l Z a0 hw [] (-4658895280553007687 : Int64) h0 n0 Z0) hZ (hw _ (List.mem_of_getElem? (i := 14) rfl)) (hw _ (List.mem_of_getElem? (i := 7) rfl)) (by decide) (by decide)) (g := (mkF m 57 #[.val (.long q1), .second, .val (.long (-7046029254386353131 : Int64)), .second, .val (.long (-4658895280553007687 : Int64)), .second, .val (.long (-7723592293110705685 : Int64)), .second, .val (.long z3), .second] [(.long (-4658895280553007687 : Int64)), (.long z3)])) rfl (by rw [hml]; rfl) (argsL := [(.long (-4658895280553007687 : Int64))]) (rest := [(.long z3)]) (lenOf pd_0 rfl) rfl (by show 2 * 0 + _ ≤ _; exact Nat.le_of_eq rfl) (hb hby d1_57) (fun _ _ => ⟨rfl, e1, (by decide : 0 + 0 ≤ _), (by decide : 0 + 0 ≤ _)⟩)
  dsimp only [Pt.U, Pt.locs, Pt.cells, Pt.slots] at X2 l2 y2 z2 st2 hQ2
  subst l2 y2 z2
  obtain ⟨rfl, N2q, e2⟩ := hQ2
  have N2 := Fr.app N1 N2q
  refine own_go (fun tz kz => st2 tz kz) ?_
  show own_Go p.tables e below _ T2 (mkF m 60 #[.val (.long q1), .second, .val (.long (-7046029254386353131 : Int64)), .second, .val (.long (-4658895280553007687 : Int64)), .second, .val (.long (-7723592293110705685 : Int64)), .second, .val (.long z3), .second] [(.long (own_inv (-4658895280553007687 : Int64))), (.long z3)])
  refine own_go (fun tz kz => XT.lmul X2.here hx rfl (hb hby d1_60) rfl kz) ?_
  show own_Go p.tables e below _ T2 (mkF m 61 #[.val (.long q1), .second, .val (.long (-7046029254386353131 : Int64)), .second, .val (.long (-4658895280553007687 : Int64)), .second, .val (.long (-7723592293110705685 : Int64)), .second, .val (.long z3), .second] [(.long (z3 * (own_inv (-4658895280553007687 : Int64))))])
  generalize gz4 : (z3 * (own_inv (-4658895280553007687 : Int64))) = z4
  show own_Go p.tables e below _ T2 (mkF m 61 #[.val (.long q1), .second, .val (.long (-7046029254386353131 : Int64)), .second, .val (.long (-4658895280553007687 : Int64)), .second, .val (.long (-7723592293110705685 : Int64)), .second, .val (.long z3), .second] [(.long z4)])
  refine own_go (fun tz kz => XT.lstore X2.here hx rfl (hb hby d1_61) rfl (l' := #[.val (.long q1), .second, .val (.long (-7046029254386353131 : Int64)), .second, .val (.long (-4658895280553007687 : Int64)), .second, .val (.long (-7723592293110705685 : Int64)), .second, .val (.long z4), .second]) rfl kz) ?_
  show own_Go p.tables e below _ T2 (mkF m 63 #[.val (.long q1), .second, .val (.long (-7046029254386353131 : Int64)), .second, .val (.long (-4658895280553007687 : Int64)), .second, .val (.long (-7723592293110705685 : Int64)), .second, .val (.long z4), .second] [])
  refine own_go (fun tz kz => XT.lload X2.here hx rfl (hb hby d1_63) rfl kz) ?_
  show own_Go p.tables e below _ T2 (mkF m 65 #[.val (.long q1), .second, .val (.long (-7046029254386353131 : Int64)), .second, .val (.long (-4658895280553007687 : Int64)), .second, .val (.long (-7723592293110705685 : Int64)), .second, .val (.long z4), .second] [(.long z4)])
  refine own_go (fun tz kz => XT.lload X2.here hx rfl (hb hby d1_65) rfl kz) ?_
  show own_Go p.tables e below _ T2 (mkF m 67 #[.val (.long q1), .second, .val (.long (-7046029254386353131 : Int64)), .second, .val (.long (-4658895280553007687 : Int64)), .second, .val (.long (-7723592293110705685 : Int64)), .second, .val (.long z4), .second] [(.long z4), (.long z4)])
  refine own_go (fun tz kz => XS.bipush X2.here hx rfl (hb hby d1_67) kz) ?_
  show own_Go p.tables e below _ T2 (mkF m 69 #[.val (.long q1), .second, .val (.long (-7046029254386353131 : Int64)), .second, .val (.long (-4658895280553007687 : Int64)), .second, .val (.long (-7723592293110705685 : Int64)), .second, .val (.long z4), .second] [(.int (30 : Int32)), (.long z4), (.long z4)])
  refine own_go (fun tz kz => XT.lushr X2.here hx rfl (hb hby d1_69) rfl kz) ?_
  show own_Go p.tables e below _ T2 (mkF m 70 #[.val (.long q1), .second, .val (.long (-7046029254386353131 : Int64)), .second, .val (.long (-4658895280553007687 : Int64)), .second, .val (.long (-7723592293110705685 : Int64)), .second, .val (.long z4), .second] [(.long (XT.ushrL z4 (30 : Int32))), (.long z4)])
  refine own_go (fun tz kz => XT.lxor X2.here hx rfl (hb hby d1_70) rfl kz) ?_
  show own_Go p.tables e below _ T2 (mkF m 71 #[.val (.long q1), .second, .val (.long (-7046029254386353131 : Int64)), .second, .val (.long (-4658895280553007687 : Int64)), .second, .val (.long (-7723592293110705685 : Int64)), .second, .val (.long z4), .second] [(.long (z4 ^^^ (XT.ushrL z4 (30 : Int32))))])
  refine own_go (fun tz kz => XT.lload X2.here hx rfl (hb hby d1_71) rfl kz) ?_
  show own_Go p.tables e below _ T2 (mkF m 73 #[.val (.long q1), .second, .val (.long (-7046029254386353131 : Int64)), .second, .val (.long (-4658895280553007687 : Int64)), .second, .val (.long (-7723592293110705685 : Int64)), .second, .val (.long z4), .second] [(.long z4), (.long (z4 ^^^ (XT.ushrL z4 (30 : Int32))))])
  refine own_go (fun tz kz => XS.bipush X2.here hx rfl (hb hby d1_73) kz) ?_
  show own_Go p.tables e below _ T2 (mkF m 75 #[.val (.long q1), .second, .val (.long (-7046029254386353131 : Int64)), .second, .val (.long (-4658895280553007687 : Int64)), .second, .val (.long (-7723592293110705685 : Int64)), .second, .val (.long z4), .second] [(.int (60 : Int32)), (.long z4), (.long (z4 ^^^ (XT.ushrL z4 (30 : Int32))))])
  refine own_go (fun tz kz => XT.lushr X2.here hx rfl (hb hby d1_75) rfl kz) ?_
  show own_Go p.tables e below _ T2 (mkF m 76 #[.val (.long q1), .second, .val (.long (-7046029254386353131 : Int64)), .second, .val (.long (-4658895280553007687 : Int64)), .second, .val (.long (-7723592293110705685 : Int64)), .second, .val (.long z4), .second] [(.long (XT.ushrL z4 (60 : Int32))), (.long (z4 ^^^ (XT.ushrL z4 (30 : Int32))))])
  refine own_go (fun tz kz => XT.lxor X2.here hx rfl (hb hby d1_76) rfl kz) ?_
  show own_Go p.tables e below _ T2 (mkF m 77 #[.val (.long q1), .second, .val (.long (-7046029254386353131 : Int64)), .second, .val (.long (-4658895280553007687 : Int64)), .second, .val (.long (-7723592293110705685 : Int64)), .second, .val (.long z4), .second] [(.long ((z4 ^^^ (XT.ushrL z4 (30 : Int32))) ^^^ (XT.ushrL z4 (60 : Int32))))])
  refine own_go (fun tz kz => XT.lstore X2.here hx rfl (hb hby d1_77) rfl (l' := #[.val (.long q1), .second, .val (.long (-7046029254386353131 : Int64)), .second, .val (.long (-4658895280553007687 : Int64)), .second, .val (.long (-7723592293110705685 : Int64)), .second, .val (.long ((z4 ^^^ (XT.ushrL z4 (30 : Int32))) ^^^ (XT.ushrL z4 (60 : Int32)))), .second]) rfl kz) ?_
  show own_Go p.tables e below _ T2 (mkF m 79 #[.val (.long q1), .second, .val (.long (-7046029254386353131 : Int64)), .second, .val (.long (-4658895280553007687 : Int64)), .second, .val (.long (-7723592293110705685 : Int64)), .second, .val (.long ((z4 ^^^ (XT.ushrL z4 (30 : Int32))) ^^^ (XT.ushrL z4 (60 : Int32)))), .second] [])
  refine own_go (fun tz kz => XT.lload X2.here hx rfl (hb hby d1_79) rfl kz) ?_
  show own_Go p.tables e below _ T2 (mkF m 81 #[.val (.long q1), .second, .val (.long (-7046029254386353131 : Int64)), .second, .val (.long (-4658895280553007687 : Int64)), .second, .val (.long (-7723592293110705685 : Int64)), .second, .val (.long ((z4 ^^^ (XT.ushrL z4 (30 : Int32))) ^^^ (XT.ushrL z4 (60 : Int32)))), .second] [(.long ((z4 ^^^ (XT.ushrL z4 (30 : Int32))) ^^^ (XT.ushrL z4 (60 : Int32))))])
  refine own_go (fun tz kz => XT.lloadN X2.here hx rfl (hb hby d1_81) rfl kz) ?_
  show own_Go p.tables e below _ T2 (mkF m 82 #[.val (.long q1), .second, .val (.long (-7046029254386353131 : Int64)), .second, .val (.long (-4658895280553007687 : Int64)), .second, .val (.long (-7723592293110705685 : Int64)), .second, .val (.long ((z4 ^^^ (XT.ushrL z4 (30 : Int32))) ^^^ (XT.ushrL z4 (60 : Int32)))), .second] [(.long (-7046029254386353131 : Int64)), (.long ((z4 ^^^ (XT.ushrL z4 (30 : Int32))) ^^^ (XT.ushrL z4 (60 : Int32))))])
  refine own_go (fun tz kz => XT.lsub X2.here hx rfl (hb hby d1_82) rfl kz) ?_
  show own_Go p.tables e below _ T2 (mkF m 83 #[.val (.long q1), .second, .val (.long (-7046029254386353131 : Int64)), .second, .val (.long (-4658895280553007687 : Int64)), .second, .val (.long (-7723592293110705685 : Int64)), .second, .val (.long ((z4 ^^^ (XT.ushrL z4 (30 : Int32))) ^^^ (XT.ushrL z4 (60 : Int32)))), .second] [(.long (((z4 ^^^ (XT.ushrL z4 (30 : Int32))) ^^^ (XT.ushrL z4 (60 : Int32))) - (-7046029254386353131 : Int64)))])
  obtain ⟨fs, hr, hrun, hended, hW, hsame⟩ := X2.leave (v := some (.long (((z4 ^^^ (XT.ushrL z4 (30 : Int32))) ^^^ (XT.ushrL z4 (60 : Int32))) - (-7046029254386353131 : Int64)))) (fun h => by rw [Bd.returns] at h; cases h) (BodyLoose.notSynchronized Bd)
  refine ⟨_, _, ?_, hrun, hended, _, _, rfl, ?_, ⟨_, rfl⟩, hW, hsame.mono (by decide) (by decide)⟩
  · exact X2.lreturnOut hx Bd.returns (hb hby d1_83) hr
  · show Q1 Z q1 h0 n0 _ T2.heap _
    rw [e2]
    exact ⟨N2, rfl, _, rfl⟩
theorem d7_0 : decode method_3_code 0 = .ok (.ldc2_w 13, 3) := by decide +kernel
theorem d7_3 : decode method_3_code 3 = .ok (.iload_n 2, 1) := by decide +kernel
theorem d7_4 : decode method_3_code 4 = .ok (.i2l, 1) := by decide +kernel
theorem d7_5 : decode method_3_code 5 = .ok (.ldiv, 1) := by decide +kernel
theorem d7_6 : decode method_3_code 6 = .ok (.lstore_n 3, 1) := by decide +kernel
theorem d7_7 : decode method_3_code 7 = .ok (.ldc2_w 13, 3) := by decide +kernel
theorem d7_10 : decode method_3_code 10 = .ok (.iload_n 2, 1) := by decide +kernel
theorem d7_11 : decode method_3_code 11 = .ok (.i2l, 1) := by decide +kernel
theorem d7_12 : decode method_3_code 12 = .ok (.lrem, 1) := by decide +kernel
theorem d7_13 : decode method_3_code 13 = .ok (.lstore 5, 2) := by decide +kernel
theorem d7_15 : decode method_3_code 15 = .ok (.lload 5, 2) := by decide +kernel
theorem d7_17 : decode method_3_code 17 = .ok (.iload_n 2, 1) := by decide +kernel
theorem d7_18 : decode method_3_code 18 = .ok (.iconst 1, 1) := by decide +kernel
theorem d7_19 : decode method_3_code 19 = .ok (.isub, 1) := by decide +kernel
theorem d7_20 : decode method_3_code 20 = .ok (.i2l, 1) := by decide +kernel
theorem d7_21 : decode method_3_code 21 = .ok (.lcmp, 1) := by decide +kernel
theorem d7_22 : decode method_3_code 22 = .ok (.ifCond .ne 5, 3) := by decide +kernel
theorem d7_25 : decode method_3_code 25 = .ok (.iconst 1, 1) := by decide +kernel
theorem d7_26 : decode method_3_code 26 = .ok (.ireturn, 1) := by decide +kernel
theorem d7_27 : decode method_3_code 27 = .ok (.lload_n 0, 1) := by decide +kernel
theorem d7_28 : decode method_3_code 28 = .ok (.lload_n 3, 1) := by decide +kernel
theorem d7_29 : decode method_3_code 29 = .ok (.iload_n 2, 1) := by decide +kernel
theorem d7_30 : decode method_3_code 30 = .ok (.i2l, 1) := by decide +kernel
theorem d7_31 : decode method_3_code 31 = .ok (.lmul, 1) := by decide +kernel
theorem d7_32 : decode method_3_code 32 = .ok (.lcmp, 1) := by decide +kernel
theorem d7_33 : decode method_3_code 33 = .ok (.ifCond .ge 7, 3) := by decide +kernel
theorem d7_36 : decode method_3_code 36 = .ok (.iconst 1, 1) := by decide +kernel
theorem d7_37 : decode method_3_code 37 = .ok (.goto 4, 3) := by decide +kernel
theorem d7_40 : decode method_3_code 40 = .ok (.iconst 0, 1) := by decide +kernel
theorem d7_41 : decode method_3_code 41 = .ok (.ireturn, 1) := by decide +kernel
theorem ef_7 (m : MethodId) {q1 : Int64} {p2 : Int32} : entryFrame m #[(.long q1), (.int p2)] 7 = mkF m 0 #[.val (.long q1), .second, .val (.int p2), .unset, .unset, .unset, .unset] [] := by first | (simp [entryFrame, mkF, argsToLocals, Value.category]; done) | rfl
def Q7 (Z : State) (q1 : Int64) (p2 : Int32) (h0 : Heap) (n0 : Nat) (v : Option Value) (h : Heap) (L : List Loc) : Prop := v = some (.int (own_acc q1 p2)) ∧ Fr n0 L ∧ h = h0
set_option maxRecDepth 65536 in
set_option maxHeartbeats 40000000 in
theorem rm7 (l : Launch) (Z : State) (a0 : Array Value) (hw : ∀ d ∈ tables_1, d.before a0 Z = true) (ws : List Jvm.Cond) (q1 : Int64) (p2 : Int32) (h0 : Heap) (n0 : Nat) (Z0 : n0 ≤ h0.size) (hs : p2.toInt64 ≠ 0) :
    MetFree l (⟨"com/example/gunline/gunline/core/SeededDiceRollPinLaw", "accepts", "(JI)Z"⟩ : MethodName) (head1 (Jvm.Cond.code (⟨"com/example/gunline/gunline/core/SeededDiceRollPinLaw", "accepts", "(JI)Z"⟩ : MethodName) method_3_code 7 (some .boolean) :: ws) ({ frames := 0, cells := 0, slots := 0, locals := 0 } : Room)) (fun a U => a = #[(.long q1), (.int p2)] ∧ Z.Warmed39 U.vm ∧ U.heap = h0) (fun _ _ _ _ _ => True) (fun _ U o U' => ∃ v L, o = .returned v ∧ Q7 Z q1 p2 h0 n0 v U'.heap L ∧ FrameEnd U o U' L (({ frames := 0, cells := 0, slots := 0, locals := 0 } : Room)).cells (({ frames := 0, cells := 0, slots := 0, locals := 0 } : Room)).slots) := by
  refine MetFree.of_bodySF (plainFor_of_name pn_1) hisR ?_
  intro p e s m args below meth c s₁ Bd hml0 hP hK
  obtain ⟨rfl, hZ, hh⟩ := hP
  have hx := Bd.exec
  have hby := Bd.bytes
  have hml : c.maxLocals = 7 := hml0
  have hown : s.vm.findClass "com/example/gunline/gunline/core/SeededDiceRollPinLaw" = some m.cls := findClass_of_methodNamed Bd.named
  have hnm := (name_of_methodNamed Bd.named Bd.method).1
  have X0 : Stand p l e ({ frames := 0, cells := 0, slots := 0, locals := 0 } : Room) s m #[(.long q1), (.int p2)] below meth c s₁ [] 0 0 := Stand.of_body Bd
  have e0 : s₁.heap = h0 := by rw [← hh, Bd.state]; rfl
  have N0 := Fr.nil n0
  show own_Go p.tables e below (own_P s (Q7 Z q1 p2 h0 n0) ({ frames := 0, cells := 0, slots := 0, locals := 0 } : Room).cells ({ frames := 0, cells := 0, slots := 0, locals := 0 } : Room).slots) s₁ _
  rw [ef_7]
  show own_Go p.tables e below _ s₁ (mkF m 0 #[.val (.long q1), .second, .val (.int p2), .unset, .unset, .unset, .unset] [])
  refine own_go (fun tz kz => X0.ldc2J hx hown (mvT hZ (hw _ (List.mem_of_getElem? (i := 2) rfl))) rfl (hb hby d7_0) kz) ?_
  show own_Go p.tables e below _ s₁ (mkF m 3 #[.val (.long q1), .second, .val (.int p2), .unset, .unset, .unset, .unset] [(.long (9223372036854775807 : Int64))])
  refine own_go (fun tz kz => XS.iloadN X0.here hx rfl (hb hby d7_3) rfl kz) ?_
  show own_Go p.tables e below _ s₁ (mkF m 4 #[.val (.long q1), .second, .val (.int p2), .unset, .unset, .unset, .unset] [(.int p2), (.long (9223372036854775807 : Int64))])
  refine own_go (fun tz kz => XT.i2l X0.here hx rfl (hb hby d7_4) rfl kz) ?_
  show own_Go p.tables e below _ s₁ (mkF m 5 #[.val (.long q1), .second, .val (.int p2), .unset, .unset, .unset, .unset] [(.long p2.toInt64), (.long (9223372036854775807 : Int64))])
  refine own_go (fun tz kz => XT.ldiv X0.here hx rfl (hb hby d7_5) rfl hs kz) ?_
  show own_Go p.tables e below _ s₁ (mkF m 6 #[.val (.long q1), .second, .val (.int p2), .unset, .unset, .unset, .unset] [(.long ((9223372036854775807 : Int64) / p2.toInt64))])
  refine own_go (fun tz kz => XT.lstoreN X0.here hx rfl (hb hby d7_6) rfl (l' := #[.val (.long q1), .second, .val (.int p2), .val (.long ((9223372036854775807 : Int64) / p2.toInt64)), .second, .unset, .unset]) rfl kz) ?_
  show own_Go p.tables e below _ s₁ (mkF m 7 #[.val (.long q1), .second, .val (.int p2), .val (.long ((9223372036854775807 : Int64) / p2.toInt64)), .second, .unset, .unset] [])
  refine own_go (fun tz kz => X0.ldc2J hx hown (mvT hZ (hw _ (List.mem_of_getElem? (i := 2) rfl))) rfl (hb hby d7_7) kz) ?_
  show own_Go p.tables e below _ s₁ (mkF m 10 #[.val (.long q1), .second, .val (.int p2), .val (.long ((9223372036854775807 : Int64) / p2.toInt64)), .second, .unset, .unset] [(.long (9223372036854775807 : Int64))])
  refine own_go (fun tz kz => XS.iloadN X0.here hx rfl (hb hby d7_10) rfl kz) ?_
  show own_Go p.tables e below _ s₁ (mkF m 11 #[.val (.long q1), .second, .val (.int p2), .val (.long ((9223372036854775807 : Int64) / p2.toInt64)), .second, .unset, .unset] [(.int p2), (.long (9223372036854775807 : Int64))])
  refine own_go (fun tz kz => XT.i2l X0.here hx rfl (hb hby d7_11) rfl kz) ?_
  show own_Go p.tables e below _ s₁ (mkF m 12 #[.val (.long q1), .second, .val (.int p2), .val (.long ((9223372036854775807 : Int64) / p2.toInt64)), .second, .unset, .unset] [(.long p2.toInt64), (.long (9223372036854775807 : Int64))])
  refine own_go (fun tz kz => XT.lrem X0.here hx rfl (hb hby d7_12) rfl hs kz) ?_
  show own_Go p.tables e below _ s₁ (mkF m 13 #[.val (.long q1), .second, .val (.int p2), .val (.long ((9223372036854775807 : Int64) / p2.toInt64)), .second, .unset, .unset] [(.long ((9223372036854775807 : Int64) - ((9223372036854775807 : Int64) / p2.toInt64) * p2.toInt64))])
  show own_Go p.tables e below _ s₁ (mkF m 13 #[.val (.long q1), .second, .val (.int p2), .val (.long ((9223372036854775807 : Int64) / p2.toInt64)), .second, .unset, .unset] [(.long (own_rm (9223372036854775807 : Int64) p2))])
  refine own_go (fun tz kz => XT.lstore X0.here hx rfl (hb hby d7_13) rfl (l' := #[.val (.long q1), .second, .val (.int p2), .val (.long ((9223372036854775807 : Int64) / p2.toInt64)), .second, .val (.long (own_rm (9223372036854775807 : Int64) p2)), .second]) rfl kz) ?_
  show own_Go p.tables e below _ s₁ (mkF m 15 #[.val (.long q1), .second, .val (.int p2), .val (.long ((9223372036854775807 : Int64) / p2.toInt64)), .second, .val (.long (own_rm (9223372036854775807 : Int64) p2)), .second] [])
  refine own_go (fun tz kz => XT.lload X0.here hx rfl (hb hby d7_15) rfl kz) ?_
  show own_Go p.tables e below _ s₁ (mkF m 17 #[.val (.long q1), .second, .val (.int p2), .val (.long ((9223372036854775807 : Int64) / p2.toInt64)), .second, .val (.long (own_rm (9223372036854775807 : Int64) p2)), .second] [(.long (own_rm (9223372036854775807 : Int64) p2))])
  refine own_go (fun tz kz => XS.iloadN X0.here hx rfl (hb hby d7_17) rfl kz) ?_
  show own_Go p.tables e below _ s₁ (mkF m 18 #[.val (.long q1), .second, .val (.int p2), .val (.long ((9223372036854775807 : Int64) / p2.toInt64)), .second, .val (.long (own_rm (9223372036854775807 : Int64) p2)), .second] [(.int p2), (.long (own_rm (9223372036854775807 : Int64) p2))])
  refine own_go (fun tz kz => XS.iconst X0.here hx rfl (hb hby d7_18) kz) ?_
  show own_Go p.tables e below _ s₁ (mkF m 19 #[.val (.long q1), .second, .val (.int p2), .val (.long ((9223372036854775807 : Int64) / p2.toInt64)), .second, .val (.long (own_rm (9223372036854775807 : Int64) p2)), .second] [(.int (1 : Int32)), (.int p2), (.long (own_rm (9223372036854775807 : Int64) p2))])
  refine own_go (fun tz kz => XS.isub X0.here hx rfl (hb hby d7_19) rfl kz) ?_
  show own_Go p.tables e below _ s₁ (mkF m 20 #[.val (.long q1), .second, .val (.int p2), .val (.long ((9223372036854775807 : Int64) / p2.toInt64)), .second, .val (.long (own_rm (9223372036854775807 : Int64) p2)), .second] [(.int (p2 - (1 : Int32))), (.long (own_rm (9223372036854775807 : Int64) p2))])
  refine own_go (fun tz kz => XT.i2l X0.here hx rfl (hb hby d7_20) rfl kz) ?_
  show own_Go p.tables e below _ s₁ (mkF m 21 #[.val (.long q1), .second, .val (.int p2), .val (.long ((9223372036854775807 : Int64) / p2.toInt64)), .second, .val (.long (own_rm (9223372036854775807 : Int64) p2)), .second] [(.long (p2 - (1 : Int32)).toInt64), (.long (own_rm (9223372036854775807 : Int64) p2))])
  refine own_go (fun tz kz => XT.lcmp X0.here hx rfl (hb hby d7_21) rfl kz) ?_
  show own_Go p.tables e below _ s₁ (mkF m 22 #[.val (.long q1), .second, .val (.int p2), .val (.long ((9223372036854775807 : Int64) / p2.toInt64)), .second, .val (.long (own_rm (9223372036854775807 : Int64) p2)), .second] [(.int (XT.cmpL (own_rm (9223372036854775807 : Int64) p2) (p2 - (1 : Int32)).toInt64))])
  by_cases ha : (own_rm (9223372036854775807 : Int64) p2) = (p2 - (1 : Int32)).toInt64
  ·
    refine own_go (fun tz kz => XS.ifNo X0.here hx rfl (hb hby d7_22) rfl (XT.ll_ne_f ha) kz) ?_
    show own_Go p.tables e below _ s₁ (mkF m 25 #[.val (.long q1), .second, .val (.int p2), .val (.long ((9223372036854775807 : Int64) / p2.toInt64)), .second, .val (.long (own_rm (9223372036854775807 : Int64) p2)), .second] [])
    refine own_go (fun tz kz => XS.iconst X0.here hx rfl (hb hby d7_25) kz) ?_
    show own_Go p.tables e below _ s₁ (mkF m 26 #[.val (.long q1), .second, .val (.int p2), .val (.long ((9223372036854775807 : Int64) / p2.toInt64)), .second, .val (.long (own_rm (9223372036854775807 : Int64) p2)), .second] [(.int (1 : Int32))])
    obtain ⟨fs, hr, hrun, hended, hW, hsame⟩ := X0.leave (v := some (.int (1 : Int32))) (fun h => by rw [Bd.returns] at h; cases h) (BodyLoose.notSynchronized Bd)
    refine ⟨_, _, ?_, hrun, hended, _, _, rfl, ?_, ⟨_, rfl⟩, hW, hsame.mono (by decide) (by decide)⟩
    · exact retN X0 hx (t := .boolean) Bd.returns (by simp) (hb hby d7_26) hr
    · show Q7 Z q1 p2 h0 n0 _ s₁.heap _
      rw [e0]
      exact ⟨congrArg (fun z => some (Value.int z)) (if_pos ha).symm, N0, rfl⟩
  ·
    refine own_go (fun tz kz => XS.ifYes X0.here hx rfl (pc0 := 22) (pc' := 27) rfl (hb hby d7_22) rfl (XT.ll_ne_t ha) (by decide) (by decide) kz) ?_
    show own_Go p.tables e below _ s₁ (mkF m 27 #[.val (.long q1), .second, .val (.int p2), .val (.long ((9223372036854775807 : Int64) / p2.toInt64)), .second, .val (.long (own_rm (9223372036854775807 : Int64) p2)), .second] [])
    refine own_go (fun tz kz => XT.lloadN X0.here hx rfl (hb hby d7_27) rfl kz) ?_
    show own_Go p.tables e below _ s₁ (mkF m 28 #[.val (.long q1), .second, .val (.int p2), .val (.long ((9223372036854775807 : Int64) / p2.toInt64)), .second, .val (.long (own_rm (9223372036854775807 : Int64) p2)), .second] [(.long q1)])
    refine own_go (fun tz kz => XT.lloadN X0.here hx rfl (hb hby d7_28) rfl kz) ?_
    show own_Go p.tables e below _ s₁ (mkF m 29 #[.val (.long q1), .second, .val (.int p2), .val (.long ((9223372036854775807 : Int64) / p2.toInt64)), .second, .val (.long (own_rm (9223372036854775807 : Int64) p2)), .second] [(.long ((9223372036854775807 : Int64) / p2.toInt64)), (.long q1)])
    refine own_go (fun tz kz => XS.iloadN X0.here hx rfl (hb hby d7_29) rfl kz) ?_
    show own_Go p.tables e below _ s₁ (mkF m 30 #[.val (.long q1), .second, .val (.int p2), .val (.long ((9223372036854775807 : Int64) / p2.toInt64)), .second, .val (.long (own_rm (9223372036854775807 : Int64) p2)), .second] [(.int p2), (.long ((9223372036854775807 : Int64) / p2.toInt64)), (.long q1)])
    refine own_go (fun tz kz => XT.i2l X0.here hx rfl (hb hby d7_30) rfl kz) ?_
    show own_Go p.tables e below _ s₁ (mkF m 31 #[.val (.long q1), .second, .val (.int p2), .val (.long ((9223372036854775807 : Int64) / p2.toInt64)), .second, .val (.long (own_rm (9223372036854775807 : Int64) p2)), .second] [(.long p2.toInt64), (.long ((9223372036854775807 : Int64) / p2.toInt64)), (.long q1)])
    refine own_go (fun tz kz => XT.lmul X0.here hx rfl (hb hby d7_31) rfl kz) ?_
    show own_Go p.tables e below _ s₁ (mkF m 32 #[.val (.long q1), .second, .val (.int p2), .val (.long ((9223372036854775807 : Int64) / p2.toInt64)), .second, .val (.long (own_rm (9223372036854775807 : Int64) p2)), .second] [(.long (((9223372036854775807 : Int64) / p2.toInt64) * p2.toInt64)), (.long q1)])
    refine own_go (fun tz kz => XT.lcmp X0.here hx rfl (hb hby d7_32) rfl kz) ?_
    show own_Go p.tables e below _ s₁ (mkF m 33 #[.val (.long q1), .second, .val (.int p2), .val (.long ((9223372036854775807 : Int64) / p2.toInt64)), .second, .val (.long (own_rm (9223372036854775807 : Int64) p2)), .second] [(.int (XT.cmpL q1 (((9223372036854775807 : Int64) / p2.toInt64) * p2.toInt64)))])
    by_cases hb' : q1 < (((9223372036854775807 : Int64) / p2.toInt64) * p2.toInt64)
    ·
      refine own_go (fun tz kz => XS.ifNo X0.here hx rfl (hb hby d7_33) rfl (XT.ll_ge_f hb') kz) ?_
      show own_Go p.tables e below _ s₁ (mkF m 36 #[.val (.long q1), .second, .val (.int p2), .val (.long ((9223372036854775807 : Int64) / p2.toInt64)), .second, .val (.long (own_rm (9223372036854775807 : Int64) p2)), .second] [])
      refine own_go (fun tz kz => XS.iconst X0.here hx rfl (hb hby d7_36) kz) ?_
      show own_Go p.tables e below _ s₁ (mkF m 37 #[.val (.long q1), .second, .val (.int p2), .val (.long ((9223372036854775807 : Int64) / p2.toInt64)), .second, .val (.long (own_rm (9223372036854775807 : Int64) p2)), .second] [(.int (1 : Int32))])
      refine own_go (fun tz kz => XS.goto X0.here hx rfl (pc0 := 37) (pc' := 41) rfl (hb hby d7_37) (by decide) (by decide) kz) ?_
      show own_Go p.tables e below _ s₁ (mkF m 41 #[.val (.long q1), .second, .val (.int p2), .val (.long ((9223372036854775807 : Int64) / p2.toInt64)), .second, .val (.long (own_rm (9223372036854775807 : Int64) p2)), .second] [(.int (1 : Int32))])
      obtain ⟨fs, hr, hrun, hended, hW, hsame⟩ := X0.leave (v := some (.int (1 : Int32))) (fun h => by rw [Bd.returns] at h; cases h) (BodyLoose.notSynchronized Bd)
      refine ⟨_, _, ?_, hrun, hended, _, _, rfl, ?_, ⟨_, rfl⟩, hW, hsame.mono (by decide) (by decide)⟩
      · exact retN X0 hx (t := .boolean) Bd.returns (by simp) (hb hby d7_41) hr
      · show Q7 Z q1 p2 h0 n0 _ s₁.heap _
        rw [e0]
        exact ⟨congrArg (fun z => some (Value.int z)) ((if_neg ha).trans (if_pos hb')).symm, N0, rfl⟩
    ·
      refine own_go (fun tz kz => XS.ifYes X0.here hx rfl (pc0 := 33) (pc' := 40) rfl (hb hby d7_33) rfl (XT.ll_ge_t hb') (by decide) (by decide) kz) ?_
      show own_Go p.tables e below _ s₁ (mkF m 40 #[.val (.long q1), .second, .val (.int p2), .val (.long ((9223372036854775807 : Int64) / p2.toInt64)), .second, .val (.long (own_rm (9223372036854775807 : Int64) p2)), .second] [])
      refine own_go (fun tz kz => XS.iconst X0.here hx rfl (hb hby d7_40) kz) ?_
      show own_Go p.tables e below _ s₁ (mkF m 41 #[.val (.long q1), .second, .val (.int p2), .val (.long ((9223372036854775807 : Int64) / p2.toInt64)), .second, .val (.long (own_rm (9223372036854775807 : Int64) p2)), .second] [(.int (0 : Int32))])
      obtain ⟨fs, hr, hrun, hended, hW, hsame⟩ := X0.leave (v := some (.int (0 : Int32))) (fun h => by rw [Bd.returns] at h; cases h) (BodyLoose.notSynchronized Bd)
      refine ⟨_, _, ?_, hrun, hended, _, _, rfl, ?_, ⟨_, rfl⟩, hW, hsame.mono (by decide) (by decide)⟩
      · exact retN X0 hx (t := .boolean) Bd.returns (by simp) (hb hby d7_41) hr
      · show Q7 Z q1 p2 h0 n0 _ s₁.heap _
        rw [e0]
        exact ⟨congrArg (fun z => some (Value.int z)) ((if_neg ha).trans (if_neg hb')).symm, N0, rfl⟩
theorem d5_0 : decode prog_96_method_3_code 0 = .ok (.iload_n 1, 1) := by decide +kernel
theorem d5_1 : decode prog_96_method_3_code 1 = .ok (.iconst 2, 1) := by decide +kernel
theorem d5_2 : decode prog_96_method_3_code 2 = .ok (.if_icmp .ge 17, 3) := by decide +kernel
theorem d5_5 : decode prog_96_method_3_code 5 = .ok (.new 19, 3) := by decide +kernel
theorem d5_8 : decode prog_96_method_3_code 8 = .ok (.dup, 1) := by decide +kernel
theorem d5_9 : decode prog_96_method_3_code 9 = .ok (.iload_n 1, 1) := by decide +kernel
theorem d5_10 : decode prog_96_method_3_code 10 = .ok (.invokedynamic 21, 5) := by decide +kernel
theorem d5_15 : decode prog_96_method_3_code 15 = .ok (.invokespecial 25, 3) := by decide +kernel
theorem d5_18 : decode prog_96_method_3_code 18 = .ok (.athrow, 1) := by decide +kernel
theorem d5_19 : decode prog_96_method_3_code 19 = .ok (.ldc2_w 30, 3) := by decide +kernel
theorem d5_22 : decode prog_96_method_3_code 22 = .ok (.iload_n 1, 1) := by decide +kernel
theorem d5_23 : decode prog_96_method_3_code 23 = .ok (.i2l, 1) := by decide +kernel
theorem d5_24 : decode prog_96_method_3_code 24 = .ok (.lrem, 1) := by decide +kernel
theorem d5_25 : decode prog_96_method_3_code 25 = .ok (.lconst 1, 1) := by decide +kernel
theorem d5_26 : decode prog_96_method_3_code 26 = .ok (.ladd, 1) := by decide +kernel
theorem d5_27 : decode prog_96_method_3_code 27 = .ok (.iload_n 1, 1) := by decide +kernel
theorem d5_28 : decode prog_96_method_3_code 28 = .ok (.i2l, 1) := by decide +kernel
theorem d5_29 : decode prog_96_method_3_code 29 = .ok (.lrem, 1) := by decide +kernel
theorem d5_30 : decode prog_96_method_3_code 30 = .ok (.lstore_n 2, 1) := by decide +kernel
theorem d5_31 : decode prog_96_method_3_code 31 = .ok (.aload_n 0, 1) := by decide +kernel
theorem d5_32 : decode prog_96_method_3_code 32 = .ok (.invokevirtual 32, 3) := by decide +kernel
theorem d5_35 : decode prog_96_method_3_code 35 = .ok (.iconst 1, 1) := by decide +kernel
theorem d5_36 : decode prog_96_method_3_code 36 = .ok (.lushr, 1) := by decide +kernel
theorem d5_37 : decode prog_96_method_3_code 37 = .ok (.lstore 4, 2) := by decide +kernel
theorem d5_39 : decode prog_96_method_3_code 39 = .ok (.lload 4, 2) := by decide +kernel
theorem d5_41 : decode prog_96_method_3_code 41 = .ok (.ldc2_w 30, 3) := by decide +kernel
theorem d5_44 : decode prog_96_method_3_code 44 = .ok (.lload_n 2, 1) := by decide +kernel
theorem d5_45 : decode prog_96_method_3_code 45 = .ok (.lsub, 1) := by decide +kernel
theorem d5_46 : decode prog_96_method_3_code 46 = .ok (.lcmp, 1) := by decide +kernel
theorem d5_47 : decode prog_96_method_3_code 47 = .ok (.ifCond .gt (-16), 3) := by decide +kernel
theorem d5_50 : decode prog_96_method_3_code 50 = .ok (.lload 4, 2) := by decide +kernel
theorem d5_52 : decode prog_96_method_3_code 52 = .ok (.iload_n 1, 1) := by decide +kernel
theorem d5_53 : decode prog_96_method_3_code 53 = .ok (.i2l, 1) := by decide +kernel
theorem d5_54 : decode prog_96_method_3_code 54 = .ok (.lrem, 1) := by decide +kernel
theorem d5_55 : decode prog_96_method_3_code 55 = .ok (.l2i, 1) := by decide +kernel
theorem d5_56 : decode prog_96_method_3_code 56 = .ok (.iconst 1, 1) := by decide +kernel
theorem d5_57 : decode prog_96_method_3_code 57 = .ok (.iadd, 1) := by decide +kernel
theorem d5_58 : decode prog_96_method_3_code 58 = .ok (.ireturn, 1) := by decide +kernel
theorem pd_1 : parseMethodDescriptor "()J" = some ⟨[], some .long⟩ := by decide +kernel
theorem ef_5 (m : MethodId) {a1 : Addr} {p2 : Int32} : entryFrame m #[(.ref a1), (.int p2)] 6 = mkF m 0 #[.val (.ref a1), .val (.int p2), .unset, .unset, .unset, .unset] [] := by first | (simp [entryFrame, mkF, argsToLocals, Value.category]; done) | rfl
def Q5 (Z : State) (a1 : Addr) (p2 : Int32) (w : Int64) (K : Nat) (h0 : Heap) (n0 : Nat) (v : Option Value) (h : Heap) (L : List Loc) : Prop := v = some (.int (own_face (own_draw w K) p2)) ∧ Fr n0 L ∧ Keep h0 h [a1] ∧ Exa Z h a1 "com/example/gunline/gunline/core/SeededDice" ∧ Fld Z h a1 "com/example/gunline/gunline/core/SeededDice" "state" "J" (.long (own_st w K))
set_option maxRecDepth 65536 in
set_option maxHeartbeats 40000000 in
theorem rm5 (l : Launch) (Z : State) (a0 : Array Value) (hw : ∀ d ∈ tables_1, d.before a0 Z = true) (ws : List Jvm.Cond) (a1 : Addr) (p2 : Int32) (w : Int64) (K : Nat) (h0 : Heap) (n0 : Nat) (Z0 : n0 ≤ h0.size) (F : Fld Z h0 a1 "com/example/gunline/gunline/core/SeededDice" "state" "J" (.long w)) (Ex : Exa Z h0 a1 "com/example/gunline/gunline/core/SeededDice") (g : n0 ≤ a1) (hs : 2 ≤ p2.toInt) (hKa : 1 ≤ K) (hKb : ¬ own_lim p2 < own_draw w K) (hm : ∀ j, j < K → ¬ (1 ≤ j ∧ ¬ own_lim p2 < own_draw w j)) :
    MetFree l (⟨"com/example/gunline/gunline/core/SeededDice", "roll", "(I)I"⟩ : MethodName) (head1 (Jvm.Cond.code (⟨"com/example/gunline/gunline/core/SeededDice", "roll", "(I)I"⟩ : MethodName) prog_96_method_3_code 6 (some .int) :: ws) ({ frames := 1, cells := 0, slots := 0, locals := 14 } : Room)) (fun a U => a = #[(.ref a1), (.int p2)] ∧ Z.Warmed39 U.vm ∧ U.heap = h0) (fun _ _ _ _ _ => True) (fun _ U o U' => ∃ v L, o = .returned v ∧ Q5 Z a1 p2 w K h0 n0 v U'.heap L ∧ FrameEnd U o U' L (({ frames := 1, cells := 0, slots := 0, locals := 14 } : Room)).cells (({ frames := 1, cells := 0, slots := 0, locals := 14 } : Room)).slots) := by
  refine MetFree.of_bodySF (plainFor_of_name pn_0) hisR ?_
  intro p e s m args below meth c s₁ Bd hml0 hP hK
  obtain ⟨rfl, hZ, hh⟩ := hP
  have hx := Bd.exec
  have hby := Bd.bytes
  have hml : c.maxLocals = 6 := hml0
  have hown : s.vm.findClass "com/example/gunline/gunline/core/SeededDice" = some m.cls := findClass_of_methodNamed Bd.named
  have hnm := (name_of_methodNamed Bd.named Bd.method).1
  have X0 : Stand p l e ({ frames := 1, cells := 0, slots := 0, locals := 14 } : Room) s m #[(.ref a1), (.int p2)] below meth c s₁ [] 0 0 := Stand.of_body Bd
  have e0 : s₁.heap = h0 := by rw [← hh, Bd.state]; rfl
  have N0 := Fr.nil n0
  show own_Go p.tables e below (own_P s (Q5 Z a1 p2 w K h0 n0) ({ frames := 1, cells := 0, slots := 0, locals := 14 } : Room).cells ({ frames := 1, cells := 0, slots := 0, locals := 14 } : Room).slots) s₁ _
  rw [ef_5]
  show own_Go p.tables e below _ s₁ (mkF m 0 #[.val (.ref a1), .val (.int p2), .unset, .unset, .unset, .unset] [])
  refine own_go (fun tz kz => XS.iloadN X0.here hx rfl (hb hby d5_0) rfl kz) ?_
  show own_Go p.tables e below _ s₁ (mkF m 1 #[.val (.ref a1), .val (.int p2), .unset, .unset, .unset, .unset] [(.int p2)])
  refine own_go (fun tz kz => XS.iconst X0.here hx rfl (hb hby d5_1) kz) ?_
  show own_Go p.tables e below _ s₁ (mkF m 2 #[.val (.ref a1), .val (.int p2), .unset, .unset, .unset, .unset] [(.int (2 : Int32)), (.int p2)])
  refine own_go (fun tz kz => XS.icmpYes X0.here hx rfl (pc0 := 2) (pc' := 19) rfl (hb hby d5_2) rfl (XT.ii_ge_t (by rw [Int32.lt_iff_toInt_lt, show (2 : Int32).toInt = 2 from by decide]; omega)) (by decide) (by decide) kz) ?_
  show own_Go p.tables e below _ s₁ (mkF m 19 #[.val (.ref a1), .val (.int p2), .unset, .unset, .unset, .unset] [])
  refine own_go (fun tz kz => X0.ldc2J hx hown (mvT hZ (hw _ (List.mem_of_getElem? (i := 32) rfl))) rfl (hb hby d5_19) kz) ?_
  show own_Go p.tables e below _ s₁ (mkF m 22 #[.val (.ref a1), .val (.int p2), .unset, .unset, .unset, .unset] [(.long (9223372036854775807 : Int64))])
  refine own_go (fun tz kz => XS.iloadN X0.here hx rfl (hb hby d5_22) rfl kz) ?_
  show own_Go p.tables e below _ s₁ (mkF m 23 #[.val (.ref a1), .val (.int p2), .unset, .unset, .unset, .unset] [(.int p2), (.long (9223372036854775807 : Int64))])
  refine own_go (fun tz kz => XT.i2l X0.here hx rfl (hb hby d5_23) rfl kz) ?_
  show own_Go p.tables e below _ s₁ (mkF m 24 #[.val (.ref a1), .val (.int p2), .unset, .unset, .unset, .unset] [(.long p2.toInt64), (.long (9223372036854775807 : Int64))])
  refine own_go (fun tz kz => XT.lrem X0.here hx rfl (hb hby d5_24) rfl (own_nz hs) kz) ?_
  show own_Go p.tables e below _ s₁ (mkF m 25 #[.val (.ref a1), .val (.int p2), .unset, .unset, .unset, .unset] [(.long ((9223372036854775807 : Int64) - ((9223372036854775807 : Int64) / p2.toInt64) * p2.toInt64))])
  show own_Go p.tables e below _ s₁ (mkF m 25 #[.val (.ref a1), .val (.int p2), .unset, .unset, .unset, .unset] [(.long (own_rm (9223372036854775807 : Int64) p2))])
  refine own_go (fun tz kz => XT.lconst X0.here hx rfl (hb hby d5_25) kz) ?_
  show own_Go p.tables e below _ s₁ (mkF m 26 #[.val (.ref a1), .val (.int p2), .unset, .unset, .unset, .unset] [(.long (1 : Int64)), (.long (own_rm (9223372036854775807 : Int64) p2))])
  refine own_go (fun tz kz => XT.ladd X0.here hx rfl (hb hby d5_26) rfl kz) ?_
  show own_Go p.tables e below _ s₁ (mkF m 27 #[.val (.ref a1), .val (.int p2), .unset, .unset, .unset, .unset] [(.long ((own_rm (9223372036854775807 : Int64) p2) + (1 : Int64)))])
  refine own_go (fun tz kz => XS.iloadN X0.here hx rfl (hb hby d5_27) rfl kz) ?_
  show own_Go p.tables e below _ s₁ (mkF m 28 #[.val (.ref a1), .val (.int p2), .unset, .unset, .unset, .unset] [(.int p2), (.long ((own_rm (9223372036854775807 : Int64) p2) + (1 : Int64)))])
  refine own_go (fun tz kz => XT.i2l X0.here hx rfl (hb hby d5_28) rfl kz) ?_
  show own_Go p.tables e below _ s₁ (mkF m 29 #[.val (.ref a1), .val (.int p2), .unset, .unset, .unset, .unset] [(.long p2.toInt64), (.long ((own_rm (9223372036854775807 : Int64) p2) + (1 : Int64)))])
  refine own_go (fun tz kz => XT.lrem X0.here hx rfl (hb hby d5_29) rfl (own_nz hs) kz) ?_
  show own_Go p.tables e below _ s₁ (mkF m 30 #[.val (.ref a1), .val (.int p2), .unset, .unset, .unset, .unset] [(.long (((own_rm (9223372036854775807 : Int64) p2) + (1 : Int64)) - (((own_rm (9223372036854775807 : Int64) p2) + (1 : Int64)) / p2.toInt64) * p2.toInt64))])
  show own_Go p.tables e below _ s₁ (mkF m 30 #[.val (.ref a1), .val (.int p2), .unset, .unset, .unset, .unset] [(.long (own_exc p2))])
  refine own_go (fun tz kz => XT.lstoreN X0.here hx rfl (hb hby d5_30) rfl (l' := #[.val (.ref a1), .val (.int p2), .val (.long (own_exc p2)), .second, .unset, .unset]) rfl kz) ?_
  show own_Go p.tables e below _ s₁ (mkF m 31 #[.val (.ref a1), .val (.int p2), .val (.long (own_exc p2)), .second, .unset, .unset] [])
  refine own_go (fun tz kz => XS.aloadN X0.here hx rfl (hb hby d5_31) rfl rfl kz) ?_
  show own_Go p.tables e below _ s₁ (mkF m 32 #[.val (.ref a1), .val (.int p2), .val (.long (own_exc p2)), .second, .unset, .unset] [(.ref a1)])
  have loop : ∀ (r i : Nat) (Tqq : State) (hqq : Heap) (loqq : List Loc), i + r = K → 1 ≤ i → Stand p l e ({ frames := 1, cells := 0, slots := 0, locals := 14 } : Room) s m #[(.ref a1), (.int p2)] below meth c Tqq loqq 0 0 → Tqq.heap = hqq → Fr n0 loqq → n0 ≤ hqq.size → Keep h0 hqq [a1] → Exa Z hqq a1 "com/example/gunline/gunline/core/SeededDice" → Fld Z hqq a1 "com/example/gunline/gunline/core/SeededDice" "state" "J" (.long (own_st w i)) → own_Go p.tables e below (own_P s (Q5 Z a1 p2 w K h0 n0) ({ frames := 1, cells := 0, slots := 0, locals := 14 } : Room).cells ({ frames := 1, cells := 0, slots := 0, locals := 14 } : Room).slots) Tqq (mkF m 39 #[.val (.ref a1), .val (.int p2), .val (.long (own_exc p2)), .second, .val (.long (own_draw w i)), .second] []) := by
    intro r
    induction r with
    | zero =>
      intro i Tqq hqq loqq hi h1 Xqq eqq Nqq Zsqq Kqq Exqq Fqq
      obtain rfl : K = i := by omega
      show own_Go p.tables e below _ Tqq (mkF m 39 #[.val (.ref a1), .val (.int p2), .val (.long (own_exc p2)), .second, .val (.long (own_draw w K)), .second] [])
      refine own_go (fun tz kz => XT.lload Xqq.here hx rfl (hb hby d5_39) rfl kz) ?_
      show own_Go p.tables e below _ Tqq (mkF m 41 #[.val (.ref a1), .val (.int p2), .val (.long (own_exc p2)), .second, .val (.long (own_draw w K)), .second] [(.long (own_draw w K))])
      refine own_go (fun tz kz => Xqq.ldc2J hx hown (mvT hZ (hw _ (List.mem_of_getElem? (i := 32) rfl))) rfl (hb hby d5_41) kz) ?_
      show own_Go p.tables e below _ Tqq (mkF m 44 #[.val (.ref a1), .val (.int p2), .val (.long (own_exc p2)), .second, .val (.long (own_draw w K)), .second] [(.long (9223372036854775807 : Int64)), (.long (own_draw w K))])
      refine own_go (fun tz kz => XT.lloadN Xqq.here hx rfl (hb hby d5_44) rfl kz) ?_
      show own_Go p.tables e below _ Tqq (mkF m 45 #[.val (.ref a1), .val (.int p2), .val (.long (own_exc p2)), .second, .val (.long (own_draw w K)), .second] [(.long (own_exc p2)), (.long (9223372036854775807 : Int64)), (.long (own_draw w K))])
      refine own_go (fun tz kz => XT.lsub Xqq.here hx rfl (hb hby d5_45) rfl kz) ?_
      show own_Go p.tables e below _ Tqq (mkF m 46 #[.val (.ref a1), .val (.int p2), .val (.long (own_exc p2)), .second, .val (.long (own_draw w K)), .second] [(.long ((9223372036854775807 : Int64) - (own_exc p2))), (.long (own_draw w K))])
      refine own_go (fun tz kz => XT.lcmp Xqq.here hx rfl (hb hby d5_46) rfl kz) ?_
      show own_Go p.tables e below _ Tqq (mkF m 47 #[.val (.ref a1), .val (.int p2), .val (.long (own_exc p2)), .second, .val (.long (own_draw w K)), .second] [(.int (XT.cmpL (own_draw w K) ((9223372036854775807 : Int64) - (own_exc p2))))])
      refine own_go (fun tz kz => XS.ifNo Xqq.here hx rfl (hb hby d5_47) rfl (XT.ll_gt_f hKb) kz) ?_
      show own_Go p.tables e below _ Tqq (mkF m 50 #[.val (.ref a1), .val (.int p2), .val (.long (own_exc p2)), .second, .val (.long (own_draw w K)), .second] [])
      refine own_go (fun tz kz => XT.lload Xqq.here hx rfl (hb hby d5_50) rfl kz) ?_
      show own_Go p.tables e below _ Tqq (mkF m 52 #[.val (.ref a1), .val (.int p2), .val (.long (own_exc p2)), .second, .val (.long (own_draw w K)), .second] [(.long (own_draw w K))])
      refine own_go (fun tz kz => XS.iloadN Xqq.here hx rfl (hb hby d5_52) rfl kz) ?_
      show own_Go p.tables e below _ Tqq (mkF m 53 #[.val (.ref a1), .val (.int p2), .val (.long (own_exc p2)), .second, .val (.long (own_draw w K)), .second] [(.int p2), (.long (own_draw w K))])
      refine own_go (fun tz kz => XT.i2l Xqq.here hx rfl (hb hby d5_53) rfl kz) ?_
      show own_Go p.tables e below _ Tqq (mkF m 54 #[.val (.ref a1), .val (.int p2), .val (.long (own_exc p2)), .second, .val (.long (own_draw w K)), .second] [(.long p2.toInt64), (.long (own_draw w K))])
      refine own_go (fun tz kz => XT.lrem Xqq.here hx rfl (hb hby d5_54) rfl (own_nz hs) kz) ?_
      show own_Go p.tables e below _ Tqq (mkF m 55 #[.val (.ref a1), .val (.int p2), .val (.long (own_exc p2)), .second, .val (.long (own_draw w K)), .second] [(.long ((own_draw w K) - ((own_draw w K) / p2.toInt64) * p2.toInt64))])
      refine own_go (fun tz kz => XT.l2i Xqq.here hx rfl (hb hby d5_55) rfl kz) ?_
      show own_Go p.tables e below _ Tqq (mkF m 56 #[.val (.ref a1), .val (.int p2), .val (.long (own_exc p2)), .second, .val (.long (own_draw w K)), .second] [(.int ((own_draw w K) - ((own_draw w K) / p2.toInt64) * p2.toInt64).toInt32)])
      refine own_go (fun tz kz => XS.iconst Xqq.here hx rfl (hb hby d5_56) kz) ?_
      show own_Go p.tables e below _ Tqq (mkF m 57 #[.val (.ref a1), .val (.int p2), .val (.long (own_exc p2)), .second, .val (.long (own_draw w K)), .second] [(.int (1 : Int32)), (.int ((own_draw w K) - ((own_draw w K) / p2.toInt64) * p2.toInt64).toInt32)])
      refine own_go (fun tz kz => XS.iadd Xqq.here hx rfl (hb hby d5_57) rfl kz) ?_
      show own_Go p.tables e below _ Tqq (mkF m 58 #[.val (.ref a1), .val (.int p2), .val (.long (own_exc p2)), .second, .val (.long (own_draw w K)), .second] [(.int (((own_draw w K) - ((own_draw w K) / p2.toInt64) * p2.toInt64).toInt32 + (1 : Int32)))])
      show own_Go p.tables e below _ Tqq (mkF m 58 #[.val (.ref a1), .val (.int p2), .val (.long (own_exc p2)), .second, .val (.long (own_draw w K)), .second] [(.int (own_face (own_draw w K) p2))])
      obtain ⟨fs, hr, hrun, hended, hW, hsame⟩ := Xqq.leave (v := some (.int (own_face (own_draw w K) p2))) (fun h => by rw [Bd.returns] at h; cases h) (BodyLoose.notSynchronized Bd)
      refine ⟨_, _, ?_, hrun, hended, _, _, rfl, ?_, ⟨_, rfl⟩, hW, hsame.mono (by decide) (by decide)⟩
      · exact retI Xqq hx Bd.returns (hb hby d5_58) hr
      · show Q5 Z a1 p2 w K h0 n0 _ Tqq.heap _
        rw [eqq]
        exact ⟨rfl, Nqq, Kqq, Exqq, Fqq⟩
    | succ r ih =>
      intro i Tqq hqq loqq hi h1 Xqq eqq Nqq Zsqq Kqq Exqq Fqq
      have hlt : own_lim p2 < own_draw w i := Classical.not_not.mp fun q => hm i (by omega) ⟨h1, q⟩
      show own_Go p.tables e below _ Tqq (mkF m 39 #[.val (.ref a1), .val (.int p2), .val (.long (own_exc p2)), .second, .val (.long (own_draw w i)), .second] [])
      refine own_go (fun tz kz => XT.lload Xqq.here hx rfl (hb hby d5_39) rfl kz) ?_
      show own_Go p.tables e below _ Tqq (mkF m 41 #[.val (.ref a1), .val (.int p2), .val (.long (own_exc p2)), .second, .val (.long (own_draw w i)), .second] [(.long (own_draw w i))])
      refine own_go (fun tz kz => Xqq.ldc2J hx hown (mvT hZ (hw _ (List.mem_of_getElem? (i := 32) rfl))) rfl (hb hby d5_41) kz) ?_
      show own_Go p.tables e below _ Tqq (mkF m 44 #[.val (.ref a1), .val (.int p2), .val (.long (own_exc p2)), .second, .val (.long (own_draw w i)), .second] [(.long (9223372036854775807 : Int64)), (.long (own_draw w i))])
      refine own_go (fun tz kz => XT.lloadN Xqq.here hx rfl (hb hby d5_44) rfl kz) ?_
      show own_Go p.tables e below _ Tqq (mkF m 45 #[.val (.ref a1), .val (.int p2), .val (.long (own_exc p2)), .second, .val (.long (own_draw w i)), .second] [(.long (own_exc p2)), (.long (9223372036854775807 : Int64)), (.long (own_draw w i))])
      refine own_go (fun tz kz => XT.lsub Xqq.here hx rfl (hb hby d5_45) rfl kz) ?_
      show own_Go p.tables e below _ Tqq (mkF m 46 #[.val (.ref a1), .val (.int p2), .val (.long (own_exc p2)), .second, .val (.long (own_draw w i)), .second] [(.long ((9223372036854775807 : Int64) - (own_exc p2))), (.long (own_draw w i))])
      refine own_go (fun tz kz => XT.lcmp Xqq.here hx rfl (hb hby d5_46) rfl kz) ?_
      show own_Go p.tables e below _ Tqq (mkF m 47 #[.val (.ref a1), .val (.int p2), .val (.long (own_exc p2)), .second, .val (.long (own_draw w i)), .second] [(.int (XT.cmpL (own_draw w i) ((9223372036854775807 : Int64) - (own_exc p2))))])
      refine own_go (fun tz kz => XS.ifYes Xqq.here hx rfl (pc0 := 47) (pc' := 31) rfl (hb hby d5_47) rfl (XT.ll_gt_t hlt) (by decide) (by decide) kz) ?_
      show own_Go p.tables e below _ Tqq (mkF m 31 #[.val (.ref a1), .val (.int p2), .val (.long (own_exc p2)), .second, .val (.long (own_draw w i)), .second] [])
      refine own_go (fun tz kz => XS.aloadN Xqq.here hx rfl (hb hby d5_31) rfl rfl kz) ?_
      show own_Go p.tables e below _ Tqq (mkF m 32 #[.val (.ref a1), .val (.int p2), .val (.long (own_exc p2)), .second, .val (.long (own_draw w i)), .second] [(.ref a1)])
      obtain ⟨cq1, kq1, q1a, q1b, q1c⟩ := isOf hZ eqq Exqq
      obtain ⟨_, _, ⟨T1, L1, k1, n1⟩, -, X1, ⟨Lc1, hQ1, l1, y1, z1⟩, st1⟩ := Xqq.virtualBack hx (y := (⟨"com/example/gunline/gunline/core/SeededDice", "next", "()J"⟩ : MethodName)) (z := (⟨"com/example/gunline/gunline/core/SeededDice", "next", "()J"⟩ : MethodName)) hown (mvT hZ (hw _ (List.mem_of_getElem? (i := 33) rfl))) (mvT hZ (hw _ (List.mem_of_getElem? (i := 34) rfl))) (notFace_of_selects (args := #[]) (mvT hZ (hw _ (List.mem_of_getElem? (i := 36) rfl)))) (mvT hZ (hw _ (List.mem_of_getElem? (i := 36) rfl))) (mvT hZ (hw _ (List.mem_of_getElem? (i := 35) rfl))) (by decide) (backOf (W := 0) (rm6 l Z a0 hw [] a1 (own_st w i) hqq n0 Zsqq Fqq Exqq g) hZ (hw _ (List.mem_of_getElem? (i := 37) rfl)) (hw _ (List.mem_of_getElem? (i := 18) rfl)) (by decide) (by decide)) q1a q1c (g := (mkF m 32 #[.val (.ref a1), .val (.int p2), .val (.long (own_exc p2)), .second, .val (.long (own_draw w i)), .second] [(.ref a1)])) rfl (by rw [hml]; rfl) (Steps.refl _) (argsL := []) (rest := []) (lenOf pd_1 rfl) rfl (by show 2 * 0 + _ ≤ _; exact Nat.le_of_eq rfl) (hb hby d5_32) (fun _ _ => ⟨rfl, eqq, (by decide : 0 + 0 ≤ _), (by decide : 0 + 0 ≤ _)⟩)
      dsimp only [Pt.U, Pt.locs, Pt.cells, Pt.slots] at X1 l1 y1 z1 st1 hQ1
      subst l1 y1 z1
      obtain ⟨rfl, N1q, K1, Exb, Fb⟩ := hQ1
      have N1 := Fr.app Nqq N1q
      refine own_go (fun tz kz => st1.trans kz) ?_
      show own_Go p.tables e below _ T1 (mkF m 35 #[.val (.ref a1), .val (.int p2), .val (.long (own_exc p2)), .second, .val (.long (own_draw w i)), .second] [(.long (own_mix (own_st w i + (-7046029254386353131 : Int64))))])
      refine own_go (fun tz kz => XS.iconst X1.here hx rfl (hb hby d5_35) kz) ?_
      show own_Go p.tables e below _ T1 (mkF m 36 #[.val (.ref a1), .val (.int p2), .val (.long (own_exc p2)), .second, .val (.long (own_draw w i)), .second] [(.int (1 : Int32)), (.long (own_mix (own_st w i + (-7046029254386353131 : Int64))))])
      refine own_go (fun tz kz => XT.lushr X1.here hx rfl (hb hby d5_36) rfl kz) ?_
      show own_Go p.tables e below _ T1 (mkF m 37 #[.val (.ref a1), .val (.int p2), .val (.long (own_exc p2)), .second, .val (.long (own_draw w i)), .second] [(.long (XT.ushrL (own_mix (own_st w i + (-7046029254386353131 : Int64))) (1 : Int32)))])
      show own_Go p.tables e below _ T1 (mkF m 37 #[.val (.ref a1), .val (.int p2), .val (.long (own_exc p2)), .second, .val (.long (own_draw w i)), .second] [(.long (own_draw w (i + 1)))])
      refine own_go (fun tz kz => XT.lstore X1.here hx rfl (hb hby d5_37) rfl (l' := #[.val (.ref a1), .val (.int p2), .val (.long (own_exc p2)), .second, .val (.long (own_draw w (i + 1))), .second]) rfl kz) ?_
      show own_Go p.tables e below _ T1 (mkF m 39 #[.val (.ref a1), .val (.int p2), .val (.long (own_exc p2)), .second, .val (.long (own_draw w (i + 1))), .second] [])
      exact ih (i + 1) _ _ _ (by omega) (by omega) X1 rfl N1 (Nat.le_trans Zsqq K1.1) (Kqq.trans K1 (fun x hx => Or.inl hx)) Exb Fb
  obtain ⟨cq2, kq2, q2a, q2b, q2c⟩ := isOf hZ e0 Ex
  obtain ⟨_, _, ⟨T2, L2, k2, n2⟩, -, X2, ⟨Lc2, hQ2, l2, y2, z2⟩, st2⟩ := X0.virtualBack hx (y := (⟨"com/example/gunline/gunline/core/SeededDice", "next", "()J"⟩ : MethodName)) (z := (⟨"com/example/gunline/gunline/core/SeededDice", "next", "()J"⟩ : MethodName)) hown (mvT hZ (hw _ (List.mem_of_getElem? (i := 33) rfl))) (mvT hZ (hw _ (List.mem_of_getElem? (i := 34) rfl))) (notFace_of_selects (args := #[]) (mvT hZ (hw _ (List.mem_of_getElem? (i := 36) rfl)))) (mvT hZ (hw _ (List.mem_of_getElem? (i := 36) rfl))) (mvT hZ (hw _ (List.mem_of_getElem? (i := 35) rfl))) (by decide) (backOf (W := 0) (rm6 l Z a0 hw [] a1 (own_st w 0) h0 n0 Z0 F Ex g) hZ (hw _ (List.mem_of_getElem? (i := 37) rfl)) (hw _ (List.mem_of_getElem? (i := 18) rfl)) (by decide) (by decide)) q2a q2c (g := (mkF m 32 #[.val (.ref a1), .val (.int p2), .val (.long (own_exc p2)), .second, .unset, .unset] [(.ref a1)])) rfl (by rw [hml]; rfl) (Steps.refl _) (argsL := []) (rest := []) (lenOf pd_1 rfl) rfl (by show 2 * 0 + _ ≤ _; exact Nat.le_of_eq rfl) (hb hby d5_32) (fun _ _ => ⟨rfl, e0, (by decide : 0 + 0 ≤ _), (by decide : 0 + 0 ≤ _)⟩)
  dsimp only [Pt.U, Pt.locs, Pt.cells, Pt.slots] at X2 l2 y2 z2 st2 hQ2
  subst l2 y2 z2
  obtain ⟨rfl, N2q, K2, Exa, Fa⟩ := hQ2
  have N2 := Fr.app N0 N2q
  refine own_go (fun tz kz => st2.trans kz) ?_
  show own_Go p.tables e below _ T2 (mkF m 35 #[.val (.ref a1), .val (.int p2), .val (.long (own_exc p2)), .second, .unset, .unset] [(.long (own_mix (own_st w 0 + (-7046029254386353131 : Int64))))])
  refine own_go (fun tz kz => XS.iconst X2.here hx rfl (hb hby d5_35) kz) ?_
  show own_Go p.tables e below _ T2 (mkF m 36 #[.val (.ref a1), .val (.int p2), .val (.long (own_exc p2)), .second, .unset, .unset] [(.int (1 : Int32)), (.long (own_mix (own_st w 0 + (-7046029254386353131 : Int64))))])
  refine own_go (fun tz kz => XT.lushr X2.here hx rfl (hb hby d5_36) rfl kz) ?_
  show own_Go p.tables e below _ T2 (mkF m 37 #[.val (.ref a1), .val (.int p2), .val (.long (own_exc p2)), .second, .unset, .unset] [(.long (XT.ushrL (own_mix (own_st w 0 + (-7046029254386353131 : Int64))) (1 : Int32)))])
  show own_Go p.tables e below _ T2 (mkF m 37 #[.val (.ref a1), .val (.int p2), .val (.long (own_exc p2)), .second, .unset, .unset] [(.long (own_draw w (0 + 1)))])
  refine own_go (fun tz kz => XT.lstore X2.here hx rfl (hb hby d5_37) rfl (l' := #[.val (.ref a1), .val (.int p2), .val (.long (own_exc p2)), .second, .val (.long (own_draw w (0 + 1))), .second]) rfl kz) ?_
  show own_Go p.tables e below _ T2 (mkF m 39 #[.val (.ref a1), .val (.int p2), .val (.long (own_exc p2)), .second, .val (.long (own_draw w (0 + 1))), .second] [])
  exact loop (K - 1) 1 _ _ _ (by omega) (by omega) X2 rfl N2 (Nat.le_trans Z0 K2.1) K2 Exa Fa
theorem pd_2 : parseMethodDescriptor "(J)V" = some ⟨[.long], none⟩ := by decide +kernel
theorem pd_3 : parseMethodDescriptor "(I)I" = some ⟨[.int], some .int⟩ := by decide +kernel
theorem pd_4 : parseMethodDescriptor "(JI)Z" = some ⟨[.long, .int], some .boolean⟩ := by decide +kernel
theorem ef_0 (m : MethodId) {q1 : Int64} {p2 : Int32} {p3 : Int32} : entryFrame m #[(.long q1), (.int p2), (.int p3)] maxLocals = mkF m 0 #[.val (.long q1), .second, .val (.int p2), .val (.int p3), .unset, .unset, .unset, .unset, .unset, .unset, .unset, .unset, .unset, .unset, .unset, .unset, .unset, .unset, .unset] [] := by first | (simp [entryFrame, mkF, argsToLocals, Value.category, maxLocals]; done) | rfl
def Q0 (Z : State) (q1 : Int64) (p2 : Int32) (p3 : Int32) (h0 : Heap) (n0 : Nat) (v : Option Value) (h : Heap) (L : List Loc) : Prop := v = some (.int 1) ∧ Fr n0 L
set_option maxRecDepth 65536 in
set_option maxHeartbeats 40000000 in
theorem rm0 (l : Launch) (Z : State) (a0 : Array Value) (hw : ∀ d ∈ tables_1, d.before a0 Z = true) (ws : List Jvm.Cond) (q1 : Int64) (p2 : Int32) (p3 : Int32) (h0 : Heap) (n0 : Nat) (Z0 : n0 ≤ h0.size) :
    MetFree l x (head1 (Jvm.Cond.code x code maxLocals ret :: ws) room_1) (fun a U => a = #[(.long q1), (.int p2), (.int p3)] ∧ Z.Warmed39 U.vm ∧ U.heap = h0) (fun _ _ _ _ _ => True) (fun _ U o U' => ∃ v L, o = .returned v ∧ Q0 Z q1 p2 p3 h0 n0 v U'.heap L ∧ FrameEnd U o U' L (room_1).cells (room_1).slots) := by
  refine MetFree.of_bodySF (plainFor_of_name pn_1) hisR ?_
  intro p e s m args below meth c s₁ Bd hml0 hP hK
  obtain ⟨rfl, hZ, hh⟩ := hP
  have hx := Bd.exec
  have hby := Bd.bytes
  have hml : c.maxLocals = 19 := hml0
  have hown : s.vm.findClass "com/example/gunline/gunline/core/SeededDiceRollPinLaw" = some m.cls := findClass_of_methodNamed Bd.named
  have hnm := (name_of_methodNamed Bd.named Bd.method).1
  have X0 : Stand p l e room_1 s m #[(.long q1), (.int p2), (.int p3)] below meth c s₁ [] 0 0 := Stand.of_body Bd
  have e0 : s₁.heap = h0 := by rw [← hh, Bd.state]; rfl
  have N0 := Fr.nil n0
  show own_Go p.tables e below (own_P s (Q0 Z q1 p2 p3 h0 n0) room_1.cells room_1.slots) s₁ _
  rw [ef_0]
  show own_Go p.tables e below _ s₁ (mkF m 0 #[.val (.long q1), .second, .val (.int p2), .val (.int p3), .unset, .unset, .unset, .unset, .unset, .unset, .unset, .unset, .unset, .unset, .unset, .unset, .unset, .unset, .unset] [])
  refine own_go (fun tz kz => XS.iconst X0.here hx rfl (hb hby at_0) kz) ?_
  show own_Go p.tables e below _ s₁ (mkF m 1 #[.val (.long q1), .second, .val (.int p2), .val (.int p3), .unset, .unset, .unset, .unset, .unset, .unset, .unset, .unset, .unset, .unset, .unset, .unset, .unset, .unset, .unset] [(.int (2 : Int32))])
  refine own_go (fun tz kz => XS.iloadN X0.here hx rfl (hb hby at_1) rfl kz) ?_
  show own_Go p.tables e below _ s₁ (mkF m 2 #[.val (.long q1), .second, .val (.int p2), .val (.int p3), .unset, .unset, .unset, .unset, .unset, .unset, .unset, .unset, .unset, .unset, .unset, .unset, .unset, .unset, .unset] [(.int p2), (.int (2 : Int32))])
  refine own_go (fun tz kz => X0.ldcI hx hown (mvT hZ (hw _ (List.mem_of_getElem? (i := 0) rfl))) rfl (hb hby at_2) kz) ?_
  show own_Go p.tables e below _ s₁ (mkF m 4 #[.val (.long q1), .second, .val (.int p2), .val (.int p3), .unset, .unset, .unset, .unset, .unset, .unset, .unset, .unset, .unset, .unset, .unset, .unset, .unset, .unset, .unset] [(.int (2147483647 : Int32)), (.int p2), (.int (2 : Int32))])
  refine own_go (fun tz kz => XS.iand X0.here hx rfl (hb hby at_4) rfl kz) ?_
  show own_Go p.tables e below _ s₁ (mkF m 5 #[.val (.long q1), .second, .val (.int p2), .val (.int p3), .unset, .unset, .unset, .unset, .unset, .unset, .unset, .unset, .unset, .unset, .unset, .unset, .unset, .unset, .unset] [(.int (p2 &&& (2147483647 : Int32))), (.int (2 : Int32))])
  refine own_go (fun tz kz => X0.ldcI hx hown (mvT hZ (hw _ (List.mem_of_getElem? (i := 1) rfl))) rfl (hb hby at_5) kz) ?_
  show own_Go p.tables e below _ s₁ (mkF m 7 #[.val (.long q1), .second, .val (.int p2), .val (.int p3), .unset, .unset, .unset, .unset, .unset, .unset, .unset, .unset, .unset, .unset, .unset, .unset, .unset, .unset, .unset] [(.int (2147483646 : Int32)), (.int (p2 &&& (2147483647 : Int32))), (.int (2 : Int32))])
  refine own_go (fun tz kz => iremM X0 hx rfl (hb hby at_7) rfl (by decide) kz) ?_
  show own_Go p.tables e below _ s₁ (mkF m 8 #[.val (.long q1), .second, .val (.int p2), .val (.int p3), .unset, .unset, .unset, .unset, .unset, .unset, .unset, .unset, .unset, .unset, .unset, .unset, .unset, .unset, .unset] [(.int ((p2 &&& (2147483647 : Int32)) % (2147483646 : Int32))), (.int (2 : Int32))])
  refine own_go (fun tz kz => XS.iadd X0.here hx rfl (hb hby at_8) rfl kz) ?_
  show own_Go p.tables e below _ s₁ (mkF m 9 #[.val (.long q1), .second, .val (.int p2), .val (.int p3), .unset, .unset, .unset, .unset, .unset, .unset, .unset, .unset, .unset, .unset, .unset, .unset, .unset, .unset, .unset] [(.int ((2 : Int32) + ((p2 &&& (2147483647 : Int32)) % (2147483646 : Int32))))])
  refine own_go (fun tz kz => XS.istore X0.here hx rfl (hb hby at_9) rfl (l' := #[.val (.long q1), .second, .val (.int p2), .val (.int p3), .val (.int ((2 : Int32) + ((p2 &&& (2147483647 : Int32)) % (2147483646 : Int32)))), .unset, .unset, .unset, .unset, .unset, .unset, .unset, .unset, .unset, .unset, .unset, .unset, .unset, .unset]) rfl kz) ?_
  show own_Go p.tables e below _ s₁ (mkF m 11 #[.val (.long q1), .second, .val (.int p2), .val (.int p3), .val (.int ((2 : Int32) + ((p2 &&& (2147483647 : Int32)) % (2147483646 : Int32)))), .unset, .unset, .unset, .unset, .unset, .unset, .unset, .unset, .unset, .unset, .unset, .unset, .unset, .unset] [])
  generalize gz : ((2 : Int32) + ((p2 &&& (2147483647 : Int32)) % (2147483646 : Int32))) = z
  show own_Go p.tables e below _ s₁ (mkF m 11 #[.val (.long q1), .second, .val (.int p2), .val (.int p3), .val (.int z), .unset, .unset, .unset, .unset, .unset, .unset, .unset, .unset, .unset, .unset, .unset, .unset, .unset, .unset] [])
  have hz : 2 ≤ z.toInt := gz ▸ own_sides p2
  have hz0 := own_nz hz
  refine own_go (fun tz kz => XT.lloadN X0.here hx rfl (hb hby at_11) rfl kz) ?_
  show own_Go p.tables e below _ s₁ (mkF m 12 #[.val (.long q1), .second, .val (.int p2), .val (.int p3), .val (.int z), .unset, .unset, .unset, .unset, .unset, .unset, .unset, .unset, .unset, .unset, .unset, .unset, .unset, .unset] [(.long q1)])
  refine own_go (fun tz kz => XT.lstore X0.here hx rfl (hb hby at_12) rfl (l' := #[.val (.long q1), .second, .val (.int p2), .val (.int p3), .val (.int z), .val (.long q1), .second, .unset, .unset, .unset, .unset, .unset, .unset, .unset, .unset, .unset, .unset, .unset, .unset]) rfl kz) ?_
  show own_Go p.tables e below _ s₁ (mkF m 14 #[.val (.long q1), .second, .val (.int p2), .val (.int p3), .val (.int z), .val (.long q1), .second, .unset, .unset, .unset, .unset, .unset, .unset, .unset, .unset, .unset, .unset, .unset, .unset] [])
  refine own_go (fun tz kz => XS.iloadN X0.here hx rfl (hb hby at_14) rfl kz) ?_
  show own_Go p.tables e below _ s₁ (mkF m 15 #[.val (.long q1), .second, .val (.int p2), .val (.int p3), .val (.int z), .val (.long q1), .second, .unset, .unset, .unset, .unset, .unset, .unset, .unset, .unset, .unset, .unset, .unset, .unset] [(.int p3)])
  refine own_go (fun tz kz => XS.iconst X0.here hx rfl (hb hby at_15) kz) ?_
  show own_Go p.tables e below _ s₁ (mkF m 16 #[.val (.long q1), .second, .val (.int p2), .val (.int p3), .val (.int z), .val (.long q1), .second, .unset, .unset, .unset, .unset, .unset, .unset, .unset, .unset, .unset, .unset, .unset, .unset] [(.int (1 : Int32)), (.int p3)])
  refine own_go (fun tz kz => XS.iand X0.here hx rfl (hb hby at_16) rfl kz) ?_
  show own_Go p.tables e below _ s₁ (mkF m 17 #[.val (.long q1), .second, .val (.int p2), .val (.int p3), .val (.int z), .val (.long q1), .second, .unset, .unset, .unset, .unset, .unset, .unset, .unset, .unset, .unset, .unset, .unset, .unset] [(.int (p3 &&& (1 : Int32)))])
  by_cases hp : (p3 &&& (1 : Int32)) = (0 : Int32)
  ·
    refine own_go (fun tz kz => XS.ifYes X0.here hx rfl (pc0 := 17) (pc' := 136) rfl (hb hby at_17) rfl (XT.i0_eq_t hp) (by decide) (by decide) kz) ?_
    show own_Go p.tables e below _ s₁ (mkF m 136 #[.val (.long q1), .second, .val (.int p2), .val (.int p3), .val (.int z), .val (.long q1), .second, .unset, .unset, .unset, .unset, .unset, .unset, .unset, .unset, .unset, .unset, .unset, .unset] [])
    obtain ⟨T1, h1, X1, e1, E1, A1, D1, -, st1⟩ := newO X0 hx hZ hown (hw _ (List.mem_of_getElem? (i := 16) rfl)) (hw _ (List.mem_of_getElem? (i := 17) rfl)) (hw _ (List.mem_of_getElem? (i := 18) rfl)) e0 (g := (mkF m 136 #[.val (.long q1), .second, .val (.int p2), .val (.int p3), .val (.int z), .val (.long q1), .second, .unset, .unset, .unset, .unset, .unset, .unset, .unset, .unset, .unset, .unset, .unset, .unset] [])) rfl (hb hby at_136) (by decide) (by decide)
    obtain ⟨b1, eq_b1⟩ : ∃ z, z = (h0).size := ⟨_, rfl⟩
    rw [← eq_b1] at A1 D1 st1
    have g_b1 : n0 ≤ b1 := Nat.le_trans Z0 (Nat.le_of_eq eq_b1.symm)
    have F_state_b1 : Fld Z h1 b1 "com/example/gunline/gunline/core/SeededDice" "state" "J" (.long (0 : Int64)) := D1 (Or.inl (hw _ (List.mem_of_getElem? (i := 26) rfl))) (ty := .long) (by decide)
    refine own_go st1 ?_
    show own_Go p.tables e below _ T1 (mkF m 139 #[.val (.long q1), .second, .val (.int p2), .val (.int p3), .val (.int z), .val (.long q1), .second, .unset, .unset, .unset, .unset, .unset, .unset, .unset, .unset, .unset, .unset, .unset, .unset] [(.ref b1)])
    refine own_go (fun tz kz => XS.dup X1.here hx rfl (hb hby at_139) rfl rfl kz) ?_
    show own_Go p.tables e below _ T1 (mkF m 140 #[.val (.long q1), .second, .val (.int p2), .val (.int p3), .val (.int z), .val (.long q1), .second, .unset, .unset, .unset, .unset, .unset, .unset, .unset, .unset, .unset, .unset, .unset, .unset] [(.ref b1), (.ref b1)])
    refine own_go (fun tz kz => XT.lload X1.here hx rfl (hb hby at_140) rfl kz) ?_
    show own_Go p.tables e below _ T1 (mkF m 142 #[.val (.long q1), .second, .val (.int p2), .val (.int p3), .val (.int z), .val (.long q1), .second, .unset, .unset, .unset, .unset, .unset, .unset, .unset, .unset, .unset, .unset, .unset, .unset] [(.long q1), (.ref b1), (.ref b1)])
    obtain ⟨_, _, ⟨T2, L2, k2, n2⟩, -, X2, ⟨Lc2, hQ2, l2, y2, z2⟩, st2⟩ := X1.specialBack hx (y := (⟨"com/example/gunline/gunline/core/SeededDice", "<init>", "(J)V"⟩ : MethodName)) rfl hown (mvT hZ (hw _ (List.mem_of_getElem? (i := 19) rfl))) (mvT hZ (hw _ (List.mem_of_getElem? (i := 20) rfl))) (mvT hZ (hw _ (List.mem_of_getElem? (i := 21) rfl))) (by decide) (backOf (W := 1) (rm3 l Z a0 hw [] b1 q1 _ h1 n0 (Nat.le_trans Z0 E1.1) F_state_b1 A1 g_b1) hZ (hw _ (List.mem_of_getElem? (i := 21) rfl)) (hw _ (List.mem_of_getElem? (i := 18) rfl)) (by decide) (by decide)) (g := (mkF m 142 #[.val (.long q1), .second, .val (.int p2), .val (.int p3), .val (.int z), .val (.long q1), .second, .unset, .unset, .unset, .unset, .unset, .unset, .unset, .unset, .unset, .unset, .unset, .unset] [(.long q1), (.ref b1), (.ref b1)])) rfl (by rw [hml]; rfl) (Steps.refl _) (a := b1) (argsL := [(.long q1)]) (rest := [(.ref b1)]) (lenOf pd_2 rfl) rfl (by show 2 * 0 + _ ≤ _; exact Nat.le_of_eq rfl) (hb hby at_142) (fun _ _ => ⟨rfl, e1, (by decide : 1 + 0 ≤ _), (by decide : 1 + 0 ≤ _)⟩)
    dsimp only [Pt.U, Pt.locs, Pt.cells, Pt.slots] at X2 l2 y2 z2 st2 hQ2
    subst l2 y2 z2
    obtain ⟨rfl, N2q, K2, Ea1, Fa1⟩ := hQ2
    have N2 := Fr.app N0 N2q
    refine own_go (fun tz kz => st2.trans kz) ?_
    show own_Go p.tables e below _ T2 (mkF m 145 #[.val (.long q1), .second, .val (.int p2), .val (.int p3), .val (.int z), .val (.long q1), .second, .unset, .unset, .unset, .unset, .unset, .unset, .unset, .unset, .unset, .unset, .unset, .unset] [(.ref b1)])
    refine own_go (fun tz kz => XS.astore X2.here hx rfl (hb hby at_145) rfl rfl (l' := #[.val (.long q1), .second, .val (.int p2), .val (.int p3), .val (.int z), .val (.long q1), .second, .val (.ref b1), .unset, .unset, .unset, .unset, .unset, .unset, .unset, .unset, .unset, .unset, .unset]) rfl kz) ?_
    show own_Go p.tables e below _ T2 (mkF m 147 #[.val (.long q1), .second, .val (.int p2), .val (.int p3), .val (.int z), .val (.long q1), .second, .val (.ref b1), .unset, .unset, .unset, .unset, .unset, .unset, .unset, .unset, .unset, .unset, .unset] [])
    obtain ⟨T3, h3, X3, e3, E3, A3, D3, -, st3⟩ := newO X2 hx hZ hown (hw _ (List.mem_of_getElem? (i := 16) rfl)) (hw _ (List.mem_of_getElem? (i := 17) rfl)) (hw _ (List.mem_of_getElem? (i := 18) rfl)) rfl (g := (mkF m 147 #[.val (.long q1), .second, .val (.int p2), .val (.int p3), .val (.int z), .val (.long q1), .second, .val (.ref b1), .unset, .unset, .unset, .unset, .unset, .unset, .unset, .unset, .unset, .unset, .unset] [])) rfl (hb hby at_147) (by decide) (by decide)
    obtain ⟨b2, eq_b2⟩ : ∃ z, z = (T2.heap).size := ⟨_, rfl⟩
    rw [← eq_b2] at A3 D3 st3
    have g_b2 : n0 ≤ b2 := Nat.le_trans (Nat.le_trans (Nat.le_trans Z0 E1.1) K2.1) (Nat.le_of_eq eq_b2.symm)
    have F_state_b2 : Fld Z h3 b2 "com/example/gunline/gunline/core/SeededDice" "state" "J" (.long (0 : Int64)) := D3 (Or.inl (hw _ (List.mem_of_getElem? (i := 26) rfl))) (ty := .long) (by decide)
    refine own_go st3 ?_
    show own_Go p.tables e below _ T3 (mkF m 150 #[.val (.long q1), .second, .val (.int p2), .val (.int p3), .val (.int z), .val (.long q1), .second, .val (.ref b1), .unset, .unset, .unset, .unset, .unset, .unset, .unset, .unset, .unset, .unset, .unset] [(.ref b2)])
    have hne : b1 ≠ b2 := Nat.ne_of_lt (Nat.lt_of_lt_of_le Fa1.lt (Nat.le_of_eq eq_b2.symm))
    refine own_go (fun tz kz => XS.dup X3.here hx rfl (hb hby at_150) rfl rfl kz) ?_
    show own_Go p.tables e below _ T3 (mkF m 151 #[.val (.long q1), .second, .val (.int p2), .val (.int p3), .val (.int z), .val (.long q1), .second, .val (.ref b1), .unset, .unset, .unset, .unset, .unset, .unset, .unset, .unset, .unset, .unset, .unset] [(.ref b2), (.ref b2)])
    refine own_go (fun tz kz => XT.lload X3.here hx rfl (hb hby at_151) rfl kz) ?_
    show own_Go p.tables e below _ T3 (mkF m 153 #[.val (.long q1), .second, .val (.int p2), .val (.int p3), .val (.int z), .val (.long q1), .second, .val (.ref b1), .unset, .unset, .unset, .unset, .unset, .unset, .unset, .unset, .unset, .unset, .unset] [(.long q1), (.ref b2), (.ref b2)])
    obtain ⟨_, _, ⟨T4, L4, k4, n4⟩, -, X4, ⟨Lc4, hQ4, l4, y4, z4⟩, st4⟩ := X3.specialBack hx (y := (⟨"com/example/gunline/gunline/core/SeededDice", "<init>", "(J)V"⟩ : MethodName)) rfl hown (mvT hZ (hw _ (List.mem_of_getElem? (i := 19) rfl))) (mvT hZ (hw _ (List.mem_of_getElem? (i := 20) rfl))) (mvT hZ (hw _ (List.mem_of_getElem? (i := 21) rfl))) (by decide) (backOf (W := 1) (rm3 l Z a0 hw [] b2 q1 _ h3 n0 (Nat.le_trans (Nat.le_trans (Nat.le_trans Z0 E1.1) K2.1) E3.1) F_state_b2 A3 g_b2) hZ (hw _ (List.mem_of_getElem? (i := 21) rfl)) (hw _ (List.mem_of_getElem? (i := 18) rfl)) (by decide) (by decide)) (g := (mkF m 153 #[.val (.long q1), .second, .val (.int p2), .val (.int p3), .val (.int z), .val (.long q1), .second, .val (.ref b1), .unset, .unset, .unset, .unset, .unset, .unset, .unset, .unset, .unset, .unset, .unset] [(.long q1), (.ref b2), (.ref b2)])) rfl (by rw [hml]; rfl) (Steps.refl _) (a := b2) (argsL := [(.long q1)]) (rest := [(.ref b2)]) (lenOf pd_2 rfl) rfl (by show 2 * 0 + _ ≤ _; exact Nat.le_of_eq rfl) (hb hby at_153) (fun _ _ => ⟨rfl, e3, (by decide : 2 + 0 ≤ _), (by decide : 2 + 0 ≤ _)⟩)
    dsimp only [Pt.U, Pt.locs, Pt.cells, Pt.slots] at X4 l4 y4 z4 st4 hQ4
    subst l4 y4 z4
    obtain ⟨rfl, N4q, K4, Eb1, Fb1⟩ := hQ4
    have N4 := Fr.app N2 N4q
    refine own_go (fun tz kz => st4.trans kz) ?_
    show own_Go p.tables e below _ T4 (mkF m 156 #[.val (.long q1), .second, .val (.int p2), .val (.int p3), .val (.int z), .val (.long q1), .second, .val (.ref b1), .unset, .unset, .unset, .unset, .unset, .unset, .unset, .unset, .unset, .unset, .unset] [(.ref b2)])
    have Ea2 := (Ea1.ext E3).keep K4
    have Fa2 := (Fa1.ext E3).keep K4 (own_not1 hne)
    obtain ⟨Kk, ⟨hKa, hKb⟩, hm⟩ := own_first hz q1
    refine own_go (fun tz kz => XS.astore X4.here hx rfl (hb hby at_156) rfl rfl (l' := #[.val (.long q1), .second, .val (.int p2), .val (.int p3), .val (.int z), .val (.long q1), .second, .val (.ref b1), .val (.ref b2), .unset, .unset, .unset, .unset, .unset, .unset, .unset, .unset, .unset, .unset]) rfl kz) ?_
    show own_Go p.tables e below _ T4 (mkF m 158 #[.val (.long q1), .second, .val (.int p2), .val (.int p3), .val (.int z), .val (.long q1), .second, .val (.ref b1), .val (.ref b2), .unset, .unset, .unset, .unset, .unset, .unset, .unset, .unset, .unset, .unset] [])
    refine own_go (fun tz kz => XS.aload X4.here hx rfl (hb hby at_158) rfl rfl kz) ?_
    show own_Go p.tables e below _ T4 (mkF m 160 #[.val (.long q1), .second, .val (.int p2), .val (.int p3), .val (.int z), .val (.long q1), .second, .val (.ref b1), .val (.ref b2), .unset, .unset, .unset, .unset, .unset, .unset, .unset, .unset, .unset, .unset] [(.ref b1)])
    refine own_go (fun tz kz => XS.iload X4.here hx rfl (hb hby at_160) rfl kz) ?_
    show own_Go p.tables e below _ T4 (mkF m 162 #[.val (.long q1), .second, .val (.int p2), .val (.int p3), .val (.int z), .val (.long q1), .second, .val (.ref b1), .val (.ref b2), .unset, .unset, .unset, .unset, .unset, .unset, .unset, .unset, .unset, .unset] [(.int z), (.ref b1)])
    obtain ⟨cq5, kq5, q5a, q5b, q5c⟩ := isOf hZ rfl Ea2
    obtain ⟨_, _, ⟨T5, L5, k5, n5⟩, -, X5, ⟨Lc5, hQ5, l5, y5, z5⟩, st5⟩ := X4.virtualBack hx (y := (⟨"com/example/gunline/gunline/core/SeededDice", "roll", "(I)I"⟩ : MethodName)) (z := (⟨"com/example/gunline/gunline/core/SeededDice", "roll", "(I)I"⟩ : MethodName)) hown (mvT hZ (hw _ (List.mem_of_getElem? (i := 27) rfl))) (mvT hZ (hw _ (List.mem_of_getElem? (i := 28) rfl))) (notFace_of_selects (args := #[]) (mvT hZ (hw _ (List.mem_of_getElem? (i := 30) rfl)))) (mvT hZ (hw _ (List.mem_of_getElem? (i := 30) rfl))) (mvT hZ (hw _ (List.mem_of_getElem? (i := 29) rfl))) (by decide) (backOf (W := 0) (rm5 l Z a0 hw [] b1 z q1 Kk T4.heap n0 (Nat.le_trans (Nat.le_trans (Nat.le_trans (Nat.le_trans Z0 E1.1) K2.1) E3.1) K4.1) Fa2 Ea2 g_b1 hz hKa hKb hm) hZ (hw _ (List.mem_of_getElem? (i := 31) rfl)) (hw _ (List.mem_of_getElem? (i := 18) rfl)) (by decide) (by decide)) q5a q5c (g := (mkF m 162 #[.val (.long q1), .second, .val (.int p2), .val (.int p3), .val (.int z), .val (.long q1), .second, .val (.ref b1), .val (.ref b2), .unset, .unset, .unset, .unset, .unset, .unset, .unset, .unset, .unset, .unset] [(.int z), (.ref b1)])) rfl (by rw [hml]; rfl) (Steps.refl _) (argsL := [(.int z)]) (rest := []) (lenOf pd_3 rfl) rfl (by show 2 * 0 + _ ≤ _; exact Nat.le_of_eq rfl) (hb hby at_162) (fun _ _ => ⟨rfl, rfl, (by decide : 2 + 0 ≤ _), (by decide : 2 + 0 ≤ _)⟩)
    dsimp only [Pt.U, Pt.locs, Pt.cells, Pt.slots] at X5 l5 y5 z5 st5 hQ5
    subst l5 y5 z5
    obtain ⟨rfl, N5q, K5, Ea3, Fa3⟩ := hQ5
    have N5 := Fr.app N4 N5q
    refine own_go (fun tz kz => st5.trans kz) ?_
    show own_Go p.tables e below _ T5 (mkF m 165 #[.val (.long q1), .second, .val (.int p2), .val (.int p3), .val (.int z), .val (.long q1), .second, .val (.ref b1), .val (.ref b2), .unset, .unset, .unset, .unset, .unset, .unset, .unset, .unset, .unset, .unset] [(.int (own_face (own_draw q1 Kk) z))])
    have Eb2 := Eb1.keep K5
    have Fb2 := Fb1.keep K5 (own_not1 (Ne.symm hne))
    refine own_go (fun tz kz => XS.istore X5.here hx rfl (hb hby at_165) rfl (l' := #[.val (.long q1), .second, .val (.int p2), .val (.int p3), .val (.int z), .val (.long q1), .second, .val (.ref b1), .val (.ref b2), .val (.int (own_face (own_draw q1 Kk) z)), .unset, .unset, .unset, .unset, .unset, .unset, .unset, .unset, .unset]) rfl kz) ?_
    show own_Go p.tables e below _ T5 (mkF m 167 #[.val (.long q1), .second, .val (.int p2), .val (.int p3), .val (.int z), .val (.long q1), .second, .val (.ref b1), .val (.ref b2), .val (.int (own_face (own_draw q1 Kk) z)), .unset, .unset, .unset, .unset, .unset, .unset, .unset, .unset, .unset] [])
    refine own_go (fun tz kz => XS.aload X5.here hx rfl (hb hby at_167) rfl rfl kz) ?_
    show own_Go p.tables e below _ T5 (mkF m 169 #[.val (.long q1), .second, .val (.int p2), .val (.int p3), .val (.int z), .val (.long q1), .second, .val (.ref b1), .val (.ref b2), .val (.int (own_face (own_draw q1 Kk) z)), .unset, .unset, .unset, .unset, .unset, .unset, .unset, .unset, .unset] [(.ref b2)])
    obtain ⟨cq6, kq6, q6a, q6b, q6c⟩ := isOf hZ rfl Eb2
    obtain ⟨_, _, ⟨T6, L6, k6, n6⟩, -, X6, ⟨Lc6, hQ6, l6, y6, z6⟩, st6⟩ := X5.virtualBack hx (y := (⟨"com/example/gunline/gunline/core/SeededDice", "next", "()J"⟩ : MethodName)) (z := (⟨"com/example/gunline/gunline/core/SeededDice", "next", "()J"⟩ : MethodName)) hown (mvT hZ (hw _ (List.mem_of_getElem? (i := 41) rfl))) (mvT hZ (hw _ (List.mem_of_getElem? (i := 34) rfl))) (notFace_of_selects (args := #[]) (mvT hZ (hw _ (List.mem_of_getElem? (i := 36) rfl)))) (mvT hZ (hw _ (List.mem_of_getElem? (i := 36) rfl))) (mvT hZ (hw _ (List.mem_of_getElem? (i := 35) rfl))) (by decide) (backOf (W := 0) (rm6 l Z a0 hw [] b2 (own_st q1 0) T5.heap n0 (Nat.le_trans (Nat.le_trans (Nat.le_trans (Nat.le_trans (Nat.le_trans Z0 E1.1) K2.1) E3.1) K4.1) K5.1) Fb2 Eb2 g_b2) hZ (hw _ (List.mem_of_getElem? (i := 37) rfl)) (hw _ (List.mem_of_getElem? (i := 18) rfl)) (by decide) (by decide)) q6a q6c (g := (mkF m 169 #[.val (.long q1), .second, .val (.int p2), .val (.int p3), .val (.int z), .val (.long q1), .second, .val (.ref b1), .val (.ref b2), .val (.int (own_face (own_draw q1 Kk) z)), .unset, .unset, .unset, .unset, .unset, .unset, .unset, .unset, .unset] [(.ref b2)])) rfl (by rw [hml]; rfl) (Steps.refl _) (argsL := []) (rest := []) (lenOf pd_1 rfl) rfl (by show 2 * 0 + _ ≤ _; exact Nat.le_of_eq rfl) (hb hby at_169) (fun _ _ => ⟨rfl, rfl, (by decide : 2 + 0 ≤ _), (by decide : 2 + 0 ≤ _)⟩)
    dsimp only [Pt.U, Pt.locs, Pt.cells, Pt.slots] at X6 l6 y6 z6 st6 hQ6
    subst l6 y6 z6
    obtain ⟨rfl, N6q, K6, Eb3, Fb3⟩ := hQ6
    have N6 := Fr.app N5 N6q
    refine own_go (fun tz kz => st6.trans kz) ?_
    show own_Go p.tables e below _ T6 (mkF m 172 #[.val (.long q1), .second, .val (.int p2), .val (.int p3), .val (.int z), .val (.long q1), .second, .val (.ref b1), .val (.ref b2), .val (.int (own_face (own_draw q1 Kk) z)), .unset, .unset, .unset, .unset, .unset, .unset, .unset, .unset, .unset] [(.long (own_mix (own_st q1 0 + (-7046029254386353131 : Int64))))])
    refine own_go (fun tz kz => XS.iconst X6.here hx rfl (hb hby at_172) kz) ?_
    show own_Go p.tables e below _ T6 (mkF m 173 #[.val (.long q1), .second, .val (.int p2), .val (.int p3), .val (.int z), .val (.long q1), .second, .val (.ref b1), .val (.ref b2), .val (.int (own_face (own_draw q1 Kk) z)), .unset, .unset, .unset, .unset, .unset, .unset, .unset, .unset, .unset] [(.int (1 : Int32)), (.long (own_mix (own_st q1 0 + (-7046029254386353131 : Int64))))])
    refine own_go (fun tz kz => XT.lushr X6.here hx rfl (hb hby at_173) rfl kz) ?_
    show own_Go p.tables e below _ T6 (mkF m 174 #[.val (.long q1), .second, .val (.int p2), .val (.int p3), .val (.int z), .val (.long q1), .second, .val (.ref b1), .val (.ref b2), .val (.int (own_face (own_draw q1 Kk) z)), .unset, .unset, .unset, .unset, .unset, .unset, .unset, .unset, .unset] [(.long (XT.ushrL (own_mix (own_st q1 0 + (-7046029254386353131 : Int64))) (1 : Int32)))])
    show own_Go p.tables e below _ T6 (mkF m 174 #[.val (.long q1), .second, .val (.int p2), .val (.int p3), .val (.int z), .val (.long q1), .second, .val (.ref b1), .val (.ref b2), .val (.int (own_face (own_draw q1 Kk) z)), .unset, .unset, .unset, .unset, .unset, .unset, .unset, .unset, .unset] [(.long (own_draw q1 1))])
    have Ea4 := Ea3.keep K6
    have Fa4 := Fa3.keep K6 (own_not1 hne)
    refine own_go (fun tz kz => XT.lstore X6.here hx rfl (hb hby at_174) rfl (l' := #[.val (.long q1), .second, .val (.int p2), .val (.int p3), .val (.int z), .val (.long q1), .second, .val (.ref b1), .val (.ref b2), .val (.int (own_face (own_draw q1 Kk) z)), .val (.long (own_draw q1 1)), .second, .unset, .unset, .unset, .unset, .unset, .unset, .unset]) rfl kz) ?_
    show own_Go p.tables e below _ T6 (mkF m 176 #[.val (.long q1), .second, .val (.int p2), .val (.int p3), .val (.int z), .val (.long q1), .second, .val (.ref b1), .val (.ref b2), .val (.int (own_face (own_draw q1 Kk) z)), .val (.long (own_draw q1 1)), .second, .unset, .unset, .unset, .unset, .unset, .unset, .unset] [])
    refine own_go (fun tz kz => XT.lload X6.here hx rfl (hb hby at_176) rfl kz) ?_
    show own_Go p.tables e below _ T6 (mkF m 178 #[.val (.long q1), .second, .val (.int p2), .val (.int p3), .val (.int z), .val (.long q1), .second, .val (.ref b1), .val (.ref b2), .val (.int (own_face (own_draw q1 Kk) z)), .val (.long (own_draw q1 1)), .second, .unset, .unset, .unset, .unset, .unset, .unset, .unset] [(.long (own_draw q1 1))])
    refine own_go (fun tz kz => XS.iload X6.here hx rfl (hb hby at_178) rfl kz) ?_
    show own_Go p.tables e below _ T6 (mkF m 180 #[.val (.long q1), .second, .val (.int p2), .val (.int p3), .val (.int z), .val (.long q1), .second, .val (.ref b1), .val (.ref b2), .val (.int (own_face (own_draw q1 Kk) z)), .val (.long (own_draw q1 1)), .second, .unset, .unset, .unset, .unset, .unset, .unset, .unset] [(.int z), (.long (own_draw q1 1))])
    obtain ⟨_, _, ⟨T7, L7, k7, n7⟩, -, X7, ⟨Lc7, hQ7, l7, y7, z7⟩, st7⟩ := Jvm.LawKit.callS X6 hx (y := (⟨"com/example/gunline/gunline/core/SeededDiceRollPinLaw", "accepts", "(JI)Z"⟩ : MethodName)) hown (mvT hZ (hw _ (List.mem_of_getElem? (i := 42) rfl))) (mvT hZ (hw _ (List.mem_of_getElem? (i := 43) rfl))) (mvT hZ (hw _ (List.mem_of_getElem? (i := 7) rfl))) (mvT hZ (hw _ (List.mem_of_getElem? (i := 44) rfl))) (by decide) (backOf (W := 0) (rm7 l Z a0 hw [] (own_draw q1 1) z T6.heap n0 (Nat.le_trans (Nat.le_trans (Nat.le_trans (Nat.le_trans (Nat.le_trans (Nat.le_trans Z0 E1.1) K2.1) E3.1) K4.1) K5.1) K6.1) hz0) hZ (hw _ (List.mem_of_getElem? (i := 44) rfl)) (hw _ (List.mem_of_getElem? (i := 7) rfl)) (by decide) (by decide)) (g := (mkF m 180 #[.val (.long q1), .second, .val (.int p2), .val (.int p3), .val (.int z), .val (.long q1), .second, .val (.ref b1), .val (.ref b2), .val (.int (own_face (own_draw q1 Kk) z)), .val (.long (own_draw q1 1)), .second, .unset, .unset, .unset, .unset, .unset, .unset, .unset] [(.int z), (.long (own_draw q1 1))])) rfl (by rw [hml]; rfl) (argsL := [(.long (own_draw q1 1)), (.int z)]) (rest := []) (lenOf pd_4 rfl) rfl (by show 2 * 0 + _ ≤ _; exact Nat.le_of_eq rfl) (hb hby at_180) (fun _ _ => ⟨rfl, rfl, (by decide : 2 + 0 ≤ _), (by decide : 2 + 0 ≤ _)⟩)
    dsimp only [Pt.U, Pt.locs, Pt.cells, Pt.slots] at X7 l7 y7 z7 st7 hQ7
    subst l7 y7 z7
    obtain ⟨rfl, N7q, e7⟩ := hQ7
    have N7 := Fr.app N6 N7q
    refine own_go (fun tz kz => st7 tz kz) ?_
    show own_Go p.tables e below _ T7 (mkF m 183 #[.val (.long q1), .second, .val (.int p2), .val (.int p3), .val (.int z), .val (.long q1), .second, .val (.ref b1), .val (.ref b2), .val (.int (own_face (own_draw q1 Kk) z)), .val (.long (own_draw q1 1)), .second, .unset, .unset, .unset, .unset, .unset, .unset, .unset] [(.int (own_acc (own_draw q1 1) z))])
    by_cases hA : (own_acc (own_draw q1 1) z) = (0 : Int32)
    ·
      refine own_go (fun tz kz => XS.ifYes X7.here hx rfl (pc0 := 183) (pc' := 220) rfl (hb hby at_183) rfl (XT.i0_eq_t hA) (by decide) (by decide) kz) ?_
      show own_Go p.tables e below _ T7 (mkF m 220 #[.val (.long q1), .second, .val (.int p2), .val (.int p3), .val (.int z), .val (.long q1), .second, .val (.ref b1), .val (.ref b2), .val (.int (own_face (own_draw q1 Kk) z)), .val (.long (own_draw q1 1)), .second, .unset, .unset, .unset, .unset, .unset, .unset, .unset] [])
      refine own_go (fun tz kz => XS.aload X7.here hx rfl (hb hby at_220) rfl rfl kz) ?_
      show own_Go p.tables e below _ T7 (mkF m 222 #[.val (.long q1), .second, .val (.int p2), .val (.int p3), .val (.int z), .val (.long q1), .second, .val (.ref b1), .val (.ref b2), .val (.int (own_face (own_draw q1 Kk) z)), .val (.long (own_draw q1 1)), .second, .unset, .unset, .unset, .unset, .unset, .unset, .unset] [(.ref b2)])
      obtain ⟨cq8, kq8, q8a, q8b, q8c⟩ := isOf hZ e7 Eb3
      obtain ⟨_, _, ⟨T8, L8, k8, n8⟩, -, X8, ⟨Lc8, hQ8, l8, y8, z8⟩, st8⟩ := X7.virtualBack hx (y := (⟨"com/example/gunline/gunline/core/SeededDice", "next", "()J"⟩ : MethodName)) (z := (⟨"com/example/gunline/gunline/core/SeededDice", "next", "()J"⟩ : MethodName)) hown (mvT hZ (hw _ (List.mem_of_getElem? (i := 41) rfl))) (mvT hZ (hw _ (List.mem_of_getElem? (i := 34) rfl))) (notFace_of_selects (args := #[]) (mvT hZ (hw _ (List.mem_of_getElem? (i := 36) rfl)))) (mvT hZ (hw _ (List.mem_of_getElem? (i := 36) rfl))) (mvT hZ (hw _ (List.mem_of_getElem? (i := 35) rfl))) (by decide) (backOf (W := 0) (rm6 l Z a0 hw [] b2 (own_st q1 1) T6.heap n0 (Nat.le_trans (Nat.le_trans (Nat.le_trans (Nat.le_trans (Nat.le_trans (Nat.le_trans Z0 E1.1) K2.1) E3.1) K4.1) K5.1) K6.1) Fb3 Eb3 g_b2) hZ (hw _ (List.mem_of_getElem? (i := 37) rfl)) (hw _ (List.mem_of_getElem? (i := 18) rfl)) (by decide) (by decide)) q8a q8c (g := (mkF m 222 #[.val (.long q1), .second, .val (.int p2), .val (.int p3), .val (.int z), .val (.long q1), .second, .val (.ref b1), .val (.ref b2), .val (.int (own_face (own_draw q1 Kk) z)), .val (.long (own_draw q1 1)), .second, .unset, .unset, .unset, .unset, .unset, .unset, .unset] [(.ref b2)])) rfl (by rw [hml]; rfl) (Steps.refl _) (argsL := []) (rest := []) (lenOf pd_1 rfl) rfl (by show 2 * 0 + _ ≤ _; exact Nat.le_of_eq rfl) (hb hby at_222) (fun _ _ => ⟨rfl, e7, (by decide : 2 + 0 ≤ _), (by decide : 2 + 0 ≤ _)⟩)
      dsimp only [Pt.U, Pt.locs, Pt.cells, Pt.slots] at X8 l8 y8 z8 st8 hQ8
      subst l8 y8 z8
      obtain ⟨rfl, N8q, K8, Eb4, Fb4⟩ := hQ8
      have N8 := Fr.app N7 N8q
      refine own_go (fun tz kz => st8.trans kz) ?_
      show own_Go p.tables e below _ T8 (mkF m 225 #[.val (.long q1), .second, .val (.int p2), .val (.int p3), .val (.int z), .val (.long q1), .second, .val (.ref b1), .val (.ref b2), .val (.int (own_face (own_draw q1 Kk) z)), .val (.long (own_draw q1 1)), .second, .unset, .unset, .unset, .unset, .unset, .unset, .unset] [(.long (own_mix (own_st q1 1 + (-7046029254386353131 : Int64))))])
      refine own_go (fun tz kz => XS.iconst X8.here hx rfl (hb hby at_225) kz) ?_
      show own_Go p.tables e below _ T8 (mkF m 226 #[.val (.long q1), .second, .val (.int p2), .val (.int p3), .val (.int z), .val (.long q1), .second, .val (.ref b1), .val (.ref b2), .val (.int (own_face (own_draw q1 Kk) z)), .val (.long (own_draw q1 1)), .second, .unset, .unset, .unset, .unset, .unset, .unset, .unset] [(.int (1 : Int32)), (.long (own_mix (own_st q1 1 + (-7046029254386353131 : Int64))))])
      refine own_go (fun tz kz => XT.lushr X8.here hx rfl (hb hby at_226) rfl kz) ?_
      show own_Go p.tables e below _ T8 (mkF m 227 #[.val (.long q1), .second, .val (.int p2), .val (.int p3), .val (.int z), .val (.long q1), .second, .val (.ref b1), .val (.ref b2), .val (.int (own_face (own_draw q1 Kk) z)), .val (.long (own_draw q1 1)), .second, .unset, .unset, .unset, .unset, .unset, .unset, .unset] [(.long (XT.ushrL (own_mix (own_st q1 1 + (-7046029254386353131 : Int64))) (1 : Int32)))])
      show own_Go p.tables e below _ T8 (mkF m 227 #[.val (.long q1), .second, .val (.int p2), .val (.int p3), .val (.int z), .val (.long q1), .second, .val (.ref b1), .val (.ref b2), .val (.int (own_face (own_draw q1 Kk) z)), .val (.long (own_draw q1 1)), .second, .unset, .unset, .unset, .unset, .unset, .unset, .unset] [(.long (own_draw q1 2))])
      have Ea5 := Ea4.keep K8
      have Fa5 := Fa4.keep K8 (own_not1 hne)
      refine own_go (fun tz kz => XT.lstore X8.here hx rfl (hb hby at_227) rfl (l' := #[.val (.long q1), .second, .val (.int p2), .val (.int p3), .val (.int z), .val (.long q1), .second, .val (.ref b1), .val (.ref b2), .val (.int (own_face (own_draw q1 Kk) z)), .val (.long (own_draw q1 1)), .second, .val (.long (own_draw q1 2)), .second, .unset, .unset, .unset, .unset, .unset]) rfl kz) ?_
      show own_Go p.tables e below _ T8 (mkF m 229 #[.val (.long q1), .second, .val (.int p2), .val (.int p3), .val (.int z), .val (.long q1), .second, .val (.ref b1), .val (.ref b2), .val (.int (own_face (own_draw q1 Kk) z)), .val (.long (own_draw q1 1)), .second, .val (.long (own_draw q1 2)), .second, .unset, .unset, .unset, .unset, .unset] [])
      refine own_go (fun tz kz => XT.lload X8.here hx rfl (hb hby at_229) rfl kz) ?_
      show own_Go p.tables e below _ T8 (mkF m 231 #[.val (.long q1), .second, .val (.int p2), .val (.int p3), .val (.int z), .val (.long q1), .second, .val (.ref b1), .val (.ref b2), .val (.int (own_face (own_draw q1 Kk) z)), .val (.long (own_draw q1 1)), .second, .val (.long (own_draw q1 2)), .second, .unset, .unset, .unset, .unset, .unset] [(.long (own_draw q1 2))])
      refine own_go (fun tz kz => XS.iload X8.here hx rfl (hb hby at_231) rfl kz) ?_
      show own_Go p.tables e below _ T8 (mkF m 233 #[.val (.long q1), .second, .val (.int p2), .val (.int p3), .val (.int z), .val (.long q1), .second, .val (.ref b1), .val (.ref b2), .val (.int (own_face (own_draw q1 Kk) z)), .val (.long (own_draw q1 1)), .second, .val (.long (own_draw q1 2)), .second, .unset, .unset, .unset, .unset, .unset] [(.int z), (.long (own_draw q1 2))])
      obtain ⟨_, _, ⟨T9, L9, k9, n9⟩, -, X9, ⟨Lc9, hQ9, l9, y9, z9⟩, st9⟩ := Jvm.LawKit.callS X8 hx (y := (⟨"com/example/gunline/gunline/core/SeededDiceRollPinLaw", "accepts", "(JI)Z"⟩ : MethodName)) hown (mvT hZ (hw _ (List.mem_of_getElem? (i := 42) rfl))) (mvT hZ (hw _ (List.mem_of_getElem? (i := 43) rfl))) (mvT hZ (hw _ (List.mem_of_getElem? (i := 7) rfl))) (mvT hZ (hw _ (List.mem_of_getElem? (i := 44) rfl))) (by decide) (backOf (W := 0) (rm7 l Z a0 hw [] (own_draw q1 2) z T8.heap n0 (Nat.le_trans (Nat.le_trans (Nat.le_trans (Nat.le_trans (Nat.le_trans (Nat.le_trans (Nat.le_trans Z0 E1.1) K2.1) E3.1) K4.1) K5.1) K6.1) K8.1) hz0) hZ (hw _ (List.mem_of_getElem? (i := 44) rfl)) (hw _ (List.mem_of_getElem? (i := 7) rfl)) (by decide) (by decide)) (g := (mkF m 233 #[.val (.long q1), .second, .val (.int p2), .val (.int p3), .val (.int z), .val (.long q1), .second, .val (.ref b1), .val (.ref b2), .val (.int (own_face (own_draw q1 Kk) z)), .val (.long (own_draw q1 1)), .second, .val (.long (own_draw q1 2)), .second, .unset, .unset, .unset, .unset, .unset] [(.int z), (.long (own_draw q1 2))])) rfl (by rw [hml]; rfl) (argsL := [(.long (own_draw q1 2)), (.int z)]) (rest := []) (lenOf pd_4 rfl) rfl (by show 2 * 0 + _ ≤ _; exact Nat.le_of_eq rfl) (hb hby at_233) (fun _ _ => ⟨rfl, rfl, (by decide : 2 + 0 ≤ _), (by decide : 2 + 0 ≤ _)⟩)
      dsimp only [Pt.U, Pt.locs, Pt.cells, Pt.slots] at X9 l9 y9 z9 st9 hQ9
      subst l9 y9 z9
      obtain ⟨rfl, N9q, e9⟩ := hQ9
      have N9 := Fr.app N8 N9q
      refine own_go (fun tz kz => st9 tz kz) ?_
      show own_Go p.tables e below _ T9 (mkF m 236 #[.val (.long q1), .second, .val (.int p2), .val (.int p3), .val (.int z), .val (.long q1), .second, .val (.ref b1), .val (.ref b2), .val (.int (own_face (own_draw q1 Kk) z)), .val (.long (own_draw q1 1)), .second, .val (.long (own_draw q1 2)), .second, .unset, .unset, .unset, .unset, .unset] [(.int (own_acc (own_draw q1 2) z))])
      by_cases hB : (own_acc (own_draw q1 2) z) = (0 : Int32)
      ·
        refine own_go (fun tz kz => XS.ifYes X9.here hx rfl (pc0 := 236) (pc' := 273) rfl (hb hby at_236) rfl (XT.i0_eq_t hB) (by decide) (by decide) kz) ?_
        show own_Go p.tables e below _ T9 (mkF m 273 #[.val (.long q1), .second, .val (.int p2), .val (.int p3), .val (.int z), .val (.long q1), .second, .val (.ref b1), .val (.ref b2), .val (.int (own_face (own_draw q1 Kk) z)), .val (.long (own_draw q1 1)), .second, .val (.long (own_draw q1 2)), .second, .unset, .unset, .unset, .unset, .unset] [])
        refine own_go (fun tz kz => XS.iload X9.here hx rfl (hb hby at_273) rfl kz) ?_
        show own_Go p.tables e below _ T9 (mkF m 275 #[.val (.long q1), .second, .val (.int p2), .val (.int p3), .val (.int z), .val (.long q1), .second, .val (.ref b1), .val (.ref b2), .val (.int (own_face (own_draw q1 Kk) z)), .val (.long (own_draw q1 1)), .second, .val (.long (own_draw q1 2)), .second, .unset, .unset, .unset, .unset, .unset] [(.int (own_face (own_draw q1 Kk) z))])
        refine own_go (fun tz kz => XS.iconst X9.here hx rfl (hb hby at_275) kz) ?_
        show own_Go p.tables e below _ T9 (mkF m 276 #[.val (.long q1), .second, .val (.int p2), .val (.int p3), .val (.int z), .val (.long q1), .second, .val (.ref b1), .val (.ref b2), .val (.int (own_face (own_draw q1 Kk) z)), .val (.long (own_draw q1 1)), .second, .val (.long (own_draw q1 2)), .second, .unset, .unset, .unset, .unset, .unset] [(.int (1 : Int32)), (.int (own_face (own_draw q1 Kk) z))])
        refine own_go (fun tz kz => XS.icmpNo X9.here hx rfl (hb hby at_276) rfl (XT.ii_lt_f (own_face_in hz (own_draw_nn q1 Kk)).1) kz) ?_
        show own_Go p.tables e below _ T9 (mkF m 279 #[.val (.long q1), .second, .val (.int p2), .val (.int p3), .val (.int z), .val (.long q1), .second, .val (.ref b1), .val (.ref b2), .val (.int (own_face (own_draw q1 Kk) z)), .val (.long (own_draw q1 1)), .second, .val (.long (own_draw q1 2)), .second, .unset, .unset, .unset, .unset, .unset] [])
        refine own_go (fun tz kz => XS.iload X9.here hx rfl (hb hby at_279) rfl kz) ?_
        show own_Go p.tables e below _ T9 (mkF m 281 #[.val (.long q1), .second, .val (.int p2), .val (.int p3), .val (.int z), .val (.long q1), .second, .val (.ref b1), .val (.ref b2), .val (.int (own_face (own_draw q1 Kk) z)), .val (.long (own_draw q1 1)), .second, .val (.long (own_draw q1 2)), .second, .unset, .unset, .unset, .unset, .unset] [(.int (own_face (own_draw q1 Kk) z))])
        refine own_go (fun tz kz => XS.iload X9.here hx rfl (hb hby at_281) rfl kz) ?_
        show own_Go p.tables e below _ T9 (mkF m 283 #[.val (.long q1), .second, .val (.int p2), .val (.int p3), .val (.int z), .val (.long q1), .second, .val (.ref b1), .val (.ref b2), .val (.int (own_face (own_draw q1 Kk) z)), .val (.long (own_draw q1 1)), .second, .val (.long (own_draw q1 2)), .second, .unset, .unset, .unset, .unset, .unset] [(.int z), (.int (own_face (own_draw q1 Kk) z))])
        refine own_go (fun tz kz => XS.icmpNo X9.here hx rfl (hb hby at_283) rfl (XT.ii_gt_f (own_face_in hz (own_draw_nn q1 Kk)).2) kz) ?_
        show own_Go p.tables e below _ T9 (mkF m 286 #[.val (.long q1), .second, .val (.int p2), .val (.int p3), .val (.int z), .val (.long q1), .second, .val (.ref b1), .val (.ref b2), .val (.int (own_face (own_draw q1 Kk) z)), .val (.long (own_draw q1 1)), .second, .val (.long (own_draw q1 2)), .second, .unset, .unset, .unset, .unset, .unset] [])
        refine own_go (fun tz kz => XS.iconst X9.here hx rfl (hb hby at_286) kz) ?_
        show own_Go p.tables e below _ T9 (mkF m 287 #[.val (.long q1), .second, .val (.int p2), .val (.int p3), .val (.int z), .val (.long q1), .second, .val (.ref b1), .val (.ref b2), .val (.int (own_face (own_draw q1 Kk) z)), .val (.long (own_draw q1 1)), .second, .val (.long (own_draw q1 2)), .second, .unset, .unset, .unset, .unset, .unset] [(.int (1 : Int32))])
        refine own_go (fun tz kz => XS.goto X9.here hx rfl (pc0 := 287) (pc' := 291) rfl (hb hby at_287) (by decide) (by decide) kz) ?_
        show own_Go p.tables e below _ T9 (mkF m 291 #[.val (.long q1), .second, .val (.int p2), .val (.int p3), .val (.int z), .val (.long q1), .second, .val (.ref b1), .val (.ref b2), .val (.int (own_face (own_draw q1 Kk) z)), .val (.long (own_draw q1 1)), .second, .val (.long (own_draw q1 2)), .second, .unset, .unset, .unset, .unset, .unset] [(.int (1 : Int32))])
        obtain ⟨fs, hr, hrun, hended, hW, hsame⟩ := X9.leave (v := some (.int (1 : Int32))) (fun h => by rw [Bd.returns] at h; cases h) (BodyLoose.notSynchronized Bd)
        refine ⟨_, _, ?_, hrun, hended, _, _, rfl, ?_, ⟨_, rfl⟩, hW, hsame.mono (by decide) (by decide)⟩
        · exact retN X9 hx (t := .boolean) Bd.returns (by simp) (hb hby at_291) hr
        · show Q0 Z q1 p2 p3 h0 n0 _ T9.heap _
          rw [e9]
          exact ⟨rfl, N9⟩
      ·
        refine own_go (fun tz kz => XS.ifNo X9.here hx rfl (hb hby at_236) rfl (XT.i0_eq_f hB) kz) ?_
        show own_Go p.tables e below _ T9 (mkF m 239 #[.val (.long q1), .second, .val (.int p2), .val (.int p3), .val (.int z), .val (.long q1), .second, .val (.ref b1), .val (.ref b2), .val (.int (own_face (own_draw q1 Kk) z)), .val (.long (own_draw q1 1)), .second, .val (.long (own_draw q1 2)), .second, .unset, .unset, .unset, .unset, .unset] [])
        obtain rfl : Kk = 2 := own_K2 hz hKa hKb hm hA hB
        show own_Go p.tables e below _ T9 (mkF m 239 #[.val (.long q1), .second, .val (.int p2), .val (.int p3), .val (.int z), .val (.long q1), .second, .val (.ref b1), .val (.ref b2), .val (.int (own_face (own_draw q1 2) z)), .val (.long (own_draw q1 1)), .second, .val (.long (own_draw q1 2)), .second, .unset, .unset, .unset, .unset, .unset] [])
        refine own_go (fun tz kz => XS.iload X9.here hx rfl (hb hby at_239) rfl kz) ?_
        show own_Go p.tables e below _ T9 (mkF m 241 #[.val (.long q1), .second, .val (.int p2), .val (.int p3), .val (.int z), .val (.long q1), .second, .val (.ref b1), .val (.ref b2), .val (.int (own_face (own_draw q1 2) z)), .val (.long (own_draw q1 1)), .second, .val (.long (own_draw q1 2)), .second, .unset, .unset, .unset, .unset, .unset] [(.int (own_face (own_draw q1 2) z))])
        refine own_go (fun tz kz => XT.lload X9.here hx rfl (hb hby at_241) rfl kz) ?_
        show own_Go p.tables e below _ T9 (mkF m 243 #[.val (.long q1), .second, .val (.int p2), .val (.int p3), .val (.int z), .val (.long q1), .second, .val (.ref b1), .val (.ref b2), .val (.int (own_face (own_draw q1 2) z)), .val (.long (own_draw q1 1)), .second, .val (.long (own_draw q1 2)), .second, .unset, .unset, .unset, .unset, .unset] [(.long (own_draw q1 2)), (.int (own_face (own_draw q1 2) z))])
        refine own_go (fun tz kz => XS.iload X9.here hx rfl (hb hby at_243) rfl kz) ?_
        show own_Go p.tables e below _ T9 (mkF m 245 #[.val (.long q1), .second, .val (.int p2), .val (.int p3), .val (.int z), .val (.long q1), .second, .val (.ref b1), .val (.ref b2), .val (.int (own_face (own_draw q1 2) z)), .val (.long (own_draw q1 1)), .second, .val (.long (own_draw q1 2)), .second, .unset, .unset, .unset, .unset, .unset] [(.int z), (.long (own_draw q1 2)), (.int (own_face (own_draw q1 2) z))])
        refine own_go (fun tz kz => XT.i2l X9.here hx rfl (hb hby at_245) rfl kz) ?_
        show own_Go p.tables e below _ T9 (mkF m 246 #[.val (.long q1), .second, .val (.int p2), .val (.int p3), .val (.int z), .val (.long q1), .second, .val (.ref b1), .val (.ref b2), .val (.int (own_face (own_draw q1 2) z)), .val (.long (own_draw q1 1)), .second, .val (.long (own_draw q1 2)), .second, .unset, .unset, .unset, .unset, .unset] [(.long z.toInt64), (.long (own_draw q1 2)), (.int (own_face (own_draw q1 2) z))])
        refine own_go (fun tz kz => XT.lrem X9.here hx rfl (hb hby at_246) rfl hz0 kz) ?_
        show own_Go p.tables e below _ T9 (mkF m 247 #[.val (.long q1), .second, .val (.int p2), .val (.int p3), .val (.int z), .val (.long q1), .second, .val (.ref b1), .val (.ref b2), .val (.int (own_face (own_draw q1 2) z)), .val (.long (own_draw q1 1)), .second, .val (.long (own_draw q1 2)), .second, .unset, .unset, .unset, .unset, .unset] [(.long ((own_draw q1 2) - ((own_draw q1 2) / z.toInt64) * z.toInt64)), (.int (own_face (own_draw q1 2) z))])
        refine own_go (fun tz kz => XT.l2i X9.here hx rfl (hb hby at_247) rfl kz) ?_
        show own_Go p.tables e below _ T9 (mkF m 248 #[.val (.long q1), .second, .val (.int p2), .val (.int p3), .val (.int z), .val (.long q1), .second, .val (.ref b1), .val (.ref b2), .val (.int (own_face (own_draw q1 2) z)), .val (.long (own_draw q1 1)), .second, .val (.long (own_draw q1 2)), .second, .unset, .unset, .unset, .unset, .unset] [(.int ((own_draw q1 2) - ((own_draw q1 2) / z.toInt64) * z.toInt64).toInt32), (.int (own_face (own_draw q1 2) z))])
        refine own_go (fun tz kz => XS.iconst X9.here hx rfl (hb hby at_248) kz) ?_
        show own_Go p.tables e below _ T9 (mkF m 249 #[.val (.long q1), .second, .val (.int p2), .val (.int p3), .val (.int z), .val (.long q1), .second, .val (.ref b1), .val (.ref b2), .val (.int (own_face (own_draw q1 2) z)), .val (.long (own_draw q1 1)), .second, .val (.long (own_draw q1 2)), .second, .unset, .unset, .unset, .unset, .unset] [(.int (1 : Int32)), (.int ((own_draw q1 2) - ((own_draw q1 2) / z.toInt64) * z.toInt64).toInt32), (.int (own_face (own_draw q1 2) z))])
        refine own_go (fun tz kz => XS.iadd X9.here hx rfl (hb hby at_249) rfl kz) ?_
        show own_Go p.tables e below _ T9 (mkF m 250 #[.val (.long q1), .second, .val (.int p2), .val (.int p3), .val (.int z), .val (.long q1), .second, .val (.ref b1), .val (.ref b2), .val (.int (own_face (own_draw q1 2) z)), .val (.long (own_draw q1 1)), .second, .val (.long (own_draw q1 2)), .second, .unset, .unset, .unset, .unset, .unset] [(.int (((own_draw q1 2) - ((own_draw q1 2) / z.toInt64) * z.toInt64).toInt32 + (1 : Int32))), (.int (own_face (own_draw q1 2) z))])
        show own_Go p.tables e below _ T9 (mkF m 250 #[.val (.long q1), .second, .val (.int p2), .val (.int p3), .val (.int z), .val (.long q1), .second, .val (.ref b1), .val (.ref b2), .val (.int (own_face (own_draw q1 2) z)), .val (.long (own_draw q1 1)), .second, .val (.long (own_draw q1 2)), .second, .unset, .unset, .unset, .unset, .unset] [(.int (own_face (own_draw q1 2) z)), (.int (own_face (own_draw q1 2) z))])
        refine own_go (fun tz kz => XS.icmpNo X9.here hx rfl (hb hby at_250) rfl (XT.ii_ne_f rfl) kz) ?_
        show own_Go p.tables e below _ T9 (mkF m 253 #[.val (.long q1), .second, .val (.int p2), .val (.int p3), .val (.int z), .val (.long q1), .second, .val (.ref b1), .val (.ref b2), .val (.int (own_face (own_draw q1 2) z)), .val (.long (own_draw q1 1)), .second, .val (.long (own_draw q1 2)), .second, .unset, .unset, .unset, .unset, .unset] [])
        refine own_go (fun tz kz => XS.aload X9.here hx rfl (hb hby at_253) rfl rfl kz) ?_
        show own_Go p.tables e below _ T9 (mkF m 255 #[.val (.long q1), .second, .val (.int p2), .val (.int p3), .val (.int z), .val (.long q1), .second, .val (.ref b1), .val (.ref b2), .val (.int (own_face (own_draw q1 2) z)), .val (.long (own_draw q1 1)), .second, .val (.long (own_draw q1 2)), .second, .unset, .unset, .unset, .unset, .unset] [(.ref b1)])
        obtain ⟨cq10, kq10, q10a, q10b, q10c⟩ := isOf hZ e9 Ea5
        obtain ⟨_, _, ⟨T10, L10, k10, n10⟩, -, X10, ⟨Lc10, hQ10, l10, y10, z10⟩, st10⟩ := X9.virtualBack hx (y := (⟨"com/example/gunline/gunline/core/SeededDice", "next", "()J"⟩ : MethodName)) (z := (⟨"com/example/gunline/gunline/core/SeededDice", "next", "()J"⟩ : MethodName)) hown (mvT hZ (hw _ (List.mem_of_getElem? (i := 41) rfl))) (mvT hZ (hw _ (List.mem_of_getElem? (i := 34) rfl))) (notFace_of_selects (args := #[]) (mvT hZ (hw _ (List.mem_of_getElem? (i := 36) rfl)))) (mvT hZ (hw _ (List.mem_of_getElem? (i := 36) rfl))) (mvT hZ (hw _ (List.mem_of_getElem? (i := 35) rfl))) (by decide) (backOf (W := 0) (rm6 l Z a0 hw [] b1 (own_st q1 2) T8.heap n0 (Nat.le_trans (Nat.le_trans (Nat.le_trans (Nat.le_trans (Nat.le_trans (Nat.le_trans (Nat.le_trans Z0 E1.1) K2.1) E3.1) K4.1) K5.1) K6.1) K8.1) Fa5 Ea5 g_b1) hZ (hw _ (List.mem_of_getElem? (i := 37) rfl)) (hw _ (List.mem_of_getElem? (i := 18) rfl)) (by decide) (by decide)) q10a q10c (g := (mkF m 255 #[.val (.long q1), .second, .val (.int p2), .val (.int p3), .val (.int z), .val (.long q1), .second, .val (.ref b1), .val (.ref b2), .val (.int (own_face (own_draw q1 2) z)), .val (.long (own_draw q1 1)), .second, .val (.long (own_draw q1 2)), .second, .unset, .unset, .unset, .unset, .unset] [(.ref b1)])) rfl (by rw [hml]; rfl) (Steps.refl _) (argsL := []) (rest := []) (lenOf pd_1 rfl) rfl (by show 2 * 0 + _ ≤ _; exact Nat.le_of_eq rfl) (hb hby at_255) (fun _ _ => ⟨rfl, e9, (by decide : 2 + 0 ≤ _), (by decide : 2 + 0 ≤ _)⟩)
        dsimp only [Pt.U, Pt.locs, Pt.cells, Pt.slots] at X10 l10 y10 z10 st10 hQ10
        subst l10 y10 z10
        obtain ⟨rfl, N10q, K10, Ea9, Fa9⟩ := hQ10
        have N10 := Fr.app N9 N10q
        refine own_go (fun tz kz => st10.trans kz) ?_
        show own_Go p.tables e below _ T10 (mkF m 258 #[.val (.long q1), .second, .val (.int p2), .val (.int p3), .val (.int z), .val (.long q1), .second, .val (.ref b1), .val (.ref b2), .val (.int (own_face (own_draw q1 2) z)), .val (.long (own_draw q1 1)), .second, .val (.long (own_draw q1 2)), .second, .unset, .unset, .unset, .unset, .unset] [(.long (own_mix (own_st q1 2 + (-7046029254386353131 : Int64))))])
        have Eb9 := Eb4.keep K10
        have Fb9 := Fb4.keep K10 (own_not1 (Ne.symm hne))
        refine own_go (fun tz kz => XS.aload X10.here hx rfl (hb hby at_258) rfl rfl kz) ?_
        show own_Go p.tables e below _ T10 (mkF m 260 #[.val (.long q1), .second, .val (.int p2), .val (.int p3), .val (.int z), .val (.long q1), .second, .val (.ref b1), .val (.ref b2), .val (.int (own_face (own_draw q1 2) z)), .val (.long (own_draw q1 1)), .second, .val (.long (own_draw q1 2)), .second, .unset, .unset, .unset, .unset, .unset] [(.ref b2), (.long (own_mix (own_st q1 2 + (-7046029254386353131 : Int64))))])
        obtain ⟨cq11, kq11, q11a, q11b, q11c⟩ := isOf hZ rfl Eb9
        obtain ⟨_, _, ⟨T11, L11, k11, n11⟩, -, X11, ⟨Lc11, hQ11, l11, y11, z11⟩, st11⟩ := X10.virtualBack hx (y := (⟨"com/example/gunline/gunline/core/SeededDice", "next", "()J"⟩ : MethodName)) (z := (⟨"com/example/gunline/gunline/core/SeededDice", "next", "()J"⟩ : MethodName)) hown (mvT hZ (hw _ (List.mem_of_getElem? (i := 41) rfl))) (mvT hZ (hw _ (List.mem_of_getElem? (i := 34) rfl))) (notFace_of_selects (args := #[]) (mvT hZ (hw _ (List.mem_of_getElem? (i := 36) rfl)))) (mvT hZ (hw _ (List.mem_of_getElem? (i := 36) rfl))) (mvT hZ (hw _ (List.mem_of_getElem? (i := 35) rfl))) (by decide) (backOf (W := 2) (rm6 l Z a0 hw [] b2 (own_st q1 2) T10.heap n0 (Nat.le_trans (Nat.le_trans (Nat.le_trans (Nat.le_trans (Nat.le_trans (Nat.le_trans (Nat.le_trans (Nat.le_trans Z0 E1.1) K2.1) E3.1) K4.1) K5.1) K6.1) K8.1) K10.1) Fb9 Eb9 g_b2) hZ (hw _ (List.mem_of_getElem? (i := 37) rfl)) (hw _ (List.mem_of_getElem? (i := 18) rfl)) (by decide) (by decide)) q11a q11c (g := (mkF m 260 #[.val (.long q1), .second, .val (.int p2), .val (.int p3), .val (.int z), .val (.long q1), .second, .val (.ref b1), .val (.ref b2), .val (.int (own_face (own_draw q1 2) z)), .val (.long (own_draw q1 1)), .second, .val (.long (own_draw q1 2)), .second, .unset, .unset, .unset, .unset, .unset] [(.ref b2), (.long (own_mix (own_st q1 2 + (-7046029254386353131 : Int64))))])) rfl (by rw [hml]; rfl) (Steps.refl _) (argsL := []) (rest := [(.long (own_mix (own_st q1 2 + (-7046029254386353131 : Int64))))]) (lenOf pd_1 rfl) rfl (by show 2 * 0 + _ ≤ _; exact Nat.le_of_eq rfl) (hb hby at_260) (fun _ _ => ⟨rfl, rfl, (by decide : 2 + 0 ≤ _), (by decide : 2 + 0 ≤ _)⟩)
        dsimp only [Pt.U, Pt.locs, Pt.cells, Pt.slots] at X11 l11 y11 z11 st11 hQ11
        subst l11 y11 z11
        obtain ⟨rfl, N11q, K11, Eb8, Fb8⟩ := hQ11
        have N11 := Fr.app N10 N11q
        refine own_go (fun tz kz => st11.trans kz) ?_
        show own_Go p.tables e below _ T11 (mkF m 263 #[.val (.long q1), .second, .val (.int p2), .val (.int p3), .val (.int z), .val (.long q1), .second, .val (.ref b1), .val (.ref b2), .val (.int (own_face (own_draw q1 2) z)), .val (.long (own_draw q1 1)), .second, .val (.long (own_draw q1 2)), .second, .unset, .unset, .unset, .unset, .unset] [(.long (own_mix (own_st q1 2 + (-7046029254386353131 : Int64)))), (.long (own_mix (own_st q1 2 + (-7046029254386353131 : Int64))))])
        refine own_go (fun tz kz => XT.lcmp X11.here hx rfl (hb hby at_263) rfl kz) ?_
        show own_Go p.tables e below _ T11 (mkF m 264 #[.val (.long q1), .second, .val (.int p2), .val (.int p3), .val (.int z), .val (.long q1), .second, .val (.ref b1), .val (.ref b2), .val (.int (own_face (own_draw q1 2) z)), .val (.long (own_draw q1 1)), .second, .val (.long (own_draw q1 2)), .second, .unset, .unset, .unset, .unset, .unset] [(.int (XT.cmpL (own_mix (own_st q1 2 + (-7046029254386353131 : Int64))) (own_mix (own_st q1 2 + (-7046029254386353131 : Int64)))))])
        refine own_go (fun tz kz => XS.ifNo X11.here hx rfl (hb hby at_264) rfl (XT.ll_ne_f rfl) kz) ?_
        show own_Go p.tables e below _ T11 (mkF m 267 #[.val (.long q1), .second, .val (.int p2), .val (.int p3), .val (.int z), .val (.long q1), .second, .val (.ref b1), .val (.ref b2), .val (.int (own_face (own_draw q1 2) z)), .val (.long (own_draw q1 1)), .second, .val (.long (own_draw q1 2)), .second, .unset, .unset, .unset, .unset, .unset] [])
        refine own_go (fun tz kz => XS.iconst X11.here hx rfl (hb hby at_267) kz) ?_
        show own_Go p.tables e below _ T11 (mkF m 268 #[.val (.long q1), .second, .val (.int p2), .val (.int p3), .val (.int z), .val (.long q1), .second, .val (.ref b1), .val (.ref b2), .val (.int (own_face (own_draw q1 2) z)), .val (.long (own_draw q1 1)), .second, .val (.long (own_draw q1 2)), .second, .unset, .unset, .unset, .unset, .unset] [(.int (1 : Int32))])
        refine own_go (fun tz kz => XS.goto X11.here hx rfl (pc0 := 268) (pc' := 272) rfl (hb hby at_268) (by decide) (by decide) kz) ?_
        show own_Go p.tables e below _ T11 (mkF m 272 #[.val (.long q1), .second, .val (.int p2), .val (.int p3), .val (.int z), .val (.long q1), .second, .val (.ref b1), .val (.ref b2), .val (.int (own_face (own_draw q1 2) z)), .val (.long (own_draw q1 1)), .second, .val (.long (own_draw q1 2)), .second, .unset, .unset, .unset, .unset, .unset] [(.int (1 : Int32))])
        obtain ⟨fs, hr, hrun, hended, hW, hsame⟩ := X11.leave (v := some (.int (1 : Int32))) (fun h => by rw [Bd.returns] at h; cases h) (BodyLoose.notSynchronized Bd)
        refine ⟨_, _, ?_, hrun, hended, _, _, rfl, ?_, ⟨_, rfl⟩, hW, hsame.mono (by decide) (by decide)⟩
        · exact retN X11 hx (t := .boolean) Bd.returns (by simp) (hb hby at_272) hr
        · show Q0 Z q1 p2 p3 h0 n0 _ T11.heap _
          exact ⟨rfl, N11⟩
    ·
      refine own_go (fun tz kz => XS.ifNo X7.here hx rfl (hb hby at_183) rfl (XT.i0_eq_f hA) kz) ?_
      show own_Go p.tables e below _ T7 (mkF m 186 #[.val (.long q1), .second, .val (.int p2), .val (.int p3), .val (.int z), .val (.long q1), .second, .val (.ref b1), .val (.ref b2), .val (.int (own_face (own_draw q1 Kk) z)), .val (.long (own_draw q1 1)), .second, .unset, .unset, .unset, .unset, .unset, .unset, .unset] [])
      obtain rfl : Kk = 1 := own_K1 hz hKa hm hA
      show own_Go p.tables e below _ T7 (mkF m 186 #[.val (.long q1), .second, .val (.int p2), .val (.int p3), .val (.int z), .val (.long q1), .second, .val (.ref b1), .val (.ref b2), .val (.int (own_face (own_draw q1 1) z)), .val (.long (own_draw q1 1)), .second, .unset, .unset, .unset, .unset, .unset, .unset, .unset] [])
      refine own_go (fun tz kz => XS.iload X7.here hx rfl (hb hby at_186) rfl kz) ?_
      show own_Go p.tables e below _ T7 (mkF m 188 #[.val (.long q1), .second, .val (.int p2), .val (.int p3), .val (.int z), .val (.long q1), .second, .val (.ref b1), .val (.ref b2), .val (.int (own_face (own_draw q1 1) z)), .val (.long (own_draw q1 1)), .second, .unset, .unset, .unset, .unset, .unset, .unset, .unset] [(.int (own_face (own_draw q1 1) z))])
      refine own_go (fun tz kz => XT.lload X7.here hx rfl (hb hby at_188) rfl kz) ?_
      show own_Go p.tables e below _ T7 (mkF m 190 #[.val (.long q1), .second, .val (.int p2), .val (.int p3), .val (.int z), .val (.long q1), .second, .val (.ref b1), .val (.ref b2), .val (.int (own_face (own_draw q1 1) z)), .val (.long (own_draw q1 1)), .second, .unset, .unset, .unset, .unset, .unset, .unset, .unset] [(.long (own_draw q1 1)), (.int (own_face (own_draw q1 1) z))])
      refine own_go (fun tz kz => XS.iload X7.here hx rfl (hb hby at_190) rfl kz) ?_
      show own_Go p.tables e below _ T7 (mkF m 192 #[.val (.long q1), .second, .val (.int p2), .val (.int p3), .val (.int z), .val (.long q1), .second, .val (.ref b1), .val (.ref b2), .val (.int (own_face (own_draw q1 1) z)), .val (.long (own_draw q1 1)), .second, .unset, .unset, .unset, .unset, .unset, .unset, .unset] [(.int z), (.long (own_draw q1 1)), (.int (own_face (own_draw q1 1) z))])
      refine own_go (fun tz kz => XT.i2l X7.here hx rfl (hb hby at_192) rfl kz) ?_
      show own_Go p.tables e below _ T7 (mkF m 193 #[.val (.long q1), .second, .val (.int p2), .val (.int p3), .val (.int z), .val (.long q1), .second, .val (.ref b1), .val (.ref b2), .val (.int (own_face (own_draw q1 1) z)), .val (.long (own_draw q1 1)), .second, .unset, .unset, .unset, .unset, .unset, .unset, .unset] [(.long z.toInt64), (.long (own_draw q1 1)), (.int (own_face (own_draw q1 1) z))])
      refine own_go (fun tz kz => XT.lrem X7.here hx rfl (hb hby at_193) rfl hz0 kz) ?_
      show own_Go p.tables e below _ T7 (mkF m 194 #[.val (.long q1), .second, .val (.int p2), .val (.int p3), .val (.int z), .val (.long q1), .second, .val (.ref b1), .val (.ref b2), .val (.int (own_face (own_draw q1 1) z)), .val (.long (own_draw q1 1)), .second, .unset, .unset, .unset, .unset, .unset, .unset, .unset] [(.long ((own_draw q1 1) - ((own_draw q1 1) / z.toInt64) * z.toInt64)), (.int (own_face (own_draw q1 1) z))])
      refine own_go (fun tz kz => XT.l2i X7.here hx rfl (hb hby at_194) rfl kz) ?_
      show own_Go p.tables e below _ T7 (mkF m 195 #[.val (.long q1), .second, .val (.int p2), .val (.int p3), .val (.int z), .val (.long q1), .second, .val (.ref b1), .val (.ref b2), .val (.int (own_face (own_draw q1 1) z)), .val (.long (own_draw q1 1)), .second, .unset, .unset, .unset, .unset, .unset, .unset, .unset] [(.int ((own_draw q1 1) - ((own_draw q1 1) / z.toInt64) * z.toInt64).toInt32), (.int (own_face (own_draw q1 1) z))])
      refine own_go (fun tz kz => XS.iconst X7.here hx rfl (hb hby at_195) kz) ?_
      show own_Go p.tables e below _ T7 (mkF m 196 #[.val (.long q1), .second, .val (.int p2), .val (.int p3), .val (.int z), .val (.long q1), .second, .val (.ref b1), .val (.ref b2), .val (.int (own_face (own_draw q1 1) z)), .val (.long (own_draw q1 1)), .second, .unset, .unset, .unset, .unset, .unset, .unset, .unset] [(.int (1 : Int32)), (.int ((own_draw q1 1) - ((own_draw q1 1) / z.toInt64) * z.toInt64).toInt32), (.int (own_face (own_draw q1 1) z))])
      refine own_go (fun tz kz => XS.iadd X7.here hx rfl (hb hby at_196) rfl kz) ?_
      show own_Go p.tables e below _ T7 (mkF m 197 #[.val (.long q1), .second, .val (.int p2), .val (.int p3), .val (.int z), .val (.long q1), .second, .val (.ref b1), .val (.ref b2), .val (.int (own_face (own_draw q1 1) z)), .val (.long (own_draw q1 1)), .second, .unset, .unset, .unset, .unset, .unset, .unset, .unset] [(.int (((own_draw q1 1) - ((own_draw q1 1) / z.toInt64) * z.toInt64).toInt32 + (1 : Int32))), (.int (own_face (own_draw q1 1) z))])
      show own_Go p.tables e below _ T7 (mkF m 197 #[.val (.long q1), .second, .val (.int p2), .val (.int p3), .val (.int z), .val (.long q1), .second, .val (.ref b1), .val (.ref b2), .val (.int (own_face (own_draw q1 1) z)), .val (.long (own_draw q1 1)), .second, .unset, .unset, .unset, .unset, .unset, .unset, .unset] [(.int (own_face (own_draw q1 1) z)), (.int (own_face (own_draw q1 1) z))])
      refine own_go (fun tz kz => XS.icmpNo X7.here hx rfl (hb hby at_197) rfl (XT.ii_ne_f rfl) kz) ?_
      show own_Go p.tables e below _ T7 (mkF m 200 #[.val (.long q1), .second, .val (.int p2), .val (.int p3), .val (.int z), .val (.long q1), .second, .val (.ref b1), .val (.ref b2), .val (.int (own_face (own_draw q1 1) z)), .val (.long (own_draw q1 1)), .second, .unset, .unset, .unset, .unset, .unset, .unset, .unset] [])
      refine own_go (fun tz kz => XS.aload X7.here hx rfl (hb hby at_200) rfl rfl kz) ?_
      show own_Go p.tables e below _ T7 (mkF m 202 #[.val (.long q1), .second, .val (.int p2), .val (.int p3), .val (.int z), .val (.long q1), .second, .val (.ref b1), .val (.ref b2), .val (.int (own_face (own_draw q1 1) z)), .val (.long (own_draw q1 1)), .second, .unset, .unset, .unset, .unset, .unset, .unset, .unset] [(.ref b1)])
      obtain ⟨cq12, kq12, q12a, q12b, q12c⟩ := isOf hZ e7 Ea4
      obtain ⟨_, _, ⟨T12, L12, k12, n12⟩, -, X12, ⟨Lc12, hQ12, l12, y12, z12⟩, st12⟩ := X7.virtualBack hx (y := (⟨"com/example/gunline/gunline/core/SeededDice", "next", "()J"⟩ : MethodName)) (z := (⟨"com/example/gunline/gunline/core/SeededDice", "next", "()J"⟩ : MethodName)) hown (mvT hZ (hw _ (List.mem_of_getElem? (i := 41) rfl))) (mvT hZ (hw _ (List.mem_of_getElem? (i := 34) rfl))) (notFace_of_selects (args := #[]) (mvT hZ (hw _ (List.mem_of_getElem? (i := 36) rfl)))) (mvT hZ (hw _ (List.mem_of_getElem? (i := 36) rfl))) (mvT hZ (hw _ (List.mem_of_getElem? (i := 35) rfl))) (by decide) (backOf (W := 0) (rm6 l Z a0 hw [] b1 (own_st q1 1) T6.heap n0 (Nat.le_trans (Nat.le_trans (Nat.le_trans (Nat.le_trans (Nat.le_trans (Nat.le_trans Z0 E1.1) K2.1) E3.1) K4.1) K5.1) K6.1) Fa4 Ea4 g_b1) hZ (hw _ (List.mem_of_getElem? (i := 37) rfl)) (hw _ (List.mem_of_getElem? (i := 18) rfl)) (by decide) (by decide)) q12a q12c (g := (mkF m 202 #[.val (.long q1), .second, .val (.int p2), .val (.int p3), .val (.int z), .val (.long q1), .second, .val (.ref b1), .val (.ref b2), .val (.int (own_face (own_draw q1 1) z)), .val (.long (own_draw q1 1)), .second, .unset, .unset, .unset, .unset, .unset, .unset, .unset] [(.ref b1)])) rfl (by rw [hml]; rfl) (Steps.refl _) (argsL := []) (rest := []) (lenOf pd_1 rfl) rfl (by show 2 * 0 + _ ≤ _; exact Nat.le_of_eq rfl) (hb hby at_202) (fun _ _ => ⟨rfl, e7, (by decide : 2 + 0 ≤ _), (by decide : 2 + 0 ≤ _)⟩)
      dsimp only [Pt.U, Pt.locs, Pt.cells, Pt.slots] at X12 l12 y12 z12 st12 hQ12
      subst l12 y12 z12
      obtain ⟨rfl, N12q, K12, Ea9, Fa9⟩ := hQ12
      have N12 := Fr.app N7 N12q
      refine own_go (fun tz kz => st12.trans kz) ?_
      show own_Go p.tables e below _ T12 (mkF m 205 #[.val (.long q1), .second, .val (.int p2), .val (.int p3), .val (.int z), .val (.long q1), .second, .val (.ref b1), .val (.ref b2), .val (.int (own_face (own_draw q1 1) z)), .val (.long (own_draw q1 1)), .second, .unset, .unset, .unset, .unset, .unset, .unset, .unset] [(.long (own_mix (own_st q1 1 + (-7046029254386353131 : Int64))))])
      have Eb9 := Eb3.keep K12
      have Fb9 := Fb3.keep K12 (own_not1 (Ne.symm hne))
      refine own_go (fun tz kz => XS.aload X12.here hx rfl (hb hby at_205) rfl rfl kz) ?_
      show own_Go p.tables e below _ T12 (mkF m 207 #[.val (.long q1), .second, .val (.int p2), .val (.int p3), .val (.int z), .val (.long q1), .second, .val (.ref b1), .val (.ref b2), .val (.int (own_face (own_draw q1 1) z)), .val (.long (own_draw q1 1)), .second, .unset, .unset, .unset, .unset, .unset, .unset, .unset] [(.ref b2), (.long (own_mix (own_st q1 1 + (-7046029254386353131 : Int64))))])
      obtain ⟨cq13, kq13, q13a, q13b, q13c⟩ := isOf hZ rfl Eb9
      obtain ⟨_, _, ⟨T13, L13, k13, n13⟩, -, X13, ⟨Lc13, hQ13, l13, y13, z13⟩, st13⟩ := X12.virtualBack hx (y := (⟨"com/example/gunline/gunline/core/SeededDice", "next", "()J"⟩ : MethodName)) (z := (⟨"com/example/gunline/gunline/core/SeededDice", "next", "()J"⟩ : MethodName)) hown (mvT hZ (hw _ (List.mem_of_getElem? (i := 41) rfl))) (mvT hZ (hw _ (List.mem_of_getElem? (i := 34) rfl))) (notFace_of_selects (args := #[]) (mvT hZ (hw _ (List.mem_of_getElem? (i := 36) rfl)))) (mvT hZ (hw _ (List.mem_of_getElem? (i := 36) rfl))) (mvT hZ (hw _ (List.mem_of_getElem? (i := 35) rfl))) (by decide) (backOf (W := 2) (rm6 l Z a0 hw [] b2 (own_st q1 1) T12.heap n0 (Nat.le_trans (Nat.le_trans (Nat.le_trans (Nat.le_trans (Nat.le_trans (Nat.le_trans (Nat.le_trans Z0 E1.1) K2.1) E3.1) K4.1) K5.1) K6.1) K12.1) Fb9 Eb9 g_b2) hZ (hw _ (List.mem_of_getElem? (i := 37) rfl)) (hw _ (List.mem_of_getElem? (i := 18) rfl)) (by decide) (by decide)) q13a q13c (g := (mkF m 207 #[.val (.long q1), .second, .val (.int p2), .val (.int p3), .val (.int z), .val (.long q1), .second, .val (.ref b1), .val (.ref b2), .val (.int (own_face (own_draw q1 1) z)), .val (.long (own_draw q1 1)), .second, .unset, .unset, .unset, .unset, .unset, .unset, .unset] [(.ref b2), (.long (own_mix (own_st q1 1 + (-7046029254386353131 : Int64))))])) rfl (by rw [hml]; rfl) (Steps.refl _) (argsL := []) (rest := [(.long (own_mix (own_st q1 1 + (-7046029254386353131 : Int64))))]) (lenOf pd_1 rfl) rfl (by show 2 * 0 + _ ≤ _; exact Nat.le_of_eq rfl) (hb hby at_207) (fun _ _ => ⟨rfl, rfl, (by decide : 2 + 0 ≤ _), (by decide : 2 + 0 ≤ _)⟩)
      dsimp only [Pt.U, Pt.locs, Pt.cells, Pt.slots] at X13 l13 y13 z13 st13 hQ13
      subst l13 y13 z13
      obtain ⟨rfl, N13q, K13, Eb8, Fb8⟩ := hQ13
      have N13 := Fr.app N12 N13q
      refine own_go (fun tz kz => st13.trans kz) ?_
      show own_Go p.tables e below _ T13 (mkF m 210 #[.val (.long q1), .second, .val (.int p2), .val (.int p3), .val (.int z), .val (.long q1), .second, .val (.ref b1), .val (.ref b2), .val (.int (own_face (own_draw q1 1) z)), .val (.long (own_draw q1 1)), .second, .unset, .unset, .unset, .unset, .unset, .unset, .unset] [(.long (own_mix (own_st q1 1 + (-7046029254386353131 : Int64)))), (.long (own_mix (own_st q1 1 + (-7046029254386353131 : Int64))))])
      refine own_go (fun tz kz => XT.lcmp X13.here hx rfl (hb hby at_210) rfl kz) ?_
      show own_Go p.tables e below _ T13 (mkF m 211 #[.val (.long q1), .second, .val (.int p2), .val (.int p3), .val (.int z), .val (.long q1), .second, .val (.ref b1), .val (.ref b2), .val (.int (own_face (own_draw q1 1) z)), .val (.long (own_draw q1 1)), .second, .unset, .unset, .unset, .unset, .unset, .unset, .unset] [(.int (XT.cmpL (own_mix (own_st q1 1 + (-7046029254386353131 : Int64))) (own_mix (own_st q1 1 + (-7046029254386353131 : Int64)))))])
      refine own_go (fun tz kz => XS.ifNo X13.here hx rfl (hb hby at_211) rfl (XT.ll_ne_f rfl) kz) ?_
      show own_Go p.tables e below _ T13 (mkF m 214 #[.val (.long q1), .second, .val (.int p2), .val (.int p3), .val (.int z), .val (.long q1), .second, .val (.ref b1), .val (.ref b2), .val (.int (own_face (own_draw q1 1) z)), .val (.long (own_draw q1 1)), .second, .unset, .unset, .unset, .unset, .unset, .unset, .unset] [])
      refine own_go (fun tz kz => XS.iconst X13.here hx rfl (hb hby at_214) kz) ?_
      show own_Go p.tables e below _ T13 (mkF m 215 #[.val (.long q1), .second, .val (.int p2), .val (.int p3), .val (.int z), .val (.long q1), .second, .val (.ref b1), .val (.ref b2), .val (.int (own_face (own_draw q1 1) z)), .val (.long (own_draw q1 1)), .second, .unset, .unset, .unset, .unset, .unset, .unset, .unset] [(.int (1 : Int32))])
      refine own_go (fun tz kz => XS.goto X13.here hx rfl (pc0 := 215) (pc' := 219) rfl (hb hby at_215) (by decide) (by decide) kz) ?_
      show own_Go p.tables e below _ T13 (mkF m 219 #[.val (.long q1), .second, .val (.int p2), .val (.int p3), .val (.int z), .val (.long q1), .second, .val (.ref b1), .val (.ref b2), .val (.int (own_face (own_draw q1 1) z)), .val (.long (own_draw q1 1)), .second, .unset, .unset, .unset, .unset, .unset, .unset, .unset] [(.int (1 : Int32))])
      obtain ⟨fs, hr, hrun, hended, hW, hsame⟩ := X13.leave (v := some (.int (1 : Int32))) (fun h => by rw [Bd.returns] at h; cases h) (BodyLoose.notSynchronized Bd)
      refine ⟨_, _, ?_, hrun, hended, _, _, rfl, ?_, ⟨_, rfl⟩, hW, hsame.mono (by decide) (by decide)⟩
      · exact retN X13 hx (t := .boolean) Bd.returns (by simp) (hb hby at_219) hr
      · show Q0 Z q1 p2 p3 h0 n0 _ T13.heap _
        exact ⟨rfl, N13⟩
  ·
    refine own_go (fun tz kz => XS.ifNo X0.here hx rfl (hb hby at_17) rfl (XT.i0_eq_f hp) kz) ?_
    show own_Go p.tables e below _ s₁ (mkF m 20 #[.val (.long q1), .second, .val (.int p2), .val (.int p3), .val (.int z), .val (.long q1), .second, .unset, .unset, .unset, .unset, .unset, .unset, .unset, .unset, .unset, .unset, .unset, .unset] [])
    refine own_go (fun tz kz => X0.ldc2J hx hown (mvT hZ (hw _ (List.mem_of_getElem? (i := 2) rfl))) rfl (hb hby at_20) kz) ?_
    show own_Go p.tables e below _ s₁ (mkF m 23 #[.val (.long q1), .second, .val (.int p2), .val (.int p3), .val (.int z), .val (.long q1), .second, .unset, .unset, .unset, .unset, .unset, .unset, .unset, .unset, .unset, .unset, .unset, .unset] [(.long (9223372036854775807 : Int64))])
    refine own_go (fun tz kz => XS.iload X0.here hx rfl (hb hby at_23) rfl kz) ?_
    show own_Go p.tables e below _ s₁ (mkF m 25 #[.val (.long q1), .second, .val (.int p2), .val (.int p3), .val (.int z), .val (.long q1), .second, .unset, .unset, .unset, .unset, .unset, .unset, .unset, .unset, .unset, .unset, .unset, .unset] [(.int z), (.long (9223372036854775807 : Int64))])
    refine own_go (fun tz kz => XT.i2l X0.here hx rfl (hb hby at_25) rfl kz) ?_
    show own_Go p.tables e below _ s₁ (mkF m 26 #[.val (.long q1), .second, .val (.int p2), .val (.int p3), .val (.int z), .val (.long q1), .second, .unset, .unset, .unset, .unset, .unset, .unset, .unset, .unset, .unset, .unset, .unset, .unset] [(.long z.toInt64), (.long (9223372036854775807 : Int64))])
    refine own_go (fun tz kz => XT.ldiv X0.here hx rfl (hb hby at_26) rfl hz0 kz) ?_
    show own_Go p.tables e below _ s₁ (mkF m 27 #[.val (.long q1), .second, .val (.int p2), .val (.int p3), .val (.int z), .val (.long q1), .second, .unset, .unset, .unset, .unset, .unset, .unset, .unset, .unset, .unset, .unset, .unset, .unset] [(.long ((9223372036854775807 : Int64) / z.toInt64))])
    refine own_go (fun tz kz => XT.lstore X0.here hx rfl (hb hby at_27) rfl (l' := #[.val (.long q1), .second, .val (.int p2), .val (.int p3), .val (.int z), .val (.long q1), .second, .val (.long ((9223372036854775807 : Int64) / z.toInt64)), .second, .unset, .unset, .unset, .unset, .unset, .unset, .unset, .unset, .unset, .unset]) rfl kz) ?_
    show own_Go p.tables e below _ s₁ (mkF m 29 #[.val (.long q1), .second, .val (.int p2), .val (.int p3), .val (.int z), .val (.long q1), .second, .val (.long ((9223372036854775807 : Int64) / z.toInt64)), .second, .unset, .unset, .unset, .unset, .unset, .unset, .unset, .unset, .unset, .unset] [])
    refine own_go (fun tz kz => X0.ldc2J hx hown (mvT hZ (hw _ (List.mem_of_getElem? (i := 2) rfl))) rfl (hb hby at_29) kz) ?_
    show own_Go p.tables e below _ s₁ (mkF m 32 #[.val (.long q1), .second, .val (.int p2), .val (.int p3), .val (.int z), .val (.long q1), .second, .val (.long ((9223372036854775807 : Int64) / z.toInt64)), .second, .unset, .unset, .unset, .unset, .unset, .unset, .unset, .unset, .unset, .unset] [(.long (9223372036854775807 : Int64))])
    refine own_go (fun tz kz => XS.iload X0.here hx rfl (hb hby at_32) rfl kz) ?_
    show own_Go p.tables e below _ s₁ (mkF m 34 #[.val (.long q1), .second, .val (.int p2), .val (.int p3), .val (.int z), .val (.long q1), .second, .val (.long ((9223372036854775807 : Int64) / z.toInt64)), .second, .unset, .unset, .unset, .unset, .unset, .unset, .unset, .unset, .unset, .unset] [(.int z), (.long (9223372036854775807 : Int64))])
    refine own_go (fun tz kz => XT.i2l X0.here hx rfl (hb hby at_34) rfl kz) ?_
    show own_Go p.tables e below _ s₁ (mkF m 35 #[.val (.long q1), .second, .val (.int p2), .val (.int p3), .val (.int z), .val (.long q1), .second, .val (.long ((9223372036854775807 : Int64) / z.toInt64)), .second, .unset, .unset, .unset, .unset, .unset, .unset, .unset, .unset, .unset, .unset] [(.long z.toInt64), (.long (9223372036854775807 : Int64))])
    refine own_go (fun tz kz => XT.lrem X0.here hx rfl (hb hby at_35) rfl hz0 kz) ?_
    show own_Go p.tables e below _ s₁ (mkF m 36 #[.val (.long q1), .second, .val (.int p2), .val (.int p3), .val (.int z), .val (.long q1), .second, .val (.long ((9223372036854775807 : Int64) / z.toInt64)), .second, .unset, .unset, .unset, .unset, .unset, .unset, .unset, .unset, .unset, .unset] [(.long ((9223372036854775807 : Int64) - ((9223372036854775807 : Int64) / z.toInt64) * z.toInt64))])
    refine own_go (fun tz kz => XT.lstore X0.here hx rfl (hb hby at_36) rfl (l' := #[.val (.long q1), .second, .val (.int p2), .val (.int p3), .val (.int z), .val (.long q1), .second, .val (.long ((9223372036854775807 : Int64) / z.toInt64)), .second, .val (.long ((9223372036854775807 : Int64) - ((9223372036854775807 : Int64) / z.toInt64) * z.toInt64)), .second, .unset, .unset, .unset, .unset, .unset, .unset, .unset, .unset]) rfl kz) ?_
    show own_Go p.tables e below _ s₁ (mkF m 38 #[.val (.long q1), .second, .val (.int p2), .val (.int p3), .val (.int z), .val (.long q1), .second, .val (.long ((9223372036854775807 : Int64) / z.toInt64)), .second, .val (.long ((9223372036854775807 : Int64) - ((9223372036854775807 : Int64) / z.toInt64) * z.toInt64)), .second, .unset, .unset, .unset, .unset, .unset, .unset, .unset, .unset] [])
    refine own_go (fun tz kz => XT.lload X0.here hx rfl (hb hby at_38) rfl kz) ?_
    show own_Go p.tables e below _ s₁ (mkF m 40 #[.val (.long q1), .second, .val (.int p2), .val (.int p3), .val (.int z), .val (.long q1), .second, .val (.long ((9223372036854775807 : Int64) / z.toInt64)), .second, .val (.long ((9223372036854775807 : Int64) - ((9223372036854775807 : Int64) / z.toInt64) * z.toInt64)), .second, .unset, .unset, .unset, .unset, .unset, .unset, .unset, .unset] [(.long ((9223372036854775807 : Int64) - ((9223372036854775807 : Int64) / z.toInt64) * z.toInt64))])
    refine own_go (fun tz kz => XS.iload X0.here hx rfl (hb hby at_40) rfl kz) ?_
    show own_Go p.tables e below _ s₁ (mkF m 42 #[.val (.long q1), .second, .val (.int p2), .val (.int p3), .val (.int z), .val (.long q1), .second, .val (.long ((9223372036854775807 : Int64) / z.toInt64)), .second, .val (.long ((9223372036854775807 : Int64) - ((9223372036854775807 : Int64) / z.toInt64) * z.toInt64)), .second, .unset, .unset, .unset, .unset, .unset, .unset, .unset, .unset] [(.int z), (.long ((9223372036854775807 : Int64) - ((9223372036854775807 : Int64) / z.toInt64) * z.toInt64))])
    refine own_go (fun tz kz => XS.iconst X0.here hx rfl (hb hby at_42) kz) ?_
    show own_Go p.tables e below _ s₁ (mkF m 43 #[.val (.long q1), .second, .val (.int p2), .val (.int p3), .val (.int z), .val (.long q1), .second, .val (.long ((9223372036854775807 : Int64) / z.toInt64)), .second, .val (.long ((9223372036854775807 : Int64) - ((9223372036854775807 : Int64) / z.toInt64) * z.toInt64)), .second, .unset, .unset, .unset, .unset, .unset, .unset, .unset, .unset] [(.int (1 : Int32)), (.int z), (.long ((9223372036854775807 : Int64) - ((9223372036854775807 : Int64) / z.toInt64) * z.toInt64))])
    refine own_go (fun tz kz => XS.isub X0.here hx rfl (hb hby at_43) rfl kz) ?_
    show own_Go p.tables e below _ s₁ (mkF m 44 #[.val (.long q1), .second, .val (.int p2), .val (.int p3), .val (.int z), .val (.long q1), .second, .val (.long ((9223372036854775807 : Int64) / z.toInt64)), .second, .val (.long ((9223372036854775807 : Int64) - ((9223372036854775807 : Int64) / z.toInt64) * z.toInt64)), .second, .unset, .unset, .unset, .unset, .unset, .unset, .unset, .unset] [(.int (z - (1 : Int32))), (.long ((9223372036854775807 : Int64) - ((9223372036854775807 : Int64) / z.toInt64) * z.toInt64))])
    refine own_go (fun tz kz => XT.i2l X0.here hx rfl (hb hby at_44) rfl kz) ?_
    show own_Go p.tables e below _ s₁ (mkF m 45 #[.val (.long q1), .second, .val (.int p2), .val (.int p3), .val (.int z), .val (.long q1), .second, .val (.long ((9223372036854775807 : Int64) / z.toInt64)), .second, .val (.long ((9223372036854775807 : Int64) - ((9223372036854775807 : Int64) / z.toInt64) * z.toInt64)), .second, .unset, .unset, .unset, .unset, .unset, .unset, .unset, .unset] [(.long (z - (1 : Int32)).toInt64), (.long ((9223372036854775807 : Int64) - ((9223372036854775807 : Int64) / z.toInt64) * z.toInt64))])
    refine own_go (fun tz kz => XT.lcmp X0.here hx rfl (hb hby at_45) rfl kz) ?_
    show own_Go p.tables e below _ s₁ (mkF m 46 #[.val (.long q1), .second, .val (.int p2), .val (.int p3), .val (.int z), .val (.long q1), .second, .val (.long ((9223372036854775807 : Int64) / z.toInt64)), .second, .val (.long ((9223372036854775807 : Int64) - ((9223372036854775807 : Int64) / z.toInt64) * z.toInt64)), .second, .unset, .unset, .unset, .unset, .unset, .unset, .unset, .unset] [(.int (XT.cmpL ((9223372036854775807 : Int64) - ((9223372036854775807 : Int64) / z.toInt64) * z.toInt64) (z - (1 : Int32)).toInt64))])
    have J61 : ∀ (ba : Int64), own_Go p.tables e below (own_P s (Q0 Z q1 p2 p3 h0 n0) room_1.cells room_1.slots) s₁ (mkF m 61 #[.val (.long q1), .second, .val (.int p2), .val (.int p3), .val (.int z), .val (.long q1), .second, .val (.long ((9223372036854775807 : Int64) / z.toInt64)), .second, .val (.long ((9223372036854775807 : Int64) - ((9223372036854775807 : Int64) / z.toInt64) * z.toInt64)), .second, .unset, .unset, .unset, .unset, .unset, .unset, .unset, .unset] [(.long ba)]) := by
      intro ba
      show own_Go p.tables e below _ s₁ (mkF m 61 #[.val (.long q1), .second, .val (.int p2), .val (.int p3), .val (.int z), .val (.long q1), .second, .val (.long ((9223372036854775807 : Int64) / z.toInt64)), .second, .val (.long ((9223372036854775807 : Int64) - ((9223372036854775807 : Int64) / z.toInt64) * z.toInt64)), .second, .unset, .unset, .unset, .unset, .unset, .unset, .unset, .unset] [(.long ba)])
      refine own_go (fun tz kz => XT.lstore X0.here hx rfl (hb hby at_61) rfl (l' := #[.val (.long q1), .second, .val (.int p2), .val (.int p3), .val (.int z), .val (.long q1), .second, .val (.long ((9223372036854775807 : Int64) / z.toInt64)), .second, .val (.long ((9223372036854775807 : Int64) - ((9223372036854775807 : Int64) / z.toInt64) * z.toInt64)), .second, .val (.long ba), .second, .unset, .unset, .unset, .unset, .unset, .unset]) rfl kz) ?_
      show own_Go p.tables e below _ s₁ (mkF m 63 #[.val (.long q1), .second, .val (.int p2), .val (.int p3), .val (.int z), .val (.long q1), .second, .val (.long ((9223372036854775807 : Int64) / z.toInt64)), .second, .val (.long ((9223372036854775807 : Int64) - ((9223372036854775807 : Int64) / z.toInt64) * z.toInt64)), .second, .val (.long ba), .second, .unset, .unset, .unset, .unset, .unset, .unset] [])
      refine own_go (fun tz kz => XT.lloadN X0.here hx rfl (hb hby at_63) rfl kz) ?_
      show own_Go p.tables e below _ s₁ (mkF m 64 #[.val (.long q1), .second, .val (.int p2), .val (.int p3), .val (.int z), .val (.long q1), .second, .val (.long ((9223372036854775807 : Int64) / z.toInt64)), .second, .val (.long ((9223372036854775807 : Int64) - ((9223372036854775807 : Int64) / z.toInt64) * z.toInt64)), .second, .val (.long ba), .second, .unset, .unset, .unset, .unset, .unset, .unset] [(.long q1)])
      refine own_go (fun tz kz => X0.ldc2J hx hown (mvT hZ (hw _ (List.mem_of_getElem? (i := 3) rfl))) rfl (hb hby at_64) kz) ?_
      show own_Go p.tables e below _ s₁ (mkF m 67 #[.val (.long q1), .second, .val (.int p2), .val (.int p3), .val (.int z), .val (.long q1), .second, .val (.long ((9223372036854775807 : Int64) / z.toInt64)), .second, .val (.long ((9223372036854775807 : Int64) - ((9223372036854775807 : Int64) / z.toInt64) * z.toInt64)), .second, .val (.long ba), .second, .unset, .unset, .unset, .unset, .unset, .unset] [(.long (15 : Int64)), (.long q1)])
      refine own_go (fun tz kz => XT.land X0.here hx rfl (hb hby at_67) rfl kz) ?_
      show own_Go p.tables e below _ s₁ (mkF m 68 #[.val (.long q1), .second, .val (.int p2), .val (.int p3), .val (.int z), .val (.long q1), .second, .val (.long ((9223372036854775807 : Int64) / z.toInt64)), .second, .val (.long ((9223372036854775807 : Int64) - ((9223372036854775807 : Int64) / z.toInt64) * z.toInt64)), .second, .val (.long ba), .second, .unset, .unset, .unset, .unset, .unset, .unset] [(.long (q1 &&& (15 : Int64)))])
      refine own_go (fun tz kz => X0.ldc2J hx hown (mvT hZ (hw _ (List.mem_of_getElem? (i := 4) rfl))) rfl (hb hby at_68) kz) ?_
      show own_Go p.tables e below _ s₁ (mkF m 71 #[.val (.long q1), .second, .val (.int p2), .val (.int p3), .val (.int z), .val (.long q1), .second, .val (.long ((9223372036854775807 : Int64) / z.toInt64)), .second, .val (.long ((9223372036854775807 : Int64) - ((9223372036854775807 : Int64) / z.toInt64) * z.toInt64)), .second, .val (.long ba), .second, .unset, .unset, .unset, .unset, .unset, .unset] [(.long (8 : Int64)), (.long (q1 &&& (15 : Int64)))])
      refine own_go (fun tz kz => XT.lsub X0.here hx rfl (hb hby at_71) rfl kz) ?_
      show own_Go p.tables e below _ s₁ (mkF m 72 #[.val (.long q1), .second, .val (.int p2), .val (.int p3), .val (.int z), .val (.long q1), .second, .val (.long ((9223372036854775807 : Int64) / z.toInt64)), .second, .val (.long ((9223372036854775807 : Int64) - ((9223372036854775807 : Int64) / z.toInt64) * z.toInt64)), .second, .val (.long ba), .second, .unset, .unset, .unset, .unset, .unset, .unset] [(.long ((q1 &&& (15 : Int64)) - (8 : Int64)))])
      refine own_go (fun tz kz => XT.lstore X0.here hx rfl (hb hby at_72) rfl (l' := #[.val (.long q1), .second, .val (.int p2), .val (.int p3), .val (.int z), .val (.long q1), .second, .val (.long ((9223372036854775807 : Int64) / z.toInt64)), .second, .val (.long ((9223372036854775807 : Int64) - ((9223372036854775807 : Int64) / z.toInt64) * z.toInt64)), .second, .val (.long ba), .second, .val (.long ((q1 &&& (15 : Int64)) - (8 : Int64))), .second, .unset, .unset, .unset, .unset]) rfl kz) ?_
      show own_Go p.tables e below _ s₁ (mkF m 74 #[.val (.long q1), .second, .val (.int p2), .val (.int p3), .val (.int z), .val (.long q1), .second, .val (.long ((9223372036854775807 : Int64) / z.toInt64)), .second, .val (.long ((9223372036854775807 : Int64) - ((9223372036854775807 : Int64) / z.toInt64) * z.toInt64)), .second, .val (.long ba), .second, .val (.long ((q1 &&& (15 : Int64)) - (8 : Int64))), .second, .unset, .unset, .unset, .unset] [])
      refine own_go (fun tz kz => XT.lload X0.here hx rfl (hb hby at_74) rfl kz) ?_
      show own_Go p.tables e below _ s₁ (mkF m 76 #[.val (.long q1), .second, .val (.int p2), .val (.int p3), .val (.int z), .val (.long q1), .second, .val (.long ((9223372036854775807 : Int64) / z.toInt64)), .second, .val (.long ((9223372036854775807 : Int64) - ((9223372036854775807 : Int64) / z.toInt64) * z.toInt64)), .second, .val (.long ba), .second, .val (.long ((q1 &&& (15 : Int64)) - (8 : Int64))), .second, .unset, .unset, .unset, .unset] [(.long ((q1 &&& (15 : Int64)) - (8 : Int64)))])
      refine own_go (fun tz kz => XT.lconst X0.here hx rfl (hb hby at_76) kz) ?_
      show own_Go p.tables e below _ s₁ (mkF m 77 #[.val (.long q1), .second, .val (.int p2), .val (.int p3), .val (.int z), .val (.long q1), .second, .val (.long ((9223372036854775807 : Int64) / z.toInt64)), .second, .val (.long ((9223372036854775807 : Int64) - ((9223372036854775807 : Int64) / z.toInt64) * z.toInt64)), .second, .val (.long ba), .second, .val (.long ((q1 &&& (15 : Int64)) - (8 : Int64))), .second, .unset, .unset, .unset, .unset] [(.long (0 : Int64)), (.long ((q1 &&& (15 : Int64)) - (8 : Int64)))])
      refine own_go (fun tz kz => XT.lcmp X0.here hx rfl (hb hby at_77) rfl kz) ?_
      show own_Go p.tables e below _ s₁ (mkF m 78 #[.val (.long q1), .second, .val (.int p2), .val (.int p3), .val (.int z), .val (.long q1), .second, .val (.long ((9223372036854775807 : Int64) / z.toInt64)), .second, .val (.long ((9223372036854775807 : Int64) - ((9223372036854775807 : Int64) / z.toInt64) * z.toInt64)), .second, .val (.long ba), .second, .val (.long ((q1 &&& (15 : Int64)) - (8 : Int64))), .second, .unset, .unset, .unset, .unset] [(.int (XT.cmpL ((q1 &&& (15 : Int64)) - (8 : Int64)) (0 : Int64)))])
      have J116 : ∀ (tg : Int64), own_Go p.tables e below (own_P s (Q0 Z q1 p2 p3 h0 n0) room_1.cells room_1.slots) s₁ (mkF m 116 #[.val (.long q1), .second, .val (.int p2), .val (.int p3), .val (.int z), .val (.long q1), .second, .val (.long ((9223372036854775807 : Int64) / z.toInt64)), .second, .val (.long ((9223372036854775807 : Int64) - ((9223372036854775807 : Int64) / z.toInt64) * z.toInt64)), .second, .val (.long ba), .second, .val (.long ((q1 &&& (15 : Int64)) - (8 : Int64))), .second, .val (.long tg), .second, .unset, .unset] []) := by
        intro tg
        show own_Go p.tables e below _ s₁ (mkF m 116 #[.val (.long q1), .second, .val (.int p2), .val (.int p3), .val (.int z), .val (.long q1), .second, .val (.long ((9223372036854775807 : Int64) / z.toInt64)), .second, .val (.long ((9223372036854775807 : Int64) - ((9223372036854775807 : Int64) / z.toInt64) * z.toInt64)), .second, .val (.long ba), .second, .val (.long ((q1 &&& (15 : Int64)) - (8 : Int64))), .second, .val (.long tg), .second, .unset, .unset] [])
        refine own_go (fun tz kz => XT.lload X0.here hx rfl (hb hby at_116) rfl kz) ?_
        show own_Go p.tables e below _ s₁ (mkF m 118 #[.val (.long q1), .second, .val (.int p2), .val (.int p3), .val (.int z), .val (.long q1), .second, .val (.long ((9223372036854775807 : Int64) / z.toInt64)), .second, .val (.long ((9223372036854775807 : Int64) - ((9223372036854775807 : Int64) / z.toInt64) * z.toInt64)), .second, .val (.long ba), .second, .val (.long ((q1 &&& (15 : Int64)) - (8 : Int64))), .second, .val (.long tg), .second, .unset, .unset] [(.long tg)])
        refine own_go (fun tz kz => XS.iconst X0.here hx rfl (hb hby at_118) kz) ?_
        show own_Go p.tables e below _ s₁ (mkF m 119 #[.val (.long q1), .second, .val (.int p2), .val (.int p3), .val (.int z), .val (.long q1), .second, .val (.long ((9223372036854775807 : Int64) / z.toInt64)), .second, .val (.long ((9223372036854775807 : Int64) - ((9223372036854775807 : Int64) / z.toInt64) * z.toInt64)), .second, .val (.long ba), .second, .val (.long ((q1 &&& (15 : Int64)) - (8 : Int64))), .second, .val (.long tg), .second, .unset, .unset] [(.int (1 : Int32)), (.long tg)])
        refine own_go (fun tz kz => XT.lshl X0.here hx rfl (hb hby at_119) rfl kz) ?_
        show own_Go p.tables e below _ s₁ (mkF m 120 #[.val (.long q1), .second, .val (.int p2), .val (.int p3), .val (.int z), .val (.long q1), .second, .val (.long ((9223372036854775807 : Int64) / z.toInt64)), .second, .val (.long ((9223372036854775807 : Int64) - ((9223372036854775807 : Int64) / z.toInt64) * z.toInt64)), .second, .val (.long ba), .second, .val (.long ((q1 &&& (15 : Int64)) - (8 : Int64))), .second, .val (.long tg), .second, .unset, .unset] [(.long (tg <<< ((1 : Int32).toInt64 &&& 63)))])
        refine own_go (fun tz kz => XS.iloadN X0.here hx rfl (hb hby at_120) rfl kz) ?_
        show own_Go p.tables e below _ s₁ (mkF m 121 #[.val (.long q1), .second, .val (.int p2), .val (.int p3), .val (.int z), .val (.long q1), .second, .val (.long ((9223372036854775807 : Int64) / z.toInt64)), .second, .val (.long ((9223372036854775807 : Int64) - ((9223372036854775807 : Int64) / z.toInt64) * z.toInt64)), .second, .val (.long ba), .second, .val (.long ((q1 &&& (15 : Int64)) - (8 : Int64))), .second, .val (.long tg), .second, .unset, .unset] [(.int p3), (.long (tg <<< ((1 : Int32).toInt64 &&& 63)))])
        refine own_go (fun tz kz => XS.iconst X0.here hx rfl (hb hby at_121) kz) ?_
        show own_Go p.tables e below _ s₁ (mkF m 122 #[.val (.long q1), .second, .val (.int p2), .val (.int p3), .val (.int z), .val (.long q1), .second, .val (.long ((9223372036854775807 : Int64) / z.toInt64)), .second, .val (.long ((9223372036854775807 : Int64) - ((9223372036854775807 : Int64) / z.toInt64) * z.toInt64)), .second, .val (.long ba), .second, .val (.long ((q1 &&& (15 : Int64)) - (8 : Int64))), .second, .val (.long tg), .second, .unset, .unset] [(.int (1 : Int32)), (.int p3), (.long (tg <<< ((1 : Int32).toInt64 &&& 63)))])
        refine own_go (fun tz kz => XT.iushr X0.here hx rfl (hb hby at_122) rfl kz) ?_
        show own_Go p.tables e below _ s₁ (mkF m 123 #[.val (.long q1), .second, .val (.int p2), .val (.int p3), .val (.int z), .val (.long q1), .second, .val (.long ((9223372036854775807 : Int64) / z.toInt64)), .second, .val (.long ((9223372036854775807 : Int64) - ((9223372036854775807 : Int64) / z.toInt64) * z.toInt64)), .second, .val (.long ba), .second, .val (.long ((q1 &&& (15 : Int64)) - (8 : Int64))), .second, .val (.long tg), .second, .unset, .unset] [(.int (XT.ushr p3 (1 : Int32))), (.long (tg <<< ((1 : Int32).toInt64 &&& 63)))])
        refine own_go (fun tz kz => XS.iconst X0.here hx rfl (hb hby at_123) kz) ?_
        show own_Go p.tables e below _ s₁ (mkF m 124 #[.val (.long q1), .second, .val (.int p2), .val (.int p3), .val (.int z), .val (.long q1), .second, .val (.long ((9223372036854775807 : Int64) / z.toInt64)), .second, .val (.long ((9223372036854775807 : Int64) - ((9223372036854775807 : Int64) / z.toInt64) * z.toInt64)), .second, .val (.long ba), .second, .val (.long ((q1 &&& (15 : Int64)) - (8 : Int64))), .second, .val (.long tg), .second, .unset, .unset] [(.int (1 : Int32)), (.int (XT.ushr p3 (1 : Int32))), (.long (tg <<< ((1 : Int32).toInt64 &&& 63)))])
        refine own_go (fun tz kz => XS.iand X0.here hx rfl (hb hby at_124) rfl kz) ?_
        show own_Go p.tables e below _ s₁ (mkF m 125 #[.val (.long q1), .second, .val (.int p2), .val (.int p3), .val (.int z), .val (.long q1), .second, .val (.long ((9223372036854775807 : Int64) / z.toInt64)), .second, .val (.long ((9223372036854775807 : Int64) - ((9223372036854775807 : Int64) / z.toInt64) * z.toInt64)), .second, .val (.long ba), .second, .val (.long ((q1 &&& (15 : Int64)) - (8 : Int64))), .second, .val (.long tg), .second, .unset, .unset] [(.int ((XT.ushr p3 (1 : Int32)) &&& (1 : Int32))), (.long (tg <<< ((1 : Int32).toInt64 &&& 63)))])
        refine own_go (fun tz kz => XT.i2l X0.here hx rfl (hb hby at_125) rfl kz) ?_
        show own_Go p.tables e below _ s₁ (mkF m 126 #[.val (.long q1), .second, .val (.int p2), .val (.int p3), .val (.int z), .val (.long q1), .second, .val (.long ((9223372036854775807 : Int64) / z.toInt64)), .second, .val (.long ((9223372036854775807 : Int64) - ((9223372036854775807 : Int64) / z.toInt64) * z.toInt64)), .second, .val (.long ba), .second, .val (.long ((q1 &&& (15 : Int64)) - (8 : Int64))), .second, .val (.long tg), .second, .unset, .unset] [(.long ((XT.ushr p3 (1 : Int32)) &&& (1 : Int32)).toInt64), (.long (tg <<< ((1 : Int32).toInt64 &&& 63)))])
        refine own_go (fun tz kz => XT.lor X0.here hx rfl (hb hby at_126) rfl kz) ?_
        show own_Go p.tables e below _ s₁ (mkF m 127 #[.val (.long q1), .second, .val (.int p2), .val (.int p3), .val (.int z), .val (.long q1), .second, .val (.long ((9223372036854775807 : Int64) / z.toInt64)), .second, .val (.long ((9223372036854775807 : Int64) - ((9223372036854775807 : Int64) / z.toInt64) * z.toInt64)), .second, .val (.long ba), .second, .val (.long ((q1 &&& (15 : Int64)) - (8 : Int64))), .second, .val (.long tg), .second, .unset, .unset] [(.long ((tg <<< ((1 : Int32).toInt64 &&& 63)) ||| ((XT.ushr p3 (1 : Int32)) &&& (1 : Int32)).toInt64))])
        refine own_go (fun tz kz => XT.lstore X0.here hx rfl (hb hby at_127) rfl (l' := #[.val (.long q1), .second, .val (.int p2), .val (.int p3), .val (.int z), .val (.long q1), .second, .val (.long ((9223372036854775807 : Int64) / z.toInt64)), .second, .val (.long ((9223372036854775807 : Int64) - ((9223372036854775807 : Int64) / z.toInt64) * z.toInt64)), .second, .val (.long ba), .second, .val (.long ((q1 &&& (15 : Int64)) - (8 : Int64))), .second, .val (.long tg), .second, .val (.long ((tg <<< ((1 : Int32).toInt64 &&& 63)) ||| ((XT.ushr p3 (1 : Int32)) &&& (1 : Int32)).toInt64)), .second]) rfl kz) ?_
        show own_Go p.tables e below _ s₁ (mkF m 129 #[.val (.long q1), .second, .val (.int p2), .val (.int p3), .val (.int z), .val (.long q1), .second, .val (.long ((9223372036854775807 : Int64) / z.toInt64)), .second, .val (.long ((9223372036854775807 : Int64) - ((9223372036854775807 : Int64) / z.toInt64) * z.toInt64)), .second, .val (.long ba), .second, .val (.long ((q1 &&& (15 : Int64)) - (8 : Int64))), .second, .val (.long tg), .second, .val (.long ((tg <<< ((1 : Int32).toInt64 &&& 63)) ||| ((XT.ushr p3 (1 : Int32)) &&& (1 : Int32)).toInt64)), .second] [])
        generalize gou : ((tg <<< ((1 : Int32).toInt64 &&& 63)) ||| ((XT.ushr p3 (1 : Int32)) &&& (1 : Int32)).toInt64) = ou
        show own_Go p.tables e below _ s₁ (mkF m 129 #[.val (.long q1), .second, .val (.int p2), .val (.int p3), .val (.int z), .val (.long q1), .second, .val (.long ((9223372036854775807 : Int64) / z.toInt64)), .second, .val (.long ((9223372036854775807 : Int64) - ((9223372036854775807 : Int64) / z.toInt64) * z.toInt64)), .second, .val (.long ba), .second, .val (.long ((q1 &&& (15 : Int64)) - (8 : Int64))), .second, .val (.long tg), .second, .val (.long ou), .second] [])
        refine own_go (fun tz kz => XT.lload X0.here hx rfl (hb hby at_129) rfl kz) ?_
        show own_Go p.tables e below _ s₁ (mkF m 131 #[.val (.long q1), .second, .val (.int p2), .val (.int p3), .val (.int z), .val (.long q1), .second, .val (.long ((9223372036854775807 : Int64) / z.toInt64)), .second, .val (.long ((9223372036854775807 : Int64) - ((9223372036854775807 : Int64) / z.toInt64) * z.toInt64)), .second, .val (.long ba), .second, .val (.long ((q1 &&& (15 : Int64)) - (8 : Int64))), .second, .val (.long tg), .second, .val (.long ou), .second] [(.long ou)])
        obtain ⟨_, _, ⟨T14, L14, k14, n14⟩, -, X14, ⟨Lc14, hQ14, l14, y14, z14⟩, st14⟩ := Jvm.LawKit.callS X0 hx (y := (⟨"com/example/gunline/gunline/core/SeededDiceRollPinLaw", "seedFor", "(J)J"⟩ : MethodName)) hown (mvT hZ (hw _ (List.mem_of_getElem? (i := 5) rfl))) (mvT hZ (hw _ (List.mem_of_getElem? (i := 6) rfl))) (mvT hZ (hw _ (List.mem_of_getElem? (i := 7) rfl))) (mvT hZ (hw _ (List.mem_of_getElem? (i := 8) rfl))) (by decide) (backOf (W := 0) (rm1 l Z a0 hw [] ou h0 n0 Z0) hZ (hw _ (List.mem_of_getElem? (i := 8) rfl)) (hw _ (List.mem_of_getElem? (i := 7) rfl)) (by decide) (by decide)) (g := (mkF m 131 #[.val (.long q1), .second, .val (.int p2), .val (.int p3), .val (.int z), .val (.long q1), .second, .val (.long ((9223372036854775807 : Int64) / z.toInt64)), .second, .val (.long ((9223372036854775807 : Int64) - ((9223372036854775807 : Int64) / z.toInt64) * z.toInt64)), .second, .val (.long ba), .second, .val (.long ((q1 &&& (15 : Int64)) - (8 : Int64))), .second, .val (.long tg), .second, .val (.long ou), .second] [(.long ou)])) rfl (by rw [hml]; rfl) (argsL := [(.long ou)]) (rest := []) (lenOf pd_0 rfl) rfl (by show 2 * 0 + _ ≤ _; exact Nat.le_of_eq rfl) (hb hby at_131) (fun _ _ => ⟨rfl, e0, (by decide : 0 + 0 ≤ _), (by decide : 0 + 0 ≤ _)⟩)
        dsimp only [Pt.U, Pt.locs, Pt.cells, Pt.slots] at X14 l14 y14 z14 st14 hQ14
        subst l14 y14 z14
        obtain ⟨N14q, e14, sd, rfl⟩ := hQ14
        have N14 := Fr.app N0 N14q
        refine own_go (fun tz kz => st14 tz kz) ?_
        show own_Go p.tables e below _ T14 (mkF m 134 #[.val (.long q1), .second, .val (.int p2), .val (.int p3), .val (.int z), .val (.long q1), .second, .val (.long ((9223372036854775807 : Int64) / z.toInt64)), .second, .val (.long ((9223372036854775807 : Int64) - ((9223372036854775807 : Int64) / z.toInt64) * z.toInt64)), .second, .val (.long ba), .second, .val (.long ((q1 &&& (15 : Int64)) - (8 : Int64))), .second, .val (.long tg), .second, .val (.long ou), .second] [(.long sd)])
        refine own_go (fun tz kz => XT.lstore X14.here hx rfl (hb hby at_134) rfl (l' := #[.val (.long q1), .second, .val (.int p2), .val (.int p3), .val (.int z), .val (.long sd), .second, .val (.long ((9223372036854775807 : Int64) / z.toInt64)), .second, .val (.long ((9223372036854775807 : Int64) - ((9223372036854775807 : Int64) / z.toInt64) * z.toInt64)), .second, .val (.long ba), .second, .val (.long ((q1 &&& (15 : Int64)) - (8 : Int64))), .second, .val (.long tg), .second, .val (.long ou), .second]) rfl kz) ?_
        show own_Go p.tables e below _ T14 (mkF m 136 #[.val (.long q1), .second, .val (.int p2), .val (.int p3), .val (.int z), .val (.long sd), .second, .val (.long ((9223372036854775807 : Int64) / z.toInt64)), .second, .val (.long ((9223372036854775807 : Int64) - ((9223372036854775807 : Int64) / z.toInt64) * z.toInt64)), .second, .val (.long ba), .second, .val (.long ((q1 &&& (15 : Int64)) - (8 : Int64))), .second, .val (.long tg), .second, .val (.long ou), .second] [])
        obtain ⟨T15, h15, X15, e15, E15, A15, D15, -, st15⟩ := newO X14 hx hZ hown (hw _ (List.mem_of_getElem? (i := 16) rfl)) (hw _ (List.mem_of_getElem? (i := 17) rfl)) (hw _ (List.mem_of_getElem? (i := 18) rfl)) e14 (g := (mkF m 136 #[.val (.long q1), .second, .val (.int p2), .val (.int p3), .val (.int z), .val (.long sd), .second, .val (.long ((9223372036854775807 : Int64) / z.toInt64)), .second, .val (.long ((9223372036854775807 : Int64) - ((9223372036854775807 : Int64) / z.toInt64) * z.toInt64)), .second, .val (.long ba), .second, .val (.long ((q1 &&& (15 : Int64)) - (8 : Int64))), .second, .val (.long tg), .second, .val (.long ou), .second] [])) rfl (hb hby at_136) (by decide) (by decide)
        obtain ⟨b1, eq_b1⟩ : ∃ z, z = (h0).size := ⟨_, rfl⟩
        rw [← eq_b1] at A15 D15 st15
        have g_b1 : n0 ≤ b1 := Nat.le_trans Z0 (Nat.le_of_eq eq_b1.symm)
        have F_state_b1 : Fld Z h15 b1 "com/example/gunline/gunline/core/SeededDice" "state" "J" (.long (0 : Int64)) := D15 (Or.inl (hw _ (List.mem_of_getElem? (i := 26) rfl))) (ty := .long) (by decide)
        refine own_go st15 ?_
        show own_Go p.tables e below _ T15 (mkF m 139 #[.val (.long q1), .second, .val (.int p2), .val (.int p3), .val (.int z), .val (.long sd), .second, .val (.long ((9223372036854775807 : Int64) / z.toInt64)), .second, .val (.long ((9223372036854775807 : Int64) - ((9223372036854775807 : Int64) / z.toInt64) * z.toInt64)), .second, .val (.long ba), .second, .val (.long ((q1 &&& (15 : Int64)) - (8 : Int64))), .second, .val (.long tg), .second, .val (.long ou), .second] [(.ref b1)])
        refine own_go (fun tz kz => XS.dup X15.here hx rfl (hb hby at_139) rfl rfl kz) ?_
        show own_Go p.tables e below _ T15 (mkF m 140 #[.val (.long q1), .second, .val (.int p2), .val (.int p3), .val (.int z), .val (.long sd), .second, .val (.long ((9223372036854775807 : Int64) / z.toInt64)), .second, .val (.long ((9223372036854775807 : Int64) - ((9223372036854775807 : Int64) / z.toInt64) * z.toInt64)), .second, .val (.long ba), .second, .val (.long ((q1 &&& (15 : Int64)) - (8 : Int64))), .second, .val (.long tg), .second, .val (.long ou), .second] [(.ref b1), (.ref b1)])
        refine own_go (fun tz kz => XT.lload X15.here hx rfl (hb hby at_140) rfl kz) ?_
        show own_Go p.tables e below _ T15 (mkF m 142 #[.val (.long q1), .second, .val (.int p2), .val (.int p3), .val (.int z), .val (.long sd), .second, .val (.long ((9223372036854775807 : Int64) / z.toInt64)), .second, .val (.long ((9223372036854775807 : Int64) - ((9223372036854775807 : Int64) / z.toInt64) * z.toInt64)), .second, .val (.long ba), .second, .val (.long ((q1 &&& (15 : Int64)) - (8 : Int64))), .second, .val (.long tg), .second, .val (.long ou), .second] [(.long sd), (.ref b1), (.ref b1)])
        obtain ⟨_, _, ⟨T16, L16, k16, n16⟩, -, X16, ⟨Lc16, hQ16, l16, y16, z16⟩, st16⟩ := X15.specialBack hx (y := (⟨"com/example/gunline/gunline/core/SeededDice", "<init>", "(J)V"⟩ : MethodName)) rfl hown (mvT hZ (hw _ (List.mem_of_getElem? (i := 19) rfl))) (mvT hZ (hw _ (List.mem_of_getElem? (i := 20) rfl))) (mvT hZ (hw _ (List.mem_of_getElem? (i := 21) rfl))) (by decide) (backOf (W := 1) (rm3 l Z a0 hw [] b1 sd _ h15 n0 (Nat.le_trans Z0 E15.1) F_state_b1 A15 g_b1) hZ (hw _ (List.mem_of_getElem? (i := 21) rfl)) (hw _ (List.mem_of_getElem? (i := 18) rfl)) (by decide) (by decide)) (g := (mkF m 142 #[.val (.long q1), .second, .val (.int p2), .val (.int p3), .val (.int z), .val (.long sd), .second, .val (.long ((9223372036854775807 : Int64) / z.toInt64)), .second, .val (.long ((9223372036854775807 : Int64) - ((9223372036854775807 : Int64) / z.toInt64) * z.toInt64)), .second, .val (.long ba), .second, .val (.long ((q1 &&& (15 : Int64)) - (8 : Int64))), .second, .val (.long tg), .second, .val (.long ou), .second] [(.long sd), (.ref b1), (.ref b1)])) rfl (by rw [hml]; rfl) (Steps.refl _) (a := b1) (argsL := [(.long sd)]) (rest := [(.ref b1)]) (lenOf pd_2 rfl) rfl (by show 2 * 0 + _ ≤ _; exact Nat.le_of_eq rfl) (hb hby at_142) (fun _ _ => ⟨rfl, e15, (by decide : 1 + 0 ≤ _), (by decide : 1 + 0 ≤ _)⟩)
        dsimp only [Pt.U, Pt.locs, Pt.cells, Pt.slots] at X16 l16 y16 z16 st16 hQ16
        subst l16 y16 z16
        obtain ⟨rfl, N16q, K16, Ea1, Fa1⟩ := hQ16
        have N16 := Fr.app N14 N16q
        refine own_go (fun tz kz => st16.trans kz) ?_
        show own_Go p.tables e below _ T16 (mkF m 145 #[.val (.long q1), .second, .val (.int p2), .val (.int p3), .val (.int z), .val (.long sd), .second, .val (.long ((9223372036854775807 : Int64) / z.toInt64)), .second, .val (.long ((9223372036854775807 : Int64) - ((9223372036854775807 : Int64) / z.toInt64) * z.toInt64)), .second, .val (.long ba), .second, .val (.long ((q1 &&& (15 : Int64)) - (8 : Int64))), .second, .val (.long tg), .second, .val (.long ou), .second] [(.ref b1)])
        refine own_go (fun tz kz => XS.astore X16.here hx rfl (hb hby at_145) rfl rfl (l' := #[.val (.long q1), .second, .val (.int p2), .val (.int p3), .val (.int z), .val (.long sd), .second, .val (.ref b1), .unset, .val (.long ((9223372036854775807 : Int64) - ((9223372036854775807 : Int64) / z.toInt64) * z.toInt64)), .second, .val (.long ba), .second, .val (.long ((q1 &&& (15 : Int64)) - (8 : Int64))), .second, .val (.long tg), .second, .val (.long ou), .second]) rfl kz) ?_
        show own_Go p.tables e below _ T16 (mkF m 147 #[.val (.long q1), .second, .val (.int p2), .val (.int p3), .val (.int z), .val (.long sd), .second, .val (.ref b1), .unset, .val (.long ((9223372036854775807 : Int64) - ((9223372036854775807 : Int64) / z.toInt64) * z.toInt64)), .second, .val (.long ba), .second, .val (.long ((q1 &&& (15 : Int64)) - (8 : Int64))), .second, .val (.long tg), .second, .val (.long ou), .second] [])
        obtain ⟨T17, h17, X17, e17, E17, A17, D17, -, st17⟩ := newO X16 hx hZ hown (hw _ (List.mem_of_getElem? (i := 16) rfl)) (hw _ (List.mem_of_getElem? (i := 17) rfl)) (hw _ (List.mem_of_getElem? (i := 18) rfl)) rfl (g := (mkF m 147 #[.val (.long q1), .second, .val (.int p2), .val (.int p3), .val (.int z), .val (.long sd), .second, .val (.ref b1), .unset, .val (.long ((9223372036854775807 : Int64) - ((9223372036854775807 : Int64) / z.toInt64) * z.toInt64)), .second, .val (.long ba), .second, .val (.long ((q1 &&& (15 : Int64)) - (8 : Int64))), .second, .val (.long tg), .second, .val (.long ou), .second] [])) rfl (hb hby at_147) (by decide) (by decide)
        obtain ⟨b2, eq_b2⟩ : ∃ z, z = (T16.heap).size := ⟨_, rfl⟩
        rw [← eq_b2] at A17 D17 st17
        have g_b2 : n0 ≤ b2 := Nat.le_trans (Nat.le_trans (Nat.le_trans Z0 E15.1) K16.1) (Nat.le_of_eq eq_b2.symm)
        have F_state_b2 : Fld Z h17 b2 "com/example/gunline/gunline/core/SeededDice" "state" "J" (.long (0 : Int64)) := D17 (Or.inl (hw _ (List.mem_of_getElem? (i := 26) rfl))) (ty := .long) (by decide)
        refine own_go st17 ?_
        show own_Go p.tables e below _ T17 (mkF m 150 #[.val (.long q1), .second, .val (.int p2), .val (.int p3), .val (.int z), .val (.long sd), .second, .val (.ref b1), .unset, .val (.long ((9223372036854775807 : Int64) - ((9223372036854775807 : Int64) / z.toInt64) * z.toInt64)), .second, .val (.long ba), .second, .val (.long ((q1 &&& (15 : Int64)) - (8 : Int64))), .second, .val (.long tg), .second, .val (.long ou), .second] [(.ref b2)])
        have hne : b1 ≠ b2 := Nat.ne_of_lt (Nat.lt_of_lt_of_le Fa1.lt (Nat.le_of_eq eq_b2.symm))
        refine own_go (fun tz kz => XS.dup X17.here hx rfl (hb hby at_150) rfl rfl kz) ?_
        show own_Go p.tables e below _ T17 (mkF m 151 #[.val (.long q1), .second, .val (.int p2), .val (.int p3), .val (.int z), .val (.long sd), .second, .val (.ref b1), .unset, .val (.long ((9223372036854775807 : Int64) - ((9223372036854775807 : Int64) / z.toInt64) * z.toInt64)), .second, .val (.long ba), .second, .val (.long ((q1 &&& (15 : Int64)) - (8 : Int64))), .second, .val (.long tg), .second, .val (.long ou), .second] [(.ref b2), (.ref b2)])
        refine own_go (fun tz kz => XT.lload X17.here hx rfl (hb hby at_151) rfl kz) ?_
        show own_Go p.tables e below _ T17 (mkF m 153 #[.val (.long q1), .second, .val (.int p2), .val (.int p3), .val (.int z), .val (.long sd), .second, .val (.ref b1), .unset, .val (.long ((9223372036854775807 : Int64) - ((9223372036854775807 : Int64) / z.toInt64) * z.toInt64)), .second, .val (.long ba), .second, .val (.long ((q1 &&& (15 : Int64)) - (8 : Int64))), .second, .val (.long tg), .second, .val (.long ou), .second] [(.long sd), (.ref b2), (.ref b2)])
        obtain ⟨_, _, ⟨T18, L18, k18, n18⟩, -, X18, ⟨Lc18, hQ18, l18, y18, z18⟩, st18⟩ := X17.specialBack hx (y := (⟨"com/example/gunline/gunline/core/SeededDice", "<init>", "(J)V"⟩ : MethodName)) rfl hown (mvT hZ (hw _ (List.mem_of_getElem? (i := 19) rfl))) (mvT hZ (hw _ (List.mem_of_getElem? (i := 20) rfl))) (mvT hZ (hw _ (List.mem_of_getElem? (i := 21) rfl))) (by decide) (backOf (W := 1) (rm3 l Z a0 hw [] b2 sd _ h17 n0 (Nat.le_trans (Nat.le_trans (Nat.le_trans Z0 E15.1) K16.1) E17.1) F_state_b2 A17 g_b2) hZ (hw _ (List.mem_of_getElem? (i := 21) rfl)) (hw _ (List.mem_of_getElem? (i := 18) rfl)) (by decide) (by decide)) (g := (mkF m 153 #[.val (.long q1), .second, .val (.int p2), .val (.int p3), .val (.int z), .val (.long sd), .second, .val (.ref b1), .unset, .val (.long ((9223372036854775807 : Int64) - ((9223372036854775807 : Int64) / z.toInt64) * z.toInt64)), .second, .val (.long ba), .second, .val (.long ((q1 &&& (15 : Int64)) - (8 : Int64))), .second, .val (.long tg), .second, .val (.long ou), .second] [(.long sd), (.ref b2), (.ref b2)])) rfl (by rw [hml]; rfl) (Steps.refl _) (a := b2) (argsL := [(.long sd)]) (rest := [(.ref b2)]) (lenOf pd_2 rfl) rfl (by show 2 * 0 + _ ≤ _; exact Nat.le_of_eq rfl) (hb hby at_153) (fun _ _ => ⟨rfl, e17, (by decide : 2 + 0 ≤ _), (by decide : 2 + 0 ≤ _)⟩)
        dsimp only [Pt.U, Pt.locs, Pt.cells, Pt.slots] at X18 l18 y18 z18 st18 hQ18
        subst l18 y18 z18
        obtain ⟨rfl, N18q, K18, Eb1, Fb1⟩ := hQ18
        have N18 := Fr.app N16 N18q
        refine own_go (fun tz kz => st18.trans kz) ?_
        show own_Go p.tables e below _ T18 (mkF m 156 #[.val (.long q1), .second, .val (.int p2), .val (.int p3), .val (.int z), .val (.long sd), .second, .val (.ref b1), .unset, .val (.long ((9223372036854775807 : Int64) - ((9223372036854775807 : Int64) / z.toInt64) * z.toInt64)), .second, .val (.long ba), .second, .val (.long ((q1 &&& (15 : Int64)) - (8 : Int64))), .second, .val (.long tg), .second, .val (.long ou), .second] [(.ref b2)])
        have Ea2 := (Ea1.ext E17).keep K18
        have Fa2 := (Fa1.ext E17).keep K18 (own_not1 hne)
        obtain ⟨Kk, ⟨hKa, hKb⟩, hm⟩ := own_first hz sd
        refine own_go (fun tz kz => XS.astore X18.here hx rfl (hb hby at_156) rfl rfl (l' := #[.val (.long q1), .second, .val (.int p2), .val (.int p3), .val (.int z), .val (.long sd), .second, .val (.ref b1), .val (.ref b2), .val (.long ((9223372036854775807 : Int64) - ((9223372036854775807 : Int64) / z.toInt64) * z.toInt64)), .second, .val (.long ba), .second, .val (.long ((q1 &&& (15 : Int64)) - (8 : Int64))), .second, .val (.long tg), .second, .val (.long ou), .second]) rfl kz) ?_
        show own_Go p.tables e below _ T18 (mkF m 158 #[.val (.long q1), .second, .val (.int p2), .val (.int p3), .val (.int z), .val (.long sd), .second, .val (.ref b1), .val (.ref b2), .val (.long ((9223372036854775807 : Int64) - ((9223372036854775807 : Int64) / z.toInt64) * z.toInt64)), .second, .val (.long ba), .second, .val (.long ((q1 &&& (15 : Int64)) - (8 : Int64))), .second, .val (.long tg), .second, .val (.long ou), .second] [])
        refine own_go (fun tz kz => XS.aload X18.here hx rfl (hb hby at_158) rfl rfl kz) ?_
        show own_Go p.tables e below _ T18 (mkF m 160 #[.val (.long q1), .second, .val (.int p2), .val (.int p3), .val (.int z), .val (.long sd), .second, .val (.ref b1), .val (.ref b2), .val (.long ((9223372036854775807 : Int64) - ((9223372036854775807 : Int64) / z.toInt64) * z.toInt64)), .second, .val (.long ba), .second, .val (.long ((q1 &&& (15 : Int64)) - (8 : Int64))), .second, .val (.long tg), .second, .val (.long ou), .second] [(.ref b1)])
        refine own_go (fun tz kz => XS.iload X18.here hx rfl (hb hby at_160) rfl kz) ?_
        show own_Go p.tables e below _ T18 (mkF m 162 #[.val (.long q1), .second, .val (.int p2), .val (.int p3), .val (.int z), .val (.long sd), .second, .val (.ref b1), .val (.ref b2), .val (.long ((9223372036854775807 : Int64) - ((9223372036854775807 : Int64) / z.toInt64) * z.toInt64)), .second, .val (.long ba), .second, .val (.long ((q1 &&& (15 : Int64)) - (8 : Int64))), .second, .val (.long tg), .second, .val (.long ou), .second] [(.int z), (.ref b1)])
        obtain ⟨cq19, kq19, q19a, q19b, q19c⟩ := isOf hZ rfl Ea2
        obtain ⟨_, _, ⟨T19, L19, k19, n19⟩, -, X19, ⟨Lc19, hQ19, l19, y19, z19⟩, st19⟩ := X18.virtualBack hx (y := (⟨"com/example/gunline/gunline/core/SeededDice", "roll", "(I)I"⟩ : MethodName)) (z := (⟨"com/example/gunline/gunline/core/SeededDice", "roll", "(I)I"⟩ : MethodName)) hown (mvT hZ (hw _ (List.mem_of_getElem? (i := 27) rfl))) (mvT hZ (hw _ (List.mem_of_getElem? (i := 28) rfl))) (notFace_of_selects (args := #[]) (mvT hZ (hw _ (List.mem_of_getElem? (i := 30) rfl)))) (mvT hZ (hw _ (List.mem_of_getElem? (i := 30) rfl))) (mvT hZ (hw _ (List.mem_of_getElem? (i := 29) rfl))) (by decide) (backOf (W := 0) (rm5 l Z a0 hw [] b1 z sd Kk T18.heap n0 (Nat.le_trans (Nat.le_trans (Nat.le_trans (Nat.le_trans Z0 E15.1) K16.1) E17.1) K18.1) Fa2 Ea2 g_b1 hz hKa hKb hm) hZ (hw _ (List.mem_of_getElem? (i := 31) rfl)) (hw _ (List.mem_of_getElem? (i := 18) rfl)) (by decide) (by decide)) q19a q19c (g := (mkF m 162 #[.val (.long q1), .second, .val (.int p2), .val (.int p3), .val (.int z), .val (.long sd), .second, .val (.ref b1), .val (.ref b2), .val (.long ((9223372036854775807 : Int64) - ((9223372036854775807 : Int64) / z.toInt64) * z.toInt64)), .second, .val (.long ba), .second, .val (.long ((q1 &&& (15 : Int64)) - (8 : Int64))), .second, .val (.long tg), .second, .val (.long ou), .second] [(.int z), (.ref b1)])) rfl (by rw [hml]; rfl) (Steps.refl _) (argsL := [(.int z)]) (rest := []) (lenOf pd_3 rfl) rfl (by show 2 * 0 + _ ≤ _; exact Nat.le_of_eq rfl) (hb hby at_162) (fun _ _ => ⟨rfl, rfl, (by decide : 2 + 0 ≤ _), (by decide : 2 + 0 ≤ _)⟩)
        dsimp only [Pt.U, Pt.locs, Pt.cells, Pt.slots] at X19 l19 y19 z19 st19 hQ19
        subst l19 y19 z19
        obtain ⟨rfl, N19q, K19, Ea3, Fa3⟩ := hQ19
        have N19 := Fr.app N18 N19q
        refine own_go (fun tz kz => st19.trans kz) ?_
        show own_Go p.tables e below _ T19 (mkF m 165 #[.val (.long q1), .second, .val (.int p2), .val (.int p3), .val (.int z), .val (.long sd), .second, .val (.ref b1), .val (.ref b2), .val (.long ((9223372036854775807 : Int64) - ((9223372036854775807 : Int64) / z.toInt64) * z.toInt64)), .second, .val (.long ba), .second, .val (.long ((q1 &&& (15 : Int64)) - (8 : Int64))), .second, .val (.long tg), .second, .val (.long ou), .second] [(.int (own_face (own_draw sd Kk) z))])
        have Eb2 := Eb1.keep K19
        have Fb2 := Fb1.keep K19 (own_not1 (Ne.symm hne))
        refine own_go (fun tz kz => XS.istore X19.here hx rfl (hb hby at_165) rfl (l' := #[.val (.long q1), .second, .val (.int p2), .val (.int p3), .val (.int z), .val (.long sd), .second, .val (.ref b1), .val (.ref b2), .val (.int (own_face (own_draw sd Kk) z)), .unset, .val (.long ba), .second, .val (.long ((q1 &&& (15 : Int64)) - (8 : Int64))), .second, .val (.long tg), .second, .val (.long ou), .second]) rfl kz) ?_
        show own_Go p.tables e below _ T19 (mkF m 167 #[.val (.long q1), .second, .val (.int p2), .val (.int p3), .val (.int z), .val (.long sd), .second, .val (.ref b1), .val (.ref b2), .val (.int (own_face (own_draw sd Kk) z)), .unset, .val (.long ba), .second, .val (.long ((q1 &&& (15 : Int64)) - (8 : Int64))), .second, .val (.long tg), .second, .val (.long ou), .second] [])
        refine own_go (fun tz kz => XS.aload X19.here hx rfl (hb hby at_167) rfl rfl kz) ?_
        show own_Go p.tables e below _ T19 (mkF m 169 #[.val (.long q1), .second, .val (.int p2), .val (.int p3), .val (.int z), .val (.long sd), .second, .val (.ref b1), .val (.ref b2), .val (.int (own_face (own_draw sd Kk) z)), .unset, .val (.long ba), .second, .val (.long ((q1 &&& (15 : Int64)) - (8 : Int64))), .second, .val (.long tg), .second, .val (.long ou), .second] [(.ref b2)])
        obtain ⟨cq20, kq20, q20a, q20b, q20c⟩ := isOf hZ rfl Eb2
        obtain ⟨_, _, ⟨T20, L20, k20, n20⟩, -, X20, ⟨Lc20, hQ20, l20, y20, z20⟩, st20⟩ := X19.virtualBack hx (y := (⟨"com/example/gunline/gunline/core/SeededDice", "next", "()J"⟩ : MethodName)) (z := (⟨"com/example/gunline/gunline/core/SeededDice", "next", "()J"⟩ : MethodName)) hown (mvT hZ (hw _ (List.mem_of_getElem? (i := 41) rfl))) (mvT hZ (hw _ (List.mem_of_getElem? (i := 34) rfl))) (notFace_of_selects (args := #[]) (mvT hZ (hw _ (List.mem_of_getElem? (i := 36) rfl)))) (mvT hZ (hw _ (List.mem_of_getElem? (i := 36) rfl))) (mvT hZ (hw _ (List.mem_of_getElem? (i := 35) rfl))) (by decide) (backOf (W := 0) (rm6 l Z a0 hw [] b2 (own_st sd 0) T19.heap n0 (Nat.le_trans (Nat.le_trans (Nat.le_trans (Nat.le_trans (Nat.le_trans Z0 E15.1) K16.1) E17.1) K18.1) K19.1) Fb2 Eb2 g_b2) hZ (hw _ (List.mem_of_getElem? (i := 37) rfl)) (hw _ (List.mem_of_getElem? (i := 18) rfl)) (by decide) (by decide)) q20a q20c (g := (mkF m 169 #[.val (.long q1), .second, .val (.int p2), .val (.int p3), .val (.int z), .val (.long sd), .second, .val (.ref b1), .val (.ref b2), .val (.int (own_face (own_draw sd Kk) z)), .unset, .val (.long ba), .second, .val (.long ((q1 &&& (15 : Int64)) - (8 : Int64))), .second, .val (.long tg), .second, .val (.long ou), .second] [(.ref b2)])) rfl (by rw [hml]; rfl) (Steps.refl _) (argsL := []) (rest := []) (lenOf pd_1 rfl) rfl (by show 2 * 0 + _ ≤ _; exact Nat.le_of_eq rfl) (hb hby at_169) (fun _ _ => ⟨rfl, rfl, (by decide : 2 + 0 ≤ _), (by decide : 2 + 0 ≤ _)⟩)
        dsimp only [Pt.U, Pt.locs, Pt.cells, Pt.slots] at X20 l20 y20 z20 st20 hQ20
        subst l20 y20 z20
        obtain ⟨rfl, N20q, K20, Eb3, Fb3⟩ := hQ20
        have N20 := Fr.app N19 N20q
        refine own_go (fun tz kz => st20.trans kz) ?_
        show own_Go p.tables e below _ T20 (mkF m 172 #[.val (.long q1), .second, .val (.int p2), .val (.int p3), .val (.int z), .val (.long sd), .second, .val (.ref b1), .val (.ref b2), .val (.int (own_face (own_draw sd Kk) z)), .unset, .val (.long ba), .second, .val (.long ((q1 &&& (15 : Int64)) - (8 : Int64))), .second, .val (.long tg), .second, .val (.long ou), .second] [(.long (own_mix (own_st sd 0 + (-7046029254386353131 : Int64))))])
        refine own_go (fun tz kz => XS.iconst X20.here hx rfl (hb hby at_172) kz) ?_
        show own_Go p.tables e below _ T20 (mkF m 173 #[.val (.long q1), .second, .val (.int p2), .val (.int p3), .val (.int z), .val (.long sd), .second, .val (.ref b1), .val (.ref b2), .val (.int (own_face (own_draw sd Kk) z)), .unset, .val (.long ba), .second, .val (.long ((q1 &&& (15 : Int64)) - (8 : Int64))), .second, .val (.long tg), .second, .val (.long ou), .second] [(.int (1 : Int32)), (.long (own_mix (own_st sd 0 + (-7046029254386353131 : Int64))))])
        refine own_go (fun tz kz => XT.lushr X20.here hx rfl (hb hby at_173) rfl kz) ?_
        show own_Go p.tables e below _ T20 (mkF m 174 #[.val (.long q1), .second, .val (.int p2), .val (.int p3), .val (.int z), .val (.long sd), .second, .val (.ref b1), .val (.ref b2), .val (.int (own_face (own_draw sd Kk) z)), .unset, .val (.long ba), .second, .val (.long ((q1 &&& (15 : Int64)) - (8 : Int64))), .second, .val (.long tg), .second, .val (.long ou), .second] [(.long (XT.ushrL (own_mix (own_st sd 0 + (-7046029254386353131 : Int64))) (1 : Int32)))])
        show own_Go p.tables e below _ T20 (mkF m 174 #[.val (.long q1), .second, .val (.int p2), .val (.int p3), .val (.int z), .val (.long sd), .second, .val (.ref b1), .val (.ref b2), .val (.int (own_face (own_draw sd Kk) z)), .unset, .val (.long ba), .second, .val (.long ((q1 &&& (15 : Int64)) - (8 : Int64))), .second, .val (.long tg), .second, .val (.long ou), .second] [(.long (own_draw sd 1))])
        have Ea4 := Ea3.keep K20
        have Fa4 := Fa3.keep K20 (own_not1 hne)
        refine own_go (fun tz kz => XT.lstore X20.here hx rfl (hb hby at_174) rfl (l' := #[.val (.long q1), .second, .val (.int p2), .val (.int p3), .val (.int z), .val (.long sd), .second, .val (.ref b1), .val (.ref b2), .val (.int (own_face (own_draw sd Kk) z)), .val (.long (own_draw sd 1)), .second, .unset, .val (.long ((q1 &&& (15 : Int64)) - (8 : Int64))), .second, .val (.long tg), .second, .val (.long ou), .second]) rfl kz) ?_
        show own_Go p.tables e below _ T20 (mkF m 176 #[.val (.long q1), .second, .val (.int p2), .val (.int p3), .val (.int z), .val (.long sd), .second, .val (.ref b1), .val (.ref b2), .val (.int (own_face (own_draw sd Kk) z)), .val (.long (own_draw sd 1)), .second, .unset, .val (.long ((q1 &&& (15 : Int64)) - (8 : Int64))), .second, .val (.long tg), .second, .val (.long ou), .second] [])
        refine own_go (fun tz kz => XT.lload X20.here hx rfl (hb hby at_176) rfl kz) ?_
        show own_Go p.tables e below _ T20 (mkF m 178 #[.val (.long q1), .second, .val (.int p2), .val (.int p3), .val (.int z), .val (.long sd), .second, .val (.ref b1), .val (.ref b2), .val (.int (own_face (own_draw sd Kk) z)), .val (.long (own_draw sd 1)), .second, .unset, .val (.long ((q1 &&& (15 : Int64)) - (8 : Int64))), .second, .val (.long tg), .second, .val (.long ou), .second] [(.long (own_draw sd 1))])
        refine own_go (fun tz kz => XS.iload X20.here hx rfl (hb hby at_178) rfl kz) ?_
        show own_Go p.tables e below _ T20 (mkF m 180 #[.val (.long q1), .second, .val (.int p2), .val (.int p3), .val (.int z), .val (.long sd), .second, .val (.ref b1), .val (.ref b2), .val (.int (own_face (own_draw sd Kk) z)), .val (.long (own_draw sd 1)), .second, .unset, .val (.long ((q1 &&& (15 : Int64)) - (8 : Int64))), .second, .val (.long tg), .second, .val (.long ou), .second] [(.int z), (.long (own_draw sd 1))])
        obtain ⟨_, _, ⟨T21, L21, k21, n21⟩, -, X21, ⟨Lc21, hQ21, l21, y21, z21⟩, st21⟩ := Jvm.LawKit.callS X20 hx (y := (⟨"com/example/gunline/gunline/core/SeededDiceRollPinLaw", "accepts", "(JI)Z"⟩ : MethodName)) hown (mvT hZ (hw _ (List.mem_of_getElem? (i := 42) rfl))) (mvT hZ (hw _ (List.mem_of_getElem? (i := 43) rfl))) (mvT hZ (hw _ (List.mem_of_getElem? (i := 7) rfl))) (mvT hZ (hw _ (List.mem_of_getElem? (i := 44) rfl))) (by decide) (backOf (W := 0) (rm7 l Z a0 hw [] (own_draw sd 1) z T20.heap n0 (Nat.le_trans (Nat.le_trans (Nat.le_trans (Nat.le_trans (Nat.le_trans (Nat.le_trans Z0 E15.1) K16.1) E17.1) K18.1) K19.1) K20.1) hz0) hZ (hw _ (List.mem_of_getElem? (i := 44) rfl)) (hw _ (List.mem_of_getElem? (i := 7) rfl)) (by decide) (by decide)) (g := (mkF m 180 #[.val (.long q1), .second, .val (.int p2), .val (.int p3), .val (.int z), .val (.long sd), .second, .val (.ref b1), .val (.ref b2), .val (.int (own_face (own_draw sd Kk) z)), .val (.long (own_draw sd 1)), .second, .unset, .val (.long ((q1 &&& (15 : Int64)) - (8 : Int64))), .second, .val (.long tg), .second, .val (.long ou), .second] [(.int z), (.long (own_draw sd 1))])) rfl (by rw [hml]; rfl) (argsL := [(.long (own_draw sd 1)), (.int z)]) (rest := []) (lenOf pd_4 rfl) rfl (by show 2 * 0 + _ ≤ _; exact Nat.le_of_eq rfl) (hb hby at_180) (fun _ _ => ⟨rfl, rfl, (by decide : 2 + 0 ≤ _), (by decide : 2 + 0 ≤ _)⟩)
        dsimp only [Pt.U, Pt.locs, Pt.cells, Pt.slots] at X21 l21 y21 z21 st21 hQ21
        subst l21 y21 z21
        obtain ⟨rfl, N21q, e21⟩ := hQ21
        have N21 := Fr.app N20 N21q
        refine own_go (fun tz kz => st21 tz kz) ?_
        show own_Go p.tables e below _ T21 (mkF m 183 #[.val (.long q1), .second, .val (.int p2), .val (.int p3), .val (.int z), .val (.long sd), .second, .val (.ref b1), .val (.ref b2), .val (.int (own_face (own_draw sd Kk) z)), .val (.long (own_draw sd 1)), .second, .unset, .val (.long ((q1 &&& (15 : Int64)) - (8 : Int64))), .second, .val (.long tg), .second, .val (.long ou), .second] [(.int (own_acc (own_draw sd 1) z))])
        by_cases hA : (own_acc (own_draw sd 1) z) = (0 : Int32)
        ·
          refine own_go (fun tz kz => XS.ifYes X21.here hx rfl (pc0 := 183) (pc' := 220) rfl (hb hby at_183) rfl (XT.i0_eq_t hA) (by decide) (by decide) kz) ?_
          show own_Go p.tables e below _ T21 (mkF m 220 #[.val (.long q1), .second, .val (.int p2), .val (.int p3), .val (.int z), .val (.long sd), .second, .val (.ref b1), .val (.ref b2), .val (.int (own_face (own_draw sd Kk) z)), .val (.long (own_draw sd 1)), .second, .unset, .val (.long ((q1 &&& (15 : Int64)) - (8 : Int64))), .second, .val (.long tg), .second, .val (.long ou), .second] [])
          refine own_go (fun tz kz => XS.aload X21.here hx rfl (hb hby at_220) rfl rfl kz) ?_
          show own_Go p.tables e below _ T21 (mkF m 222 #[.val (.long q1), .second, .val (.int p2), .val (.int p3), .val (.int z), .val (.long sd), .second, .val (.ref b1), .val (.ref b2), .val (.int (own_face (own_draw sd Kk) z)), .val (.long (own_draw sd 1)), .second, .unset, .val (.long ((q1 &&& (15 : Int64)) - (8 : Int64))), .second, .val (.long tg), .second, .val (.long ou), .second] [(.ref b2)])
          obtain ⟨cq22, kq22, q22a, q22b, q22c⟩ := isOf hZ e21 Eb3
          obtain ⟨_, _, ⟨T22, L22, k22, n22⟩, -, X22, ⟨Lc22, hQ22, l22, y22, z22⟩, st22⟩ := X21.virtualBack hx (y := (⟨"com/example/gunline/gunline/core/SeededDice", "next", "()J"⟩ : MethodName)) (z := (⟨"com/example/gunline/gunline/core/SeededDice", "next", "()J"⟩ : MethodName)) hown (mvT hZ (hw _ (List.mem_of_getElem? (i := 41) rfl))) (mvT hZ (hw _ (List.mem_of_getElem? (i := 34) rfl))) (notFace_of_selects (args := #[]) (mvT hZ (hw _ (List.mem_of_getElem? (i := 36) rfl)))) (mvT hZ (hw _ (List.mem_of_getElem? (i := 36) rfl))) (mvT hZ (hw _ (List.mem_of_getElem? (i := 35) rfl))) (by decide) (backOf (W := 0) (rm6 l Z a0 hw [] b2 (own_st sd 1) T20.heap n0 (Nat.le_trans (Nat.le_trans (Nat.le_trans (Nat.le_trans (Nat.le_trans (Nat.le_trans Z0 E15.1) K16.1) E17.1) K18.1) K19.1) K20.1) Fb3 Eb3 g_b2) hZ (hw _ (List.mem_of_getElem? (i := 37) rfl)) (hw _ (List.mem_of_getElem? (i := 18) rfl)) (by decide) (by decide)) q22a q22c (g := (mkF m 222 #[.val (.long q1), .second, .val (.int p2), .val (.int p3), .val (.int z), .val (.long sd), .second, .val (.ref b1), .val (.ref b2), .val (.int (own_face (own_draw sd Kk) z)), .val (.long (own_draw sd 1)), .second, .unset, .val (.long ((q1 &&& (15 : Int64)) - (8 : Int64))), .second, .val (.long tg), .second, .val (.long ou), .second] [(.ref b2)])) rfl (by rw [hml]; rfl) (Steps.refl _) (argsL := []) (rest := []) (lenOf pd_1 rfl) rfl (by show 2 * 0 + _ ≤ _; exact Nat.le_of_eq rfl) (hb hby at_222) (fun _ _ => ⟨rfl, e21, (by decide : 2 + 0 ≤ _), (by decide : 2 + 0 ≤ _)⟩)
          dsimp only [Pt.U, Pt.locs, Pt.cells, Pt.slots] at X22 l22 y22 z22 st22 hQ22
          subst l22 y22 z22
          obtain ⟨rfl, N22q, K22, Eb4, Fb4⟩ := hQ22
          have N22 := Fr.app N21 N22q
          refine own_go (fun tz kz => st22.trans kz) ?_
          show own_Go p.tables e below _ T22 (mkF m 225 #[.val (.long q1), .second, .val (.int p2), .val (.int p3), .val (.int z), .val (.long sd), .second, .val (.ref b1), .val (.ref b2), .val (.int (own_face (own_draw sd Kk) z)), .val (.long (own_draw sd 1)), .second, .unset, .val (.long ((q1 &&& (15 : Int64)) - (8 : Int64))), .second, .val (.long tg), .second, .val (.long ou), .second] [(.long (own_mix (own_st sd 1 + (-7046029254386353131 : Int64))))])
          refine own_go (fun tz kz => XS.iconst X22.here hx rfl (hb hby at_225) kz) ?_
          show own_Go p.tables e below _ T22 (mkF m 226 #[.val (.long q1), .second, .val (.int p2), .val (.int p3), .val (.int z), .val (.long sd), .second, .val (.ref b1), .val (.ref b2), .val (.int (own_face (own_draw sd Kk) z)), .val (.long (own_draw sd 1)), .second, .unset, .val (.long ((q1 &&& (15 : Int64)) - (8 : Int64))), .second, .val (.long tg), .second, .val (.long ou), .second] [(.int (1 : Int32)), (.long (own_mix (own_st sd 1 + (-7046029254386353131 : Int64))))])
          refine own_go (fun tz kz => XT.lushr X22.here hx rfl (hb hby at_226) rfl kz) ?_
          show own_Go p.tables e below _ T22 (mkF m 227 #[.val (.long q1), .second, .val (.int p2), .val (.int p3), .val (.int z), .val (.long sd), .second, .val (.ref b1), .val (.ref b2), .val (.int (own_face (own_draw sd Kk) z)), .val (.long (own_draw sd 1)), .second, .unset, .val (.long ((q1 &&& (15 : Int64)) - (8 : Int64))), .second, .val (.long tg), .second, .val (.long ou), .second] [(.long (XT.ushrL (own_mix (own_st sd 1 + (-7046029254386353131 : Int64))) (1 : Int32)))])
          show own_Go p.tables e below _ T22 (mkF m 227 #[.val (.long q1), .second, .val (.int p2), .val (.int p3), .val (.int z), .val (.long sd), .second, .val (.ref b1), .val (.ref b2), .val (.int (own_face (own_draw sd Kk) z)), .val (.long (own_draw sd 1)), .second, .unset, .val (.long ((q1 &&& (15 : Int64)) - (8 : Int64))), .second, .val (.long tg), .second, .val (.long ou), .second] [(.long (own_draw sd 2))])
          have Ea5 := Ea4.keep K22
          have Fa5 := Fa4.keep K22 (own_not1 hne)
          refine own_go (fun tz kz => XT.lstore X22.here hx rfl (hb hby at_227) rfl (l' := #[.val (.long q1), .second, .val (.int p2), .val (.int p3), .val (.int z), .val (.long sd), .second, .val (.ref b1), .val (.ref b2), .val (.int (own_face (own_draw sd Kk) z)), .val (.long (own_draw sd 1)), .second, .val (.long (own_draw sd 2)), .second, .unset, .val (.long tg), .second, .val (.long ou), .second]) rfl kz) ?_
          show own_Go p.tables e below _ T22 (mkF m 229 #[.val (.long q1), .second, .val (.int p2), .val (.int p3), .val (.int z), .val (.long sd), .second, .val (.ref b1), .val (.ref b2), .val (.int (own_face (own_draw sd Kk) z)), .val (.long (own_draw sd 1)), .second, .val (.long (own_draw sd 2)), .second, .unset, .val (.long tg), .second, .val (.long ou), .second] [])
          refine own_go (fun tz kz => XT.lload X22.here hx rfl (hb hby at_229) rfl kz) ?_
          show own_Go p.tables e below _ T22 (mkF m 231 #[.val (.long q1), .second, .val (.int p2), .val (.int p3), .val (.int z), .val (.long sd), .second, .val (.ref b1), .val (.ref b2), .val (.int (own_face (own_draw sd Kk) z)), .val (.long (own_draw sd 1)), .second, .val (.long (own_draw sd 2)), .second, .unset, .val (.long tg), .second, .val (.long ou), .second] [(.long (own_draw sd 2))])
          refine own_go (fun tz kz => XS.iload X22.here hx rfl (hb hby at_231) rfl kz) ?_
          show own_Go p.tables e below _ T22 (mkF m 233 #[.val (.long q1), .second, .val (.int p2), .val (.int p3), .val (.int z), .val (.long sd), .second, .val (.ref b1), .val (.ref b2), .val (.int (own_face (own_draw sd Kk) z)), .val (.long (own_draw sd 1)), .second, .val (.long (own_draw sd 2)), .second, .unset, .val (.long tg), .second, .val (.long ou), .second] [(.int z), (.long (own_draw sd 2))])
          obtain ⟨_, _, ⟨T23, L23, k23, n23⟩, -, X23, ⟨Lc23, hQ23, l23, y23, z23⟩, st23⟩ := Jvm.LawKit.callS X22 hx (y := (⟨"com/example/gunline/gunline/core/SeededDiceRollPinLaw", "accepts", "(JI)Z"⟩ : MethodName)) hown (mvT hZ (hw _ (List.mem_of_getElem? (i := 42) rfl))) (mvT hZ (hw _ (List.mem_of_getElem? (i := 43) rfl))) (mvT hZ (hw _ (List.mem_of_getElem? (i := 7) rfl))) (mvT hZ (hw _ (List.mem_of_getElem? (i := 44) rfl))) (by decide) (backOf (W := 0) (rm7 l Z a0 hw [] (own_draw sd 2) z T22.heap n0 (Nat.le_trans (Nat.le_trans (Nat.le_trans (Nat.le_trans (Nat.le_trans (Nat.le_trans (Nat.le_trans Z0 E15.1) K16.1) E17.1) K18.1) K19.1) K20.1) K22.1) hz0) hZ (hw _ (List.mem_of_getElem? (i := 44) rfl)) (hw _ (List.mem_of_getElem? (i := 7) rfl)) (by decide) (by decide)) (g := (mkF m 233 #[.val (.long q1), .second, .val (.int p2), .val (.int p3), .val (.int z), .val (.long sd), .second, .val (.ref b1), .val (.ref b2), .val (.int (own_face (own_draw sd Kk) z)), .val (.long (own_draw sd 1)), .second, .val (.long (own_draw sd 2)), .second, .unset, .val (.long tg), .second, .val (.long ou), .second] [(.int z), (.long (own_draw sd 2))])) rfl (by rw [hml]; rfl) (argsL := [(.long (own_draw sd 2)), (.int z)]) (rest := []) (lenOf pd_4 rfl) rfl (by show 2 * 0 + _ ≤ _; exact Nat.le_of_eq rfl) (hb hby at_233) (fun _ _ => ⟨rfl, rfl, (by decide : 2 + 0 ≤ _), (by decide : 2 + 0 ≤ _)⟩)
          dsimp only [Pt.U, Pt.locs, Pt.cells, Pt.slots] at X23 l23 y23 z23 st23 hQ23
          subst l23 y23 z23
          obtain ⟨rfl, N23q, e23⟩ := hQ23
          have N23 := Fr.app N22 N23q
          refine own_go (fun tz kz => st23 tz kz) ?_
          show own_Go p.tables e below _ T23 (mkF m 236 #[.val (.long q1), .second, .val (.int p2), .val (.int p3), .val (.int z), .val (.long sd), .second, .val (.ref b1), .val (.ref b2), .val (.int (own_face (own_draw sd Kk) z)), .val (.long (own_draw sd 1)), .second, .val (.long (own_draw sd 2)), .second, .unset, .val (.long tg), .second, .val (.long ou), .second] [(.int (own_acc (own_draw sd 2) z))])
          by_cases hB : (own_acc (own_draw sd 2) z) = (0 : Int32)
          ·
            refine own_go (fun tz kz => XS.ifYes X23.here hx rfl (pc0 := 236) (pc' := 273) rfl (hb hby at_236) rfl (XT.i0_eq_t hB) (by decide) (by decide) kz) ?_
            show own_Go p.tables e below _ T23 (mkF m 273 #[.val (.long q1), .second, .val (.int p2), .val (.int p3), .val (.int z), .val (.long sd), .second, .val (.ref b1), .val (.ref b2), .val (.int (own_face (own_draw sd Kk) z)), .val (.long (own_draw sd 1)), .second, .val (.long (own_draw sd 2)), .second, .unset, .val (.long tg), .second, .val (.long ou), .second] [])
            refine own_go (fun tz kz => XS.iload X23.here hx rfl (hb hby at_273) rfl kz) ?_
            show own_Go p.tables e below _ T23 (mkF m 275 #[.val (.long q1), .second, .val (.int p2), .val (.int p3), .val (.int z), .val (.long sd), .second, .val (.ref b1), .val (.ref b2), .val (.int (own_face (own_draw sd Kk) z)), .val (.long (own_draw sd 1)), .second, .val (.long (own_draw sd 2)), .second, .unset, .val (.long tg), .second, .val (.long ou), .second] [(.int (own_face (own_draw sd Kk) z))])
            refine own_go (fun tz kz => XS.iconst X23.here hx rfl (hb hby at_275) kz) ?_
            show own_Go p.tables e below _ T23 (mkF m 276 #[.val (.long q1), .second, .val (.int p2), .val (.int p3), .val (.int z), .val (.long sd), .second, .val (.ref b1), .val (.ref b2), .val (.int (own_face (own_draw sd Kk) z)), .val (.long (own_draw sd 1)), .second, .val (.long (own_draw sd 2)), .second, .unset, .val (.long tg), .second, .val (.long ou), .second] [(.int (1 : Int32)), (.int (own_face (own_draw sd Kk) z))])
            refine own_go (fun tz kz => XS.icmpNo X23.here hx rfl (hb hby at_276) rfl (XT.ii_lt_f (own_face_in hz (own_draw_nn sd Kk)).1) kz) ?_
            show own_Go p.tables e below _ T23 (mkF m 279 #[.val (.long q1), .second, .val (.int p2), .val (.int p3), .val (.int z), .val (.long sd), .second, .val (.ref b1), .val (.ref b2), .val (.int (own_face (own_draw sd Kk) z)), .val (.long (own_draw sd 1)), .second, .val (.long (own_draw sd 2)), .second, .unset, .val (.long tg), .second, .val (.long ou), .second] [])
            refine own_go (fun tz kz => XS.iload X23.here hx rfl (hb hby at_279) rfl kz) ?_
            show own_Go p.tables e below _ T23 (mkF m 281 #[.val (.long q1), .second, .val (.int p2), .val (.int p3), .val (.int z), .val (.long sd), .second, .val (.ref b1), .val (.ref b2), .val (.int (own_face (own_draw sd Kk) z)), .val (.long (own_draw sd 1)), .second, .val (.long (own_draw sd 2)), .second, .unset, .val (.long tg), .second, .val (.long ou), .second] [(.int (own_face (own_draw sd Kk) z))])
            refine own_go (fun tz kz => XS.iload X23.here hx rfl (hb hby at_281) rfl kz) ?_
            show own_Go p.tables e below _ T23 (mkF m 283 #[.val (.long q1), .second, .val (.int p2), .val (.int p3), .val (.int z), .val (.long sd), .second, .val (.ref b1), .val (.ref b2), .val (.int (own_face (own_draw sd Kk) z)), .val (.long (own_draw sd 1)), .second, .val (.long (own_draw sd 2)), .second, .unset, .val (.long tg), .second, .val (.long ou), .second] [(.int z), (.int (own_face (own_draw sd Kk) z))])
            refine own_go (fun tz kz => XS.icmpNo X23.here hx rfl (hb hby at_283) rfl (XT.ii_gt_f (own_face_in hz (own_draw_nn sd Kk)).2) kz) ?_
            show own_Go p.tables e below _ T23 (mkF m 286 #[.val (.long q1), .second, .val (.int p2), .val (.int p3), .val (.int z), .val (.long sd), .second, .val (.ref b1), .val (.ref b2), .val (.int (own_face (own_draw sd Kk) z)), .val (.long (own_draw sd 1)), .second, .val (.long (own_draw sd 2)), .second, .unset, .val (.long tg), .second, .val (.long ou), .second] [])
            refine own_go (fun tz kz => XS.iconst X23.here hx rfl (hb hby at_286) kz) ?_
            show own_Go p.tables e below _ T23 (mkF m 287 #[.val (.long q1), .second, .val (.int p2), .val (.int p3), .val (.int z), .val (.long sd), .second, .val (.ref b1), .val (.ref b2), .val (.int (own_face (own_draw sd Kk) z)), .val (.long (own_draw sd 1)), .second, .val (.long (own_draw sd 2)), .second, .unset, .val (.long tg), .second, .val (.long ou), .second] [(.int (1 : Int32))])
            refine own_go (fun tz kz => XS.goto X23.here hx rfl (pc0 := 287) (pc' := 291) rfl (hb hby at_287) (by decide) (by decide) kz) ?_
            show own_Go p.tables e below _ T23 (mkF m 291 #[.val (.long q1), .second, .val (.int p2), .val (.int p3), .val (.int z), .val (.long sd), .second, .val (.ref b1), .val (.ref b2), .val (.int (own_face (own_draw sd Kk) z)), .val (.long (own_draw sd 1)), .second, .val (.long (own_draw sd 2)), .second, .unset, .val (.long tg), .second, .val (.long ou), .second] [(.int (1 : Int32))])
            obtain ⟨fs, hr, hrun, hended, hW, hsame⟩ := X23.leave (v := some (.int (1 : Int32))) (fun h => by rw [Bd.returns] at h; cases h) (BodyLoose.notSynchronized Bd)
            refine ⟨_, _, ?_, hrun, hended, _, _, rfl, ?_, ⟨_, rfl⟩, hW, hsame.mono (by decide) (by decide)⟩
            · exact retN X23 hx (t := .boolean) Bd.returns (by simp) (hb hby at_291) hr
            · show Q0 Z q1 p2 p3 h0 n0 _ T23.heap _
              rw [e23]
              exact ⟨rfl, N23⟩
          ·
            refine own_go (fun tz kz => XS.ifNo X23.here hx rfl (hb hby at_236) rfl (XT.i0_eq_f hB) kz) ?_
            show own_Go p.tables e below _ T23 (mkF m 239 #[.val (.long q1), .second, .val (.int p2), .val (.int p3), .val (.int z), .val (.long sd), .second, .val (.ref b1), .val (.ref b2), .val (.int (own_face (own_draw sd Kk) z)), .val (.long (own_draw sd 1)), .second, .val (.long (own_draw sd 2)), .second, .unset, .val (.long tg), .second, .val (.long ou), .second] [])
            obtain rfl : Kk = 2 := own_K2 hz hKa hKb hm hA hB
            show own_Go p.tables e below _ T23 (mkF m 239 #[.val (.long q1), .second, .val (.int p2), .val (.int p3), .val (.int z), .val (.long sd), .second, .val (.ref b1), .val (.ref b2), .val (.int (own_face (own_draw sd 2) z)), .val (.long (own_draw sd 1)), .second, .val (.long (own_draw sd 2)), .second, .unset, .val (.long tg), .second, .val (.long ou), .second] [])
            refine own_go (fun tz kz => XS.iload X23.here hx rfl (hb hby at_239) rfl kz) ?_
            show own_Go p.tables e below _ T23 (mkF m 241 #[.val (.long q1), .second, .val (.int p2), .val (.int p3), .val (.int z), .val (.long sd), .second, .val (.ref b1), .val (.ref b2), .val (.int (own_face (own_draw sd 2) z)), .val (.long (own_draw sd 1)), .second, .val (.long (own_draw sd 2)), .second, .unset, .val (.long tg), .second, .val (.long ou), .second] [(.int (own_face (own_draw sd 2) z))])
            refine own_go (fun tz kz => XT.lload X23.here hx rfl (hb hby at_241) rfl kz) ?_
            show own_Go p.tables e below _ T23 (mkF m 243 #[.val (.long q1), .second, .val (.int p2), .val (.int p3), .val (.int z), .val (.long sd), .second, .val (.ref b1), .val (.ref b2), .val (.int (own_face (own_draw sd 2) z)), .val (.long (own_draw sd 1)), .second, .val (.long (own_draw sd 2)), .second, .unset, .val (.long tg), .second, .val (.long ou), .second] [(.long (own_draw sd 2)), (.int (own_face (own_draw sd 2) z))])
            refine own_go (fun tz kz => XS.iload X23.here hx rfl (hb hby at_243) rfl kz) ?_
            show own_Go p.tables e below _ T23 (mkF m 245 #[.val (.long q1), .second, .val (.int p2), .val (.int p3), .val (.int z), .val (.long sd), .second, .val (.ref b1), .val (.ref b2), .val (.int (own_face (own_draw sd 2) z)), .val (.long (own_draw sd 1)), .second, .val (.long (own_draw sd 2)), .second, .unset, .val (.long tg), .second, .val (.long ou), .second] [(.int z), (.long (own_draw sd 2)), (.int (own_face (own_draw sd 2) z))])
            refine own_go (fun tz kz => XT.i2l X23.here hx rfl (hb hby at_245) rfl kz) ?_
            show own_Go p.tables e below _ T23 (mkF m 246 #[.val (.long q1), .second, .val (.int p2), .val (.int p3), .val (.int z), .val (.long sd), .second, .val (.ref b1), .val (.ref b2), .val (.int (own_face (own_draw sd 2) z)), .val (.long (own_draw sd 1)), .second, .val (.long (own_draw sd 2)), .second, .unset, .val (.long tg), .second, .val (.long ou), .second] [(.long z.toInt64), (.long (own_draw sd 2)), (.int (own_face (own_draw sd 2) z))])
            refine own_go (fun tz kz => XT.lrem X23.here hx rfl (hb hby at_246) rfl hz0 kz) ?_
            show own_Go p.tables e below _ T23 (mkF m 247 #[.val (.long q1), .second, .val (.int p2), .val (.int p3), .val (.int z), .val (.long sd), .second, .val (.ref b1), .val (.ref b2), .val (.int (own_face (own_draw sd 2) z)), .val (.long (own_draw sd 1)), .second, .val (.long (own_draw sd 2)), .second, .unset, .val (.long tg), .second, .val (.long ou), .second] [(.long ((own_draw sd 2) - ((own_draw sd 2) / z.toInt64) * z.toInt64)), (.int (own_face (own_draw sd 2) z))])
            refine own_go (fun tz kz => XT.l2i X23.here hx rfl (hb hby at_247) rfl kz) ?_
            show own_Go p.tables e below _ T23 (mkF m 248 #[.val (.long q1), .second, .val (.int p2), .val (.int p3), .val (.int z), .val (.long sd), .second, .val (.ref b1), .val (.ref b2), .val (.int (own_face (own_draw sd 2) z)), .val (.long (own_draw sd 1)), .second, .val (.long (own_draw sd 2)), .second, .unset, .val (.long tg), .second, .val (.long ou), .second] [(.int ((own_draw sd 2) - ((own_draw sd 2) / z.toInt64) * z.toInt64).toInt32), (.int (own_face (own_draw sd 2) z))])
            refine own_go (fun tz kz => XS.iconst X23.here hx rfl (hb hby at_248) kz) ?_
            show own_Go p.tables e below _ T23 (mkF m 249 #[.val (.long q1), .second, .val (.int p2), .val (.int p3), .val (.int z), .val (.long sd), .second, .val (.ref b1), .val (.ref b2), .val (.int (own_face (own_draw sd 2) z)), .val (.long (own_draw sd 1)), .second, .val (.long (own_draw sd 2)), .second, .unset, .val (.long tg), .second, .val (.long ou), .second] [(.int (1 : Int32)), (.int ((own_draw sd 2) - ((own_draw sd 2) / z.toInt64) * z.toInt64).toInt32), (.int (own_face (own_draw sd 2) z))])
            refine own_go (fun tz kz => XS.iadd X23.here hx rfl (hb hby at_249) rfl kz) ?_
            show own_Go p.tables e below _ T23 (mkF m 250 #[.val (.long q1), .second, .val (.int p2), .val (.int p3), .val (.int z), .val (.long sd), .second, .val (.ref b1), .val (.ref b2), .val (.int (own_face (own_draw sd 2) z)), .val (.long (own_draw sd 1)), .second, .val (.long (own_draw sd 2)), .second, .unset, .val (.long tg), .second, .val (.long ou), .second] [(.int (((own_draw sd 2) - ((own_draw sd 2) / z.toInt64) * z.toInt64).toInt32 + (1 : Int32))), (.int (own_face (own_draw sd 2) z))])
            show own_Go p.tables e below _ T23 (mkF m 250 #[.val (.long q1), .second, .val (.int p2), .val (.int p3), .val (.int z), .val (.long sd), .second, .val (.ref b1), .val (.ref b2), .val (.int (own_face (own_draw sd 2) z)), .val (.long (own_draw sd 1)), .second, .val (.long (own_draw sd 2)), .second, .unset, .val (.long tg), .second, .val (.long ou), .second] [(.int (own_face (own_draw sd 2) z)), (.int (own_face (own_draw sd 2) z))])
            refine own_go (fun tz kz => XS.icmpNo X23.here hx rfl (hb hby at_250) rfl (XT.ii_ne_f rfl) kz) ?_
            show own_Go p.tables e below _ T23 (mkF m 253 #[.val (.long q1), .second, .val (.int p2), .val (.int p3), .val (.int z), .val (.long sd), .second, .val (.ref b1), .val (.ref b2), .val (.int (own_face (own_draw sd 2) z)), .val (.long (own_draw sd 1)), .second, .val (.long (own_draw sd 2)), .second, .unset, .val (.long tg), .second, .val (.long ou), .second] [])
            refine own_go (fun tz kz => XS.aload X23.here hx rfl (hb hby at_253) rfl rfl kz) ?_
            show own_Go p.tables e below _ T23 (mkF m 255 #[.val (.long q1), .second, .val (.int p2), .val (.int p3), .val (.int z), .val (.long sd), .second, .val (.ref b1), .val (.ref b2), .val (.int (own_face (own_draw sd 2) z)), .val (.long (own_draw sd 1)), .second, .val (.long (own_draw sd 2)), .second, .unset, .val (.long tg), .second, .val (.long ou), .second] [(.ref b1)])
            obtain ⟨cq24, kq24, q24a, q24b, q24c⟩ := isOf hZ e23 Ea5
            obtain ⟨_, _, ⟨T24, L24, k24, n24⟩, -, X24, ⟨Lc24, hQ24, l24, y24, z24⟩, st24⟩ := X23.virtualBack hx (y := (⟨"com/example/gunline/gunline/core/SeededDice", "next", "()J"⟩ : MethodName)) (z := (⟨"com/example/gunline/gunline/core/SeededDice", "next", "()J"⟩ : MethodName)) hown (mvT hZ (hw _ (List.mem_of_getElem? (i := 41) rfl))) (mvT hZ (hw _ (List.mem_of_getElem? (i := 34) rfl))) (notFace_of_selects (args := #[]) (mvT hZ (hw _ (List.mem_of_getElem? (i := 36) rfl)))) (mvT hZ (hw _ (List.mem_of_getElem? (i := 36) rfl))) (mvT hZ (hw _ (List.mem_of_getElem? (i := 35) rfl))) (by decide) (backOf (W := 0) (rm6 l Z a0 hw [] b1 (own_st sd 2) T22.heap n0 (Nat.le_trans (Nat.le_trans (Nat.le_trans (Nat.le_trans (Nat.le_trans (Nat.le_trans (Nat.le_trans Z0 E15.1) K16.1) E17.1) K18.1) K19.1) K20.1) K22.1) Fa5 Ea5 g_b1) hZ (hw _ (List.mem_of_getElem? (i := 37) rfl)) (hw _ (List.mem_of_getElem? (i := 18) rfl)) (by decide) (by decide)) q24a q24c (g := (mkF m 255 #[.val (.long q1), .second, .val (.int p2), .val (.int p3), .val (.int z), .val (.long sd), .second, .val (.ref b1), .val (.ref b2), .val (.int (own_face (own_draw sd 2) z)), .val (.long (own_draw sd 1)), .second, .val (.long (own_draw sd 2)), .second, .unset, .val (.long tg), .second, .val (.long ou), .second] [(.ref b1)])) rfl (by rw [hml]; rfl) (Steps.refl _) (argsL := []) (rest := []) (lenOf pd_1 rfl) rfl (by show 2 * 0 + _ ≤ _; exact Nat.le_of_eq rfl) (hb hby at_255) (fun _ _ => ⟨rfl, e23, (by decide : 2 + 0 ≤ _), (by decide : 2 + 0 ≤ _)⟩)
            dsimp only [Pt.U, Pt.locs, Pt.cells, Pt.slots] at X24 l24 y24 z24 st24 hQ24
            subst l24 y24 z24
            obtain ⟨rfl, N24q, K24, Ea9, Fa9⟩ := hQ24
            have N24 := Fr.app N23 N24q
            refine own_go (fun tz kz => st24.trans kz) ?_
            show own_Go p.tables e below _ T24 (mkF m 258 #[.val (.long q1), .second, .val (.int p2), .val (.int p3), .val (.int z), .val (.long sd), .second, .val (.ref b1), .val (.ref b2), .val (.int (own_face (own_draw sd 2) z)), .val (.long (own_draw sd 1)), .second, .val (.long (own_draw sd 2)), .second, .unset, .val (.long tg), .second, .val (.long ou), .second] [(.long (own_mix (own_st sd 2 + (-7046029254386353131 : Int64))))])
            have Eb9 := Eb4.keep K24
            have Fb9 := Fb4.keep K24 (own_not1 (Ne.symm hne))
            refine own_go (fun tz kz => XS.aload X24.here hx rfl (hb hby at_258) rfl rfl kz) ?_
            show own_Go p.tables e below _ T24 (mkF m 260 #[.val (.long q1), .second, .val (.int p2), .val (.int p3), .val (.int z), .val (.long sd), .second, .val (.ref b1), .val (.ref b2), .val (.int (own_face (own_draw sd 2) z)), .val (.long (own_draw sd 1)), .second, .val (.long (own_draw sd 2)), .second, .unset, .val (.long tg), .second, .val (.long ou), .second] [(.ref b2), (.long (own_mix (own_st sd 2 + (-7046029254386353131 : Int64))))])
            obtain ⟨cq25, kq25, q25a, q25b, q25c⟩ := isOf hZ rfl Eb9
            obtain ⟨_, _, ⟨T25, L25, k25, n25⟩, -, X25, ⟨Lc25, hQ25, l25, y25, z25⟩, st25⟩ := X24.virtualBack hx (y := (⟨"com/example/gunline/gunline/core/SeededDice", "next", "()J"⟩ : MethodName)) (z := (⟨"com/example/gunline/gunline/core/SeededDice", "next", "()J"⟩ : MethodName)) hown (mvT hZ (hw _ (List.mem_of_getElem? (i := 41) rfl))) (mvT hZ (hw _ (List.mem_of_getElem? (i := 34) rfl))) (notFace_of_selects (args := #[]) (mvT hZ (hw _ (List.mem_of_getElem? (i := 36) rfl)))) (mvT hZ (hw _ (List.mem_of_getElem? (i := 36) rfl))) (mvT hZ (hw _ (List.mem_of_getElem? (i := 35) rfl))) (by decide) (backOf (W := 2) (rm6 l Z a0 hw [] b2 (own_st sd 2) T24.heap n0 (Nat.le_trans (Nat.le_trans (Nat.le_trans (Nat.le_trans (Nat.le_trans (Nat.le_trans (Nat.le_trans (Nat.le_trans Z0 E15.1) K16.1) E17.1) K18.1) K19.1) K20.1) K22.1) K24.1) Fb9 Eb9 g_b2) hZ (hw _ (List.mem_of_getElem? (i := 37) rfl)) (hw _ (List.mem_of_getElem? (i := 18) rfl)) (by decide) (by decide)) q25a q25c (g := (mkF m 260 #[.val (.long q1), .second, .val (.int p2), .val (.int p3), .val (.int z), .val (.long sd), .second, .val (.ref b1), .val (.ref b2), .val (.int (own_face (own_draw sd 2) z)), .val (.long (own_draw sd 1)), .second, .val (.long (own_draw sd 2)), .second, .unset, .val (.long tg), .second, .val (.long ou), .second] [(.ref b2), (.long (own_mix (own_st sd 2 + (-7046029254386353131 : Int64))))])) rfl (by rw [hml]; rfl) (Steps.refl _) (argsL := []) (rest := [(.long (own_mix (own_st sd 2 + (-7046029254386353131 : Int64))))]) (lenOf pd_1 rfl) rfl (by show 2 * 0 + _ ≤ _; exact Nat.le_of_eq rfl) (hb hby at_260) (fun _ _ => ⟨rfl, rfl, (by decide : 2 + 0 ≤ _), (by decide : 2 + 0 ≤ _)⟩)
            dsimp only [Pt.U, Pt.locs, Pt.cells, Pt.slots] at X25 l25 y25 z25 st25 hQ25
            subst l25 y25 z25
            obtain ⟨rfl, N25q, K25, Eb8, Fb8⟩ := hQ25
            have N25 := Fr.app N24 N25q
            refine own_go (fun tz kz => st25.trans kz) ?_
            show own_Go p.tables e below _ T25 (mkF m 263 #[.val (.long q1), .second, .val (.int p2), .val (.int p3), .val (.int z), .val (.long sd), .second, .val (.ref b1), .val (.ref b2), .val (.int (own_face (own_draw sd 2) z)), .val (.long (own_draw sd 1)), .second, .val (.long (own_draw sd 2)), .second, .unset, .val (.long tg), .second, .val (.long ou), .second] [(.long (own_mix (own_st sd 2 + (-7046029254386353131 : Int64)))), (.long (own_mix (own_st sd 2 + (-7046029254386353131 : Int64))))])
            refine own_go (fun tz kz => XT.lcmp X25.here hx rfl (hb hby at_263) rfl kz) ?_
            show own_Go p.tables e below _ T25 (mkF m 264 #[.val (.long q1), .second, .val (.int p2), .val (.int p3), .val (.int z), .val (.long sd), .second, .val (.ref b1), .val (.ref b2), .val (.int (own_face (own_draw sd 2) z)), .val (.long (own_draw sd 1)), .second, .val (.long (own_draw sd 2)), .second, .unset, .val (.long tg), .second, .val (.long ou), .second] [(.int (XT.cmpL (own_mix (own_st sd 2 + (-7046029254386353131 : Int64))) (own_mix (own_st sd 2 + (-7046029254386353131 : Int64)))))])
            refine own_go (fun tz kz => XS.ifNo X25.here hx rfl (hb hby at_264) rfl (XT.ll_ne_f rfl) kz) ?_
            show own_Go p.tables e below _ T25 (mkF m 267 #[.val (.long q1), .second, .val (.int p2), .val (.int p3), .val (.int z), .val (.long sd), .second, .val (.ref b1), .val (.ref b2), .val (.int (own_face (own_draw sd 2) z)), .val (.long (own_draw sd 1)), .second, .val (.long (own_draw sd 2)), .second, .unset, .val (.long tg), .second, .val (.long ou), .second] [])
            refine own_go (fun tz kz => XS.iconst X25.here hx rfl (hb hby at_267) kz) ?_
            show own_Go p.tables e below _ T25 (mkF m 268 #[.val (.long q1), .second, .val (.int p2), .val (.int p3), .val (.int z), .val (.long sd), .second, .val (.ref b1), .val (.ref b2), .val (.int (own_face (own_draw sd 2) z)), .val (.long (own_draw sd 1)), .second, .val (.long (own_draw sd 2)), .second, .unset, .val (.long tg), .second, .val (.long ou), .second] [(.int (1 : Int32))])
            refine own_go (fun tz kz => XS.goto X25.here hx rfl (pc0 := 268) (pc' := 272) rfl (hb hby at_268) (by decide) (by decide) kz) ?_
            show own_Go p.tables e below _ T25 (mkF m 272 #[.val (.long q1), .second, .val (.int p2), .val (.int p3), .val (.int z), .val (.long sd), .second, .val (.ref b1), .val (.ref b2), .val (.int (own_face (own_draw sd 2) z)), .val (.long (own_draw sd 1)), .second, .val (.long (own_draw sd 2)), .second, .unset, .val (.long tg), .second, .val (.long ou), .second] [(.int (1 : Int32))])
            obtain ⟨fs, hr, hrun, hended, hW, hsame⟩ := X25.leave (v := some (.int (1 : Int32))) (fun h => by rw [Bd.returns] at h; cases h) (BodyLoose.notSynchronized Bd)
            refine ⟨_, _, ?_, hrun, hended, _, _, rfl, ?_, ⟨_, rfl⟩, hW, hsame.mono (by decide) (by decide)⟩
            · exact retN X25 hx (t := .boolean) Bd.returns (by simp) (hb hby at_272) hr
            · show Q0 Z q1 p2 p3 h0 n0 _ T25.heap _
              exact ⟨rfl, N25⟩
        ·
          refine own_go (fun tz kz => XS.ifNo X21.here hx rfl (hb hby at_183) rfl (XT.i0_eq_f hA) kz) ?_
          show own_Go p.tables e below _ T21 (mkF m 186 #[.val (.long q1), .second, .val (.int p2), .val (.int p3), .val (.int z), .val (.long sd), .second, .val (.ref b1), .val (.ref b2), .val (.int (own_face (own_draw sd Kk) z)), .val (.long (own_draw sd 1)), .second, .unset, .val (.long ((q1 &&& (15 : Int64)) - (8 : Int64))), .second, .val (.long tg), .second, .val (.long ou), .second] [])
          obtain rfl : Kk = 1 := own_K1 hz hKa hm hA
          show own_Go p.tables e below _ T21 (mkF m 186 #[.val (.long q1), .second, .val (.int p2), .val (.int p3), .val (.int z), .val (.long sd), .second, .val (.ref b1), .val (.ref b2), .val (.int (own_face (own_draw sd 1) z)), .val (.long (own_draw sd 1)), .second, .unset, .val (.long ((q1 &&& (15 : Int64)) - (8 : Int64))), .second, .val (.long tg), .second, .val (.long ou), .second] [])
          refine own_go (fun tz kz => XS.iload X21.here hx rfl (hb hby at_186) rfl kz) ?_
          show own_Go p.tables e below _ T21 (mkF m 188 #[.val (.long q1), .second, .val (.int p2), .val (.int p3), .val (.int z), .val (.long sd), .second, .val (.ref b1), .val (.ref b2), .val (.int (own_face (own_draw sd 1) z)), .val (.long (own_draw sd 1)), .second, .unset, .val (.long ((q1 &&& (15 : Int64)) - (8 : Int64))), .second, .val (.long tg), .second, .val (.long ou), .second] [(.int (own_face (own_draw sd 1) z))])
          refine own_go (fun tz kz => XT.lload X21.here hx rfl (hb hby at_188) rfl kz) ?_
          show own_Go p.tables e below _ T21 (mkF m 190 #[.val (.long q1), .second, .val (.int p2), .val (.int p3), .val (.int z), .val (.long sd), .second, .val (.ref b1), .val (.ref b2), .val (.int (own_face (own_draw sd 1) z)), .val (.long (own_draw sd 1)), .second, .unset, .val (.long ((q1 &&& (15 : Int64)) - (8 : Int64))), .second, .val (.long tg), .second, .val (.long ou), .second] [(.long (own_draw sd 1)), (.int (own_face (own_draw sd 1) z))])
          refine own_go (fun tz kz => XS.iload X21.here hx rfl (hb hby at_190) rfl kz) ?_
          show own_Go p.tables e below _ T21 (mkF m 192 #[.val (.long q1), .second, .val (.int p2), .val (.int p3), .val (.int z), .val (.long sd), .second, .val (.ref b1), .val (.ref b2), .val (.int (own_face (own_draw sd 1) z)), .val (.long (own_draw sd 1)), .second, .unset, .val (.long ((q1 &&& (15 : Int64)) - (8 : Int64))), .second, .val (.long tg), .second, .val (.long ou), .second] [(.int z), (.long (own_draw sd 1)), (.int (own_face (own_draw sd 1) z))])
          refine own_go (fun tz kz => XT.i2l X21.here hx rfl (hb hby at_192) rfl kz) ?_
          show own_Go p.tables e below _ T21 (mkF m 193 #[.val (.long q1), .second, .val (.int p2), .val (.int p3), .val (.int z), .val (.long sd), .second, .val (.ref b1), .val (.ref b2), .val (.int (own_face (own_draw sd 1) z)), .val (.long (own_draw sd 1)), .second, .unset, .val (.long ((q1 &&& (15 : Int64)) - (8 : Int64))), .second, .val (.long tg), .second, .val (.long ou), .second] [(.long z.toInt64), (.long (own_draw sd 1)), (.int (own_face (own_draw sd 1) z))])
          refine own_go (fun tz kz => XT.lrem X21.here hx rfl (hb hby at_193) rfl hz0 kz) ?_
          show own_Go p.tables e below _ T21 (mkF m 194 #[.val (.long q1), .second, .val (.int p2), .val (.int p3), .val (.int z), .val (.long sd), .second, .val (.ref b1), .val (.ref b2), .val (.int (own_face (own_draw sd 1) z)), .val (.long (own_draw sd 1)), .second, .unset, .val (.long ((q1 &&& (15 : Int64)) - (8 : Int64))), .second, .val (.long tg), .second, .val (.long ou), .second] [(.long ((own_draw sd 1) - ((own_draw sd 1) / z.toInt64) * z.toInt64)), (.int (own_face (own_draw sd 1) z))])
          refine own_go (fun tz kz => XT.l2i X21.here hx rfl (hb hby at_194) rfl kz) ?_
          show own_Go p.tables e below _ T21 (mkF m 195 #[.val (.long q1), .second, .val (.int p2), .val (.int p3), .val (.int z), .val (.long sd), .second, .val (.ref b1), .val (.ref b2), .val (.int (own_face (own_draw sd 1) z)), .val (.long (own_draw sd 1)), .second, .unset, .val (.long ((q1 &&& (15 : Int64)) - (8 : Int64))), .second, .val (.long tg), .second, .val (.long ou), .second] [(.int ((own_draw sd 1) - ((own_draw sd 1) / z.toInt64) * z.toInt64).toInt32), (.int (own_face (own_draw sd 1) z))])
          refine own_go (fun tz kz => XS.iconst X21.here hx rfl (hb hby at_195) kz) ?_
          show own_Go p.tables e below _ T21 (mkF m 196 #[.val (.long q1), .second, .val (.int p2), .val (.int p3), .val (.int z), .val (.long sd), .second, .val (.ref b1), .val (.ref b2), .val (.int (own_face (own_draw sd 1) z)), .val (.long (own_draw sd 1)), .second, .unset, .val (.long ((q1 &&& (15 : Int64)) - (8 : Int64))), .second, .val (.long tg), .second, .val (.long ou), .second] [(.int (1 : Int32)), (.int ((own_draw sd 1) - ((own_draw sd 1) / z.toInt64) * z.toInt64).toInt32), (.int (own_face (own_draw sd 1) z))])
          refine own_go (fun tz kz => XS.iadd X21.here hx rfl (hb hby at_196) rfl kz) ?_
          show own_Go p.tables e below _ T21 (mkF m 197 #[.val (.long q1), .second, .val (.int p2), .val (.int p3), .val (.int z), .val (.long sd), .second, .val (.ref b1), .val (.ref b2), .val (.int (own_face (own_draw sd 1) z)), .val (.long (own_draw sd 1)), .second, .unset, .val (.long ((q1 &&& (15 : Int64)) - (8 : Int64))), .second, .val (.long tg), .second, .val (.long ou), .second] [(.int (((own_draw sd 1) - ((own_draw sd 1) / z.toInt64) * z.toInt64).toInt32 + (1 : Int32))), (.int (own_face (own_draw sd 1) z))])
          show own_Go p.tables e below _ T21 (mkF m 197 #[.val (.long q1), .second, .val (.int p2), .val (.int p3), .val (.int z), .val (.long sd), .second, .val (.ref b1), .val (.ref b2), .val (.int (own_face (own_draw sd 1) z)), .val (.long (own_draw sd 1)), .second, .unset, .val (.long ((q1 &&& (15 : Int64)) - (8 : Int64))), .second, .val (.long tg), .second, .val (.long ou), .second] [(.int (own_face (own_draw sd 1) z)), (.int (own_face (own_draw sd 1) z))])
          refine own_go (fun tz kz => XS.icmpNo X21.here hx rfl (hb hby at_197) rfl (XT.ii_ne_f rfl) kz) ?_
          show own_Go p.tables e below _ T21 (mkF m 200 #[.val (.long q1), .second, .val (.int p2), .val (.int p3), .val (.int z), .val (.long sd), .second, .val (.ref b1), .val (.ref b2), .val (.int (own_face (own_draw sd 1) z)), .val (.long (own_draw sd 1)), .second, .unset, .val (.long ((q1 &&& (15 : Int64)) - (8 : Int64))), .second, .val (.long tg), .second, .val (.long ou), .second] [])
          refine own_go (fun tz kz => XS.aload X21.here hx rfl (hb hby at_200) rfl rfl kz) ?_
          show own_Go p.tables e below _ T21 (mkF m 202 #[.val (.long q1), .second, .val (.int p2), .val (.int p3), .val (.int z), .val (.long sd), .second, .val (.ref b1), .val (.ref b2), .val (.int (own_face (own_draw sd 1) z)), .val (.long (own_draw sd 1)), .second, .unset, .val (.long ((q1 &&& (15 : Int64)) - (8 : Int64))), .second, .val (.long tg), .second, .val (.long ou), .second] [(.ref b1)])
          obtain ⟨cq26, kq26, q26a, q26b, q26c⟩ := isOf hZ e21 Ea4
          obtain ⟨_, _, ⟨T26, L26, k26, n26⟩, -, X26, ⟨Lc26, hQ26, l26, y26, z26⟩, st26⟩ := X21.virtualBack hx (y := (⟨"com/example/gunline/gunline/core/SeededDice", "next", "()J"⟩ : MethodName)) (z := (⟨"com/example/gunline/gunline/core/SeededDice", "next", "()J"⟩ : MethodName)) hown (mvT hZ (hw _ (List.mem_of_getElem? (i := 41) rfl))) (mvT hZ (hw _ (List.mem_of_getElem? (i := 34) rfl))) (notFace_of_selects (args := #[]) (mvT hZ (hw _ (List.mem_of_getElem? (i := 36) rfl)))) (mvT hZ (hw _ (List.mem_of_getElem? (i := 36) rfl))) (mvT hZ (hw _ (List.mem_of_getElem? (i := 35) rfl))) (by decide) (backOf (W := 0) (rm6 l Z a0 hw [] b1 (own_st sd 1) T20.heap n0 (Nat.le_trans (Nat.le_trans (Nat.le_trans (Nat.le_trans (Nat.le_trans (Nat.le_trans Z0 E15.1) K16.1) E17.1) K18.1) K19.1) K20.1) Fa4 Ea4 g_b1) hZ (hw _ (List.mem_of_getElem? (i := 37) rfl)) (hw _ (List.mem_of_getElem? (i := 18) rfl)) (by decide) (by decide)) q26a q26c (g := (mkF m 202 #[.val (.long q1), .second, .val (.int p2), .val (.int p3), .val (.int z), .val (.long sd), .second, .val (.ref b1), .val (.ref b2), .val (.int (own_face (own_draw sd 1) z)), .val (.long (own_draw sd 1)), .second, .unset, .val (.long ((q1 &&& (15 : Int64)) - (8 : Int64))), .second, .val (.long tg), .second, .val (.long ou), .second] [(.ref b1)])) rfl (by rw [hml]; rfl) (Steps.refl _) (argsL := []) (rest := []) (lenOf pd_1 rfl) rfl (by show 2 * 0 + _ ≤ _; exact Nat.le_of_eq rfl) (hb hby at_202) (fun _ _ => ⟨rfl, e21, (by decide : 2 + 0 ≤ _), (by decide : 2 + 0 ≤ _)⟩)
          dsimp only [Pt.U, Pt.locs, Pt.cells, Pt.slots] at X26 l26 y26 z26 st26 hQ26
          subst l26 y26 z26
          obtain ⟨rfl, N26q, K26, Ea9, Fa9⟩ := hQ26
          have N26 := Fr.app N21 N26q
          refine own_go (fun tz kz => st26.trans kz) ?_
          show own_Go p.tables e below _ T26 (mkF m 205 #[.val (.long q1), .second, .val (.int p2), .val (.int p3), .val (.int z), .val (.long sd), .second, .val (.ref b1), .val (.ref b2), .val (.int (own_face (own_draw sd 1) z)), .val (.long (own_draw sd 1)), .second, .unset, .val (.long ((q1 &&& (15 : Int64)) - (8 : Int64))), .second, .val (.long tg), .second, .val (.long ou), .second] [(.long (own_mix (own_st sd 1 + (-7046029254386353131 : Int64))))])
          have Eb9 := Eb3.keep K26
          have Fb9 := Fb3.keep K26 (own_not1 (Ne.symm hne))
          refine own_go (fun tz kz => XS.aload X26.here hx rfl (hb hby at_205) rfl rfl kz) ?_
          show own_Go p.tables e below _ T26 (mkF m 207 #[.val (.long q1), .second, .val (.int p2), .val (.int p3), .val (.int z), .val (.long sd), .second, .val (.ref b1), .val (.ref b2), .val (.int (own_face (own_draw sd 1) z)), .val (.long (own_draw sd 1)), .second, .unset, .val (.long ((q1 &&& (15 : Int64)) - (8 : Int64))), .second, .val (.long tg), .second, .val (.long ou), .second] [(.ref b2), (.long (own_mix (own_st sd 1 + (-7046029254386353131 : Int64))))])
          obtain ⟨cq27, kq27, q27a, q27b, q27c⟩ := isOf hZ rfl Eb9
          obtain ⟨_, _, ⟨T27, L27, k27, n27⟩, -, X27, ⟨Lc27, hQ27, l27, y27, z27⟩, st27⟩ := X26.virtualBack hx (y := (⟨"com/example/gunline/gunline/core/SeededDice", "next", "()J"⟩ : MethodName)) (z := (⟨"com/example/gunline/gunline/core/SeededDice", "next", "()J"⟩ : MethodName)) hown (mvT hZ (hw _ (List.mem_of_getElem? (i := 41) rfl))) (mvT hZ (hw _ (List.mem_of_getElem? (i := 34) rfl))) (notFace_of_selects (args := #[]) (mvT hZ (hw _ (List.mem_of_getElem? (i := 36) rfl)))) (mvT hZ (hw _ (List.mem_of_getElem? (i := 36) rfl))) (mvT hZ (hw _ (List.mem_of_getElem? (i := 35) rfl))) (by decide) (backOf (W := 2) (rm6 l Z a0 hw [] b2 (own_st sd 1) T26.heap n0 (Nat.le_trans (Nat.le_trans (Nat.le_trans (Nat.le_trans (Nat.le_trans (Nat.le_trans (Nat.le_trans Z0 E15.1) K16.1) E17.1) K18.1) K19.1) K20.1) K26.1) Fb9 Eb9 g_b2) hZ (hw _ (List.mem_of_getElem? (i := 37) rfl)) (hw _ (List.mem_of_getElem? (i := 18) rfl)) (by decide) (by decide)) q27a q27c (g := (mkF m 207 #[.val (.long q1), .second, .val (.int p2), .val (.int p3), .val (.int z), .val (.long sd), .second, .val (.ref b1), .val (.ref b2), .val (.int (own_face (own_draw sd 1) z)), .val (.long (own_draw sd 1)), .second, .unset, .val (.long ((q1 &&& (15 : Int64)) - (8 : Int64))), .second, .val (.long tg), .second, .val (.long ou), .second] [(.ref b2), (.long (own_mix (own_st sd 1 + (-7046029254386353131 : Int64))))])) rfl (by rw [hml]; rfl) (Steps.refl _) (argsL := []) (rest := [(.long (own_mix (own_st sd 1 + (-7046029254386353131 : Int64))))]) (lenOf pd_1 rfl) rfl (by show 2 * 0 + _ ≤ _; exact Nat.le_of_eq rfl) (hb hby at_207) (fun _ _ => ⟨rfl, rfl, (by decide : 2 + 0 ≤ _), (by decide : 2 + 0 ≤ _)⟩)
          dsimp only [Pt.U, Pt.locs, Pt.cells, Pt.slots] at X27 l27 y27 z27 st27 hQ27
          subst l27 y27 z27
          obtain ⟨rfl, N27q, K27, Eb8, Fb8⟩ := hQ27
          have N27 := Fr.app N26 N27q
          refine own_go (fun tz kz => st27.trans kz) ?_
          show own_Go p.tables e below _ T27 (mkF m 210 #[.val (.long q1), .second, .val (.int p2), .val (.int p3), .val (.int z), .val (.long sd), .second, .val (.ref b1), .val (.ref b2), .val (.int (own_face (own_draw sd 1) z)), .val (.long (own_draw sd 1)), .second, .unset, .val (.long ((q1 &&& (15 : Int64)) - (8 : Int64))), .second, .val (.long tg), .second, .val (.long ou), .second] [(.long (own_mix (own_st sd 1 + (-7046029254386353131 : Int64)))), (.long (own_mix (own_st sd 1 + (-7046029254386353131 : Int64))))])
          refine own_go (fun tz kz => XT.lcmp X27.here hx rfl (hb hby at_210) rfl kz) ?_
          show own_Go p.tables e below _ T27 (mkF m 211 #[.val (.long q1), .second, .val (.int p2), .val (.int p3), .val (.int z), .val (.long sd), .second, .val (.ref b1), .val (.ref b2), .val (.int (own_face (own_draw sd 1) z)), .val (.long (own_draw sd 1)), .second, .unset, .val (.long ((q1 &&& (15 : Int64)) - (8 : Int64))), .second, .val (.long tg), .second, .val (.long ou), .second] [(.int (XT.cmpL (own_mix (own_st sd 1 + (-7046029254386353131 : Int64))) (own_mix (own_st sd 1 + (-7046029254386353131 : Int64)))))])
          refine own_go (fun tz kz => XS.ifNo X27.here hx rfl (hb hby at_211) rfl (XT.ll_ne_f rfl) kz) ?_
          show own_Go p.tables e below _ T27 (mkF m 214 #[.val (.long q1), .second, .val (.int p2), .val (.int p3), .val (.int z), .val (.long sd), .second, .val (.ref b1), .val (.ref b2), .val (.int (own_face (own_draw sd 1) z)), .val (.long (own_draw sd 1)), .second, .unset, .val (.long ((q1 &&& (15 : Int64)) - (8 : Int64))), .second, .val (.long tg), .second, .val (.long ou), .second] [])
          refine own_go (fun tz kz => XS.iconst X27.here hx rfl (hb hby at_214) kz) ?_
          show own_Go p.tables e below _ T27 (mkF m 215 #[.val (.long q1), .second, .val (.int p2), .val (.int p3), .val (.int z), .val (.long sd), .second, .val (.ref b1), .val (.ref b2), .val (.int (own_face (own_draw sd 1) z)), .val (.long (own_draw sd 1)), .second, .unset, .val (.long ((q1 &&& (15 : Int64)) - (8 : Int64))), .second, .val (.long tg), .second, .val (.long ou), .second] [(.int (1 : Int32))])
          refine own_go (fun tz kz => XS.goto X27.here hx rfl (pc0 := 215) (pc' := 219) rfl (hb hby at_215) (by decide) (by decide) kz) ?_
          show own_Go p.tables e below _ T27 (mkF m 219 #[.val (.long q1), .second, .val (.int p2), .val (.int p3), .val (.int z), .val (.long sd), .second, .val (.ref b1), .val (.ref b2), .val (.int (own_face (own_draw sd 1) z)), .val (.long (own_draw sd 1)), .second, .unset, .val (.long ((q1 &&& (15 : Int64)) - (8 : Int64))), .second, .val (.long tg), .second, .val (.long ou), .second] [(.int (1 : Int32))])
          obtain ⟨fs, hr, hrun, hended, hW, hsame⟩ := X27.leave (v := some (.int (1 : Int32))) (fun h => by rw [Bd.returns] at h; cases h) (BodyLoose.notSynchronized Bd)
          refine ⟨_, _, ?_, hrun, hended, _, _, rfl, ?_, ⟨_, rfl⟩, hW, hsame.mono (by decide) (by decide)⟩
          · exact retN X27 hx (t := .boolean) Bd.returns (by simp) (hb hby at_219) hr
          · show Q0 Z q1 p2 p3 h0 n0 _ T27.heap _
            exact ⟨rfl, N27⟩
      by_cases hd : ((q1 &&& (15 : Int64)) - (8 : Int64)) < (0 : Int64)
      ·
        refine own_go (fun tz kz => XS.ifYes X0.here hx rfl (pc0 := 78) (pc' := 109) rfl (hb hby at_78) rfl (XT.ll_lt_t hd) (by decide) (by decide) kz) ?_
        show own_Go p.tables e below _ s₁ (mkF m 109 #[.val (.long q1), .second, .val (.int p2), .val (.int p3), .val (.int z), .val (.long q1), .second, .val (.long ((9223372036854775807 : Int64) / z.toInt64)), .second, .val (.long ((9223372036854775807 : Int64) - ((9223372036854775807 : Int64) / z.toInt64) * z.toInt64)), .second, .val (.long ba), .second, .val (.long ((q1 &&& (15 : Int64)) - (8 : Int64))), .second, .unset, .unset, .unset, .unset] [])
        refine own_go (fun tz kz => XT.lload X0.here hx rfl (hb hby at_109) rfl kz) ?_
        show own_Go p.tables e below _ s₁ (mkF m 111 #[.val (.long q1), .second, .val (.int p2), .val (.int p3), .val (.int z), .val (.long q1), .second, .val (.long ((9223372036854775807 : Int64) / z.toInt64)), .second, .val (.long ((9223372036854775807 : Int64) - ((9223372036854775807 : Int64) / z.toInt64) * z.toInt64)), .second, .val (.long ba), .second, .val (.long ((q1 &&& (15 : Int64)) - (8 : Int64))), .second, .unset, .unset, .unset, .unset] [(.long ba)])
        refine own_go (fun tz kz => XT.lload X0.here hx rfl (hb hby at_111) rfl kz) ?_
        show own_Go p.tables e below _ s₁ (mkF m 113 #[.val (.long q1), .second, .val (.int p2), .val (.int p3), .val (.int z), .val (.long q1), .second, .val (.long ((9223372036854775807 : Int64) / z.toInt64)), .second, .val (.long ((9223372036854775807 : Int64) - ((9223372036854775807 : Int64) / z.toInt64) * z.toInt64)), .second, .val (.long ba), .second, .val (.long ((q1 &&& (15 : Int64)) - (8 : Int64))), .second, .unset, .unset, .unset, .unset] [(.long ((q1 &&& (15 : Int64)) - (8 : Int64))), (.long ba)])
        refine own_go (fun tz kz => XT.ladd X0.here hx rfl (hb hby at_113) rfl kz) ?_
        show own_Go p.tables e below _ s₁ (mkF m 114 #[.val (.long q1), .second, .val (.int p2), .val (.int p3), .val (.int z), .val (.long q1), .second, .val (.long ((9223372036854775807 : Int64) / z.toInt64)), .second, .val (.long ((9223372036854775807 : Int64) - ((9223372036854775807 : Int64) / z.toInt64) * z.toInt64)), .second, .val (.long ba), .second, .val (.long ((q1 &&& (15 : Int64)) - (8 : Int64))), .second, .unset, .unset, .unset, .unset] [(.long (ba + ((q1 &&& (15 : Int64)) - (8 : Int64))))])
        refine own_go (fun tz kz => XT.lstore X0.here hx rfl (hb hby at_114) rfl (l' := #[.val (.long q1), .second, .val (.int p2), .val (.int p3), .val (.int z), .val (.long q1), .second, .val (.long ((9223372036854775807 : Int64) / z.toInt64)), .second, .val (.long ((9223372036854775807 : Int64) - ((9223372036854775807 : Int64) / z.toInt64) * z.toInt64)), .second, .val (.long ba), .second, .val (.long ((q1 &&& (15 : Int64)) - (8 : Int64))), .second, .val (.long (ba + ((q1 &&& (15 : Int64)) - (8 : Int64)))), .second, .unset, .unset]) rfl kz) ?_
        show own_Go p.tables e below _ s₁ (mkF m 116 #[.val (.long q1), .second, .val (.int p2), .val (.int p3), .val (.int z), .val (.long q1), .second, .val (.long ((9223372036854775807 : Int64) / z.toInt64)), .second, .val (.long ((9223372036854775807 : Int64) - ((9223372036854775807 : Int64) / z.toInt64) * z.toInt64)), .second, .val (.long ba), .second, .val (.long ((q1 &&& (15 : Int64)) - (8 : Int64))), .second, .val (.long (ba + ((q1 &&& (15 : Int64)) - (8 : Int64)))), .second, .unset, .unset] [])
        exact J116 _
      ·
        refine own_go (fun tz kz => XS.ifNo X0.here hx rfl (hb hby at_78) rfl (XT.ll_lt_f hd) kz) ?_
        show own_Go p.tables e below _ s₁ (mkF m 81 #[.val (.long q1), .second, .val (.int p2), .val (.int p3), .val (.int z), .val (.long q1), .second, .val (.long ((9223372036854775807 : Int64) / z.toInt64)), .second, .val (.long ((9223372036854775807 : Int64) - ((9223372036854775807 : Int64) / z.toInt64) * z.toInt64)), .second, .val (.long ba), .second, .val (.long ((q1 &&& (15 : Int64)) - (8 : Int64))), .second, .unset, .unset, .unset, .unset] [])
        refine own_go (fun tz kz => XT.lload X0.here hx rfl (hb hby at_81) rfl kz) ?_
        show own_Go p.tables e below _ s₁ (mkF m 83 #[.val (.long q1), .second, .val (.int p2), .val (.int p3), .val (.int z), .val (.long q1), .second, .val (.long ((9223372036854775807 : Int64) / z.toInt64)), .second, .val (.long ((9223372036854775807 : Int64) - ((9223372036854775807 : Int64) / z.toInt64) * z.toInt64)), .second, .val (.long ba), .second, .val (.long ((q1 &&& (15 : Int64)) - (8 : Int64))), .second, .unset, .unset, .unset, .unset] [(.long ba)])
        refine own_go (fun tz kz => X0.ldc2J hx hown (mvT hZ (hw _ (List.mem_of_getElem? (i := 2) rfl))) rfl (hb hby at_83) kz) ?_
        show own_Go p.tables e below _ s₁ (mkF m 86 #[.val (.long q1), .second, .val (.int p2), .val (.int p3), .val (.int z), .val (.long q1), .second, .val (.long ((9223372036854775807 : Int64) / z.toInt64)), .second, .val (.long ((9223372036854775807 : Int64) - ((9223372036854775807 : Int64) / z.toInt64) * z.toInt64)), .second, .val (.long ba), .second, .val (.long ((q1 &&& (15 : Int64)) - (8 : Int64))), .second, .unset, .unset, .unset, .unset] [(.long (9223372036854775807 : Int64)), (.long ba)])
        refine own_go (fun tz kz => XT.lload X0.here hx rfl (hb hby at_86) rfl kz) ?_
        show own_Go p.tables e below _ s₁ (mkF m 88 #[.val (.long q1), .second, .val (.int p2), .val (.int p3), .val (.int z), .val (.long q1), .second, .val (.long ((9223372036854775807 : Int64) / z.toInt64)), .second, .val (.long ((9223372036854775807 : Int64) - ((9223372036854775807 : Int64) / z.toInt64) * z.toInt64)), .second, .val (.long ba), .second, .val (.long ((q1 &&& (15 : Int64)) - (8 : Int64))), .second, .unset, .unset, .unset, .unset] [(.long ((q1 &&& (15 : Int64)) - (8 : Int64))), (.long (9223372036854775807 : Int64)), (.long ba)])
        refine own_go (fun tz kz => XT.lsub X0.here hx rfl (hb hby at_88) rfl kz) ?_
        show own_Go p.tables e below _ s₁ (mkF m 89 #[.val (.long q1), .second, .val (.int p2), .val (.int p3), .val (.int z), .val (.long q1), .second, .val (.long ((9223372036854775807 : Int64) / z.toInt64)), .second, .val (.long ((9223372036854775807 : Int64) - ((9223372036854775807 : Int64) / z.toInt64) * z.toInt64)), .second, .val (.long ba), .second, .val (.long ((q1 &&& (15 : Int64)) - (8 : Int64))), .second, .unset, .unset, .unset, .unset] [(.long ((9223372036854775807 : Int64) - ((q1 &&& (15 : Int64)) - (8 : Int64)))), (.long ba)])
        refine own_go (fun tz kz => XT.lcmp X0.here hx rfl (hb hby at_89) rfl kz) ?_
        show own_Go p.tables e below _ s₁ (mkF m 90 #[.val (.long q1), .second, .val (.int p2), .val (.int p3), .val (.int z), .val (.long q1), .second, .val (.long ((9223372036854775807 : Int64) / z.toInt64)), .second, .val (.long ((9223372036854775807 : Int64) - ((9223372036854775807 : Int64) / z.toInt64) * z.toInt64)), .second, .val (.long ba), .second, .val (.long ((q1 &&& (15 : Int64)) - (8 : Int64))), .second, .unset, .unset, .unset, .unset] [(.int (XT.cmpL ba ((9223372036854775807 : Int64) - ((q1 &&& (15 : Int64)) - (8 : Int64)))))])
        by_cases ht : ((9223372036854775807 : Int64) - ((q1 &&& (15 : Int64)) - (8 : Int64))) < ba
        ·
          refine own_go (fun tz kz => XS.ifNo X0.here hx rfl (hb hby at_90) rfl (XT.ll_le_f ht) kz) ?_
          show own_Go p.tables e below _ s₁ (mkF m 93 #[.val (.long q1), .second, .val (.int p2), .val (.int p3), .val (.int z), .val (.long q1), .second, .val (.long ((9223372036854775807 : Int64) / z.toInt64)), .second, .val (.long ((9223372036854775807 : Int64) - ((9223372036854775807 : Int64) / z.toInt64) * z.toInt64)), .second, .val (.long ba), .second, .val (.long ((q1 &&& (15 : Int64)) - (8 : Int64))), .second, .unset, .unset, .unset, .unset] [])
          refine own_go (fun tz kz => X0.ldc2J hx hown (mvT hZ (hw _ (List.mem_of_getElem? (i := 2) rfl))) rfl (hb hby at_93) kz) ?_
          show own_Go p.tables e below _ s₁ (mkF m 96 #[.val (.long q1), .second, .val (.int p2), .val (.int p3), .val (.int z), .val (.long q1), .second, .val (.long ((9223372036854775807 : Int64) / z.toInt64)), .second, .val (.long ((9223372036854775807 : Int64) - ((9223372036854775807 : Int64) / z.toInt64) * z.toInt64)), .second, .val (.long ba), .second, .val (.long ((q1 &&& (15 : Int64)) - (8 : Int64))), .second, .unset, .unset, .unset, .unset] [(.long (9223372036854775807 : Int64))])
          refine own_go (fun tz kz => XS.goto X0.here hx rfl (pc0 := 96) (pc' := 104) rfl (hb hby at_96) (by decide) (by decide) kz) ?_
          show own_Go p.tables e below _ s₁ (mkF m 104 #[.val (.long q1), .second, .val (.int p2), .val (.int p3), .val (.int z), .val (.long q1), .second, .val (.long ((9223372036854775807 : Int64) / z.toInt64)), .second, .val (.long ((9223372036854775807 : Int64) - ((9223372036854775807 : Int64) / z.toInt64) * z.toInt64)), .second, .val (.long ba), .second, .val (.long ((q1 &&& (15 : Int64)) - (8 : Int64))), .second, .unset, .unset, .unset, .unset] [(.long (9223372036854775807 : Int64))])
          refine own_go (fun tz kz => XT.lstore X0.here hx rfl (hb hby at_104) rfl (l' := #[.val (.long q1), .second, .val (.int p2), .val (.int p3), .val (.int z), .val (.long q1), .second, .val (.long ((9223372036854775807 : Int64) / z.toInt64)), .second, .val (.long ((9223372036854775807 : Int64) - ((9223372036854775807 : Int64) / z.toInt64) * z.toInt64)), .second, .val (.long ba), .second, .val (.long ((q1 &&& (15 : Int64)) - (8 : Int64))), .second, .val (.long (9223372036854775807 : Int64)), .second, .unset, .unset]) rfl kz) ?_
          show own_Go p.tables e below _ s₁ (mkF m 106 #[.val (.long q1), .second, .val (.int p2), .val (.int p3), .val (.int z), .val (.long q1), .second, .val (.long ((9223372036854775807 : Int64) / z.toInt64)), .second, .val (.long ((9223372036854775807 : Int64) - ((9223372036854775807 : Int64) / z.toInt64) * z.toInt64)), .second, .val (.long ba), .second, .val (.long ((q1 &&& (15 : Int64)) - (8 : Int64))), .second, .val (.long (9223372036854775807 : Int64)), .second, .unset, .unset] [])
          refine own_go (fun tz kz => XS.goto X0.here hx rfl (pc0 := 106) (pc' := 116) rfl (hb hby at_106) (by decide) (by decide) kz) ?_
          show own_Go p.tables e below _ s₁ (mkF m 116 #[.val (.long q1), .second, .val (.int p2), .val (.int p3), .val (.int z), .val (.long q1), .second, .val (.long ((9223372036854775807 : Int64) / z.toInt64)), .second, .val (.long ((9223372036854775807 : Int64) - ((9223372036854775807 : Int64) / z.toInt64) * z.toInt64)), .second, .val (.long ba), .second, .val (.long ((q1 &&& (15 : Int64)) - (8 : Int64))), .second, .val (.long (9223372036854775807 : Int64)), .second, .unset, .unset] [])
          exact J116 _
        ·
          refine own_go (fun tz kz => XS.ifYes X0.here hx rfl (pc0 := 90) (pc' := 99) rfl (hb hby at_90) rfl (XT.ll_le_t ht) (by decide) (by decide) kz) ?_
          show own_Go p.tables e below _ s₁ (mkF m 99 #[.val (.long q1), .second, .val (.int p2), .val (.int p3), .val (.int z), .val (.long q1), .second, .val (.long ((9223372036854775807 : Int64) / z.toInt64)), .second, .val (.long ((9223372036854775807 : Int64) - ((9223372036854775807 : Int64) / z.toInt64) * z.toInt64)), .second, .val (.long ba), .second, .val (.long ((q1 &&& (15 : Int64)) - (8 : Int64))), .second, .unset, .unset, .unset, .unset] [])
          refine own_go (fun tz kz => XT.lload X0.here hx rfl (hb hby at_99) rfl kz) ?_
          show own_Go p.tables e below _ s₁ (mkF m 101 #[.val (.long q1), .second, .val (.int p2), .val (.int p3), .val (.int z), .val (.long q1), .second, .val (.long ((9223372036854775807 : Int64) / z.toInt64)), .second, .val (.long ((9223372036854775807 : Int64) - ((9223372036854775807 : Int64) / z.toInt64) * z.toInt64)), .second, .val (.long ba), .second, .val (.long ((q1 &&& (15 : Int64)) - (8 : Int64))), .second, .unset, .unset, .unset, .unset] [(.long ba)])
          refine own_go (fun tz kz => XT.lload X0.here hx rfl (hb hby at_101) rfl kz) ?_
          show own_Go p.tables e below _ s₁ (mkF m 103 #[.val (.long q1), .second, .val (.int p2), .val (.int p3), .val (.int z), .val (.long q1), .second, .val (.long ((9223372036854775807 : Int64) / z.toInt64)), .second, .val (.long ((9223372036854775807 : Int64) - ((9223372036854775807 : Int64) / z.toInt64) * z.toInt64)), .second, .val (.long ba), .second, .val (.long ((q1 &&& (15 : Int64)) - (8 : Int64))), .second, .unset, .unset, .unset, .unset] [(.long ((q1 &&& (15 : Int64)) - (8 : Int64))), (.long ba)])
          refine own_go (fun tz kz => XT.ladd X0.here hx rfl (hb hby at_103) rfl kz) ?_
          show own_Go p.tables e below _ s₁ (mkF m 104 #[.val (.long q1), .second, .val (.int p2), .val (.int p3), .val (.int z), .val (.long q1), .second, .val (.long ((9223372036854775807 : Int64) / z.toInt64)), .second, .val (.long ((9223372036854775807 : Int64) - ((9223372036854775807 : Int64) / z.toInt64) * z.toInt64)), .second, .val (.long ba), .second, .val (.long ((q1 &&& (15 : Int64)) - (8 : Int64))), .second, .unset, .unset, .unset, .unset] [(.long (ba + ((q1 &&& (15 : Int64)) - (8 : Int64))))])
          refine own_go (fun tz kz => XT.lstore X0.here hx rfl (hb hby at_104) rfl (l' := #[.val (.long q1), .second, .val (.int p2), .val (.int p3), .val (.int z), .val (.long q1), .second, .val (.long ((9223372036854775807 : Int64) / z.toInt64)), .second, .val (.long ((9223372036854775807 : Int64) - ((9223372036854775807 : Int64) / z.toInt64) * z.toInt64)), .second, .val (.long ba), .second, .val (.long ((q1 &&& (15 : Int64)) - (8 : Int64))), .second, .val (.long (ba + ((q1 &&& (15 : Int64)) - (8 : Int64)))), .second, .unset, .unset]) rfl kz) ?_
          show own_Go p.tables e below _ s₁ (mkF m 106 #[.val (.long q1), .second, .val (.int p2), .val (.int p3), .val (.int z), .val (.long q1), .second, .val (.long ((9223372036854775807 : Int64) / z.toInt64)), .second, .val (.long ((9223372036854775807 : Int64) - ((9223372036854775807 : Int64) / z.toInt64) * z.toInt64)), .second, .val (.long ba), .second, .val (.long ((q1 &&& (15 : Int64)) - (8 : Int64))), .second, .val (.long (ba + ((q1 &&& (15 : Int64)) - (8 : Int64)))), .second, .unset, .unset] [])
          refine own_go (fun tz kz => XS.goto X0.here hx rfl (pc0 := 106) (pc' := 116) rfl (hb hby at_106) (by decide) (by decide) kz) ?_
          show own_Go p.tables e below _ s₁ (mkF m 116 #[.val (.long q1), .second, .val (.int p2), .val (.int p3), .val (.int z), .val (.long q1), .second, .val (.long ((9223372036854775807 : Int64) / z.toInt64)), .second, .val (.long ((9223372036854775807 : Int64) - ((9223372036854775807 : Int64) / z.toInt64) * z.toInt64)), .second, .val (.long ba), .second, .val (.long ((q1 &&& (15 : Int64)) - (8 : Int64))), .second, .val (.long (ba + ((q1 &&& (15 : Int64)) - (8 : Int64)))), .second, .unset, .unset] [])
          exact J116 _
    by_cases hb' : ((9223372036854775807 : Int64) - ((9223372036854775807 : Int64) / z.toInt64) * z.toInt64) = (z - (1 : Int32)).toInt64
    ·
      refine own_go (fun tz kz => XS.ifNo X0.here hx rfl (hb hby at_46) rfl (XT.ll_ne_f hb') kz) ?_
      show own_Go p.tables e below _ s₁ (mkF m 49 #[.val (.long q1), .second, .val (.int p2), .val (.int p3), .val (.int z), .val (.long q1), .second, .val (.long ((9223372036854775807 : Int64) / z.toInt64)), .second, .val (.long ((9223372036854775807 : Int64) - ((9223372036854775807 : Int64) / z.toInt64) * z.toInt64)), .second, .unset, .unset, .unset, .unset, .unset, .unset, .unset, .unset] [])
      refine own_go (fun tz kz => X0.ldc2J hx hown (mvT hZ (hw _ (List.mem_of_getElem? (i := 2) rfl))) rfl (hb hby at_49) kz) ?_
      show own_Go p.tables e below _ s₁ (mkF m 52 #[.val (.long q1), .second, .val (.int p2), .val (.int p3), .val (.int z), .val (.long q1), .second, .val (.long ((9223372036854775807 : Int64) / z.toInt64)), .second, .val (.long ((9223372036854775807 : Int64) - ((9223372036854775807 : Int64) / z.toInt64) * z.toInt64)), .second, .unset, .unset, .unset, .unset, .unset, .unset, .unset, .unset] [(.long (9223372036854775807 : Int64))])
      refine own_go (fun tz kz => XS.goto X0.here hx rfl (pc0 := 52) (pc' := 61) rfl (hb hby at_52) (by decide) (by decide) kz) ?_
      show own_Go p.tables e below _ s₁ (mkF m 61 #[.val (.long q1), .second, .val (.int p2), .val (.int p3), .val (.int z), .val (.long q1), .second, .val (.long ((9223372036854775807 : Int64) / z.toInt64)), .second, .val (.long ((9223372036854775807 : Int64) - ((9223372036854775807 : Int64) / z.toInt64) * z.toInt64)), .second, .unset, .unset, .unset, .unset, .unset, .unset, .unset, .unset] [(.long (9223372036854775807 : Int64))])
      exact J61 _
    ·
      refine own_go (fun tz kz => XS.ifYes X0.here hx rfl (pc0 := 46) (pc' := 55) rfl (hb hby at_46) rfl (XT.ll_ne_t hb') (by decide) (by decide) kz) ?_
      show own_Go p.tables e below _ s₁ (mkF m 55 #[.val (.long q1), .second, .val (.int p2), .val (.int p3), .val (.int z), .val (.long q1), .second, .val (.long ((9223372036854775807 : Int64) / z.toInt64)), .second, .val (.long ((9223372036854775807 : Int64) - ((9223372036854775807 : Int64) / z.toInt64) * z.toInt64)), .second, .unset, .unset, .unset, .unset, .unset, .unset, .unset, .unset] [])
      refine own_go (fun tz kz => XT.lload X0.here hx rfl (hb hby at_55) rfl kz) ?_
      show own_Go p.tables e below _ s₁ (mkF m 57 #[.val (.long q1), .second, .val (.int p2), .val (.int p3), .val (.int z), .val (.long q1), .second, .val (.long ((9223372036854775807 : Int64) / z.toInt64)), .second, .val (.long ((9223372036854775807 : Int64) - ((9223372036854775807 : Int64) / z.toInt64) * z.toInt64)), .second, .unset, .unset, .unset, .unset, .unset, .unset, .unset, .unset] [(.long ((9223372036854775807 : Int64) / z.toInt64))])
      refine own_go (fun tz kz => XS.iload X0.here hx rfl (hb hby at_57) rfl kz) ?_
      show own_Go p.tables e below _ s₁ (mkF m 59 #[.val (.long q1), .second, .val (.int p2), .val (.int p3), .val (.int z), .val (.long q1), .second, .val (.long ((9223372036854775807 : Int64) / z.toInt64)), .second, .val (.long ((9223372036854775807 : Int64) - ((9223372036854775807 : Int64) / z.toInt64) * z.toInt64)), .second, .unset, .unset, .unset, .unset, .unset, .unset, .unset, .unset] [(.int z), (.long ((9223372036854775807 : Int64) / z.toInt64))])
      refine own_go (fun tz kz => XT.i2l X0.here hx rfl (hb hby at_59) rfl kz) ?_
      show own_Go p.tables e below _ s₁ (mkF m 60 #[.val (.long q1), .second, .val (.int p2), .val (.int p3), .val (.int z), .val (.long q1), .second, .val (.long ((9223372036854775807 : Int64) / z.toInt64)), .second, .val (.long ((9223372036854775807 : Int64) - ((9223372036854775807 : Int64) / z.toInt64) * z.toInt64)), .second, .unset, .unset, .unset, .unset, .unset, .unset, .unset, .unset] [(.long z.toInt64), (.long ((9223372036854775807 : Int64) / z.toInt64))])
      refine own_go (fun tz kz => XT.lmul X0.here hx rfl (hb hby at_60) rfl kz) ?_
      show own_Go p.tables e below _ s₁ (mkF m 61 #[.val (.long q1), .second, .val (.int p2), .val (.int p3), .val (.int z), .val (.long q1), .second, .val (.long ((9223372036854775807 : Int64) / z.toInt64)), .second, .val (.long ((9223372036854775807 : Int64) - ((9223372036854775807 : Int64) / z.toInt64) * z.toInt64)), .second, .unset, .unset, .unset, .unset, .unset, .unset, .unset, .unset] [(.long (((9223372036854775807 : Int64) / z.toInt64) * z.toInt64))])
      exact J61 _
set_option maxRecDepth 65536 in
set_option maxHeartbeats 40000000 in
theorem comes_1 {Post : Tables → Env → Array Value → State → Outcome → State → Prop} (hpost : ∀ tb e args s v u, (limb_1_1.after args s (.returned v) u = true ∧ limb_1_2.after args s (.returned v) u = true ∧ True) → FrameEnd s (.returned v) u (Jvm.fieldLocs frame_1_writes args s ++ Jvm.arrayLocs frame_1_arrays args s ++ Jvm.staticLocs frame_1_statics s) 16 128 → Post tb e args s (.returned v) u) :
    ArmFor flags0 classFile x code maxLocals ret World_1 tables_1 room_1 Calls_1 rest_1 Pre_1 Post := by
  intro l hfl _ _ p e ha hc hk s m args below hf hA hF happ hP
  obtain ⟨hcalls, hrest, hpre⟩ := hP
  obtain ⟨-, -, -, hnamed, -, -, -, hat⟩ := (Spec.applies_iff hf).mp happ
  obtain ⟨hg, hn⟩ := and_e (Cond.before_iff.mp (show (Jvm.Cond.and given_1 narrow_1).before args s = true from hpre))
  obtain ⟨gc, ga0⟩ := and_e hg
  obtain ⟨gv0, ga1⟩ := and_e ga0
  obtain ⟨gv1, ga2⟩ := and_e ga1
  have gv2 := ga2
  obtain ⟨w0, w1, w2, rfl⟩ : ∃ w0 w1 w2 : Value, args = #[w0, w1, w2] := by
    have hs : args.size = 3 := by simpa [Cond.value, given_1] using gc
    obtain ⟨L⟩ := args
    match L, hs with
    | [w0, w1, w2], _ => exact ⟨w0, w1, w2, rfl⟩
  have hw := fun d (hd : d ∈ tables_1) => atoms_spec (ws := Jvm.Cond.code x code maxLocals ret :: tables_1) hat d (List.mem_cons_of_mem _ hd)
  have hfit : Fit s := fun {y c} hc i hi => by
    obtain ⟨ha, rfl⟩ := Array.getElem?_eq_some_iff.mp hc
    have q := List.all_eq_true.mp ((Array.all_eq_true_iff_forall_mem.mp hF) _ (Array.getElem_mem ha)) i (List.mem_range.mpr hi)
    simpa [Array.getElem?_eq_getElem hi] using q
  obtain ⟨i0, ei0⟩ := isL_v gv0
  obtain rfl : w0 = (.long i0) := Option.some.inj ei0
  obtain ⟨i1, ei1⟩ := is_v gv1
  obtain rfl : w1 = (.int i1) := Option.some.inj ei1
  obtain ⟨i2, ei2⟩ := is_v gv2
  obtain rfl : w2 = (.int i2) := Option.some.inj ei2
  obtain ⟨n, o, h1, h2, h3, _, L, rfl, ⟨rfl, N⟩, hq⟩ := rm0 l s _ hw tables_1 i0 i1 i2  s.heap s.heap.size (Nat.le_refl _)  p e ha hc hk s m _ below hf ((Spec.applies_iff_loose hf).mp happ).1 ⟨rfl, State.Warmed39.refl s, rfl⟩ trivial
  exact ⟨n, _, h1, h2, h3, hpost _ _ _ _ _ _ ⟨Cond.after_iff.mpr rfl, Cond.after_iff.mpr (eq_i res_at (Term.int_eval (1)) rfl), trivial⟩ ⟨hq.1, hq.2.1, (hq.2.2.sift fun y hy => Or.inr (N y hy)).mono (by decide) (by decide)⟩⟩
theorem main_1_1 : Claimed_1_1 := comes_1 fun _ _ _ _ _ _ h hF => ⟨h.1, hF⟩
theorem main_1_2 : Claimed_1_2 := comes_1 fun _ _ _ _ _ _ h hF => ⟨h.2.1, hF⟩
end Jvm.Pilot.@@N@@
namespace Jvm.Pilot.@@N@@
open Jvm Jvm.ClassFile Sem Op Lib Jvm.Free Jvm.Stand Jvm.Pilot.@@N@@.Jvm.D
/-! MADE BY PROGRAM (witnessworld.py) out of the Statement's table words and the real class files: 10 classes; the members and pool entries that the words name. The judged class is class 1, her method 1. -/
namespace start1
open Jvm.ClassFile
def u (s : String) : CpInfo := .utf8 (stringToUtf16 s)
/-- a pool by its gaps: so many unusable entries, then the entry; so many at the end -/
def gap : Nat → List CpInfo → List CpInfo
  | 0, r => r
  | n + 1, r => .unusable :: gap n r
def poolList (es : List (Nat × CpInfo)) (last : Nat) : List CpInfo := es.foldr (fun e r => gap e.1 (e.2 :: r)) (gap last [])
def pool (es : List (Nat × CpInfo)) (last : Nat) : Array CpInfo := ⟨poolList es last⟩
def fileOf (pool : Array CpInfo) (this : Nat) (attrs : Array Attribute := #[]) (ms : Array MethodInfo := #[]) (fl : Nat := 33) (sup : Nat := 0) (ifs : Array Nat := #[]) (fds : Array FieldInfo := #[]) : ClassFile where
  minorVersion := 0
  majorVersion := 65
  constantPool := pool
  accessFlags := fl
  thisClass := this
  superClass := sup
  interfaces := ifs
  fields := fds
  methods := ms
  attributes := attrs
def plain (name : String) (sup : Option ClassId) : Class where
  name := name
  kind := .ordinary
  loader := none
  accessFlags := 33
  super := sup
  interfaces := #[]
  cf := none
  fields := #[]
  methods := #[]
  instanceTypes := #[]
  staticTypes := #[]
  resolved := #[]
  callSites := []
  init := .initialized
  statics := none
  mirror := none

def pool0 : Array CpInfo := pool [(5, u "<init>"), (0, u "()V"), (1, .class_ 10), (1, u "java/lang/Object")] 113

def k0c0 : Code := { maxStack := 0, maxLocals := 1, code := object_method_1_code, exceptionTable := #[], attributes := #[] }
def k0m0 : Method := { name := "<init>", desc := "()V", sig := { parameters := [], returnType := none }, accessFlags := 1, code := some k0c0 }
/-- java/lang/Object -/
def k0 : Class := { plain "java/lang/Object" none with
  accessFlags := 33
  interfaces := #[]
  cf := some (fileOf pool0 8 #[] #[{ accessFlags := 1, nameIndex := 5, descriptorIndex := 6, attributes := #[] }] 33 0 #[] #[])
  fields := #[]
  methods := #[k0m0]
  instanceTypes := #[]
  staticTypes := #[]
  resolved := Array.replicate 124 none
  statics := none }

def pool1 : Array CpInfo := pool [(2, .class_ 4), (1, u "java/lang/Object"), (0, u "<init>"), (0, u "()V"), (0, .integer 2147483647), (2, .integer 2147483646), (2, .long 9223372036854775807), (1, .long 15), (1, .long 8), (1, .methodref 20 21), (0, .class_ 22), (0, .nameAndType 23 24), (0, u "com/example/gunline/gunline/core/SeededDiceRollPinLaw"), (0, u "seedFor"), (0, u "(J)J"), (0, .class_ 26), (0, u "com/example/gunline/gunline/core/SeededDice"), (0, .methodref 25 28), (0, .nameAndType 5 29), (0, u "(J)V"), (0, .methodref 25 31), (0, .nameAndType 32 33), (0, u "roll"), (0, u "(I)I"), (0, .methodref 25 35), (0, .nameAndType 36 37), (0, u "next"), (0, u "()J"), (0, .methodref 20 39), (0, .nameAndType 40 41), (0, u "accepts"), (0, u "(JI)Z"), (0, .long 2), (1, .long 11400714819323198485), (1, .long 13787848793156543929), (1, .long 10723151780598845931), (1, .methodref 20 51), (0, .nameAndType 52 24), (0, u "inverse"), (2, u "law"), (0, u "(JII)Z")] 3

def k1m0 : Method := { name := "<init>", desc := "()V", sig := { parameters := [], returnType := none }, accessFlags := 1, code := none }
def k1c1 : Code := { maxStack := 6, maxLocals := 19, code := code, exceptionTable := #[], attributes := #[] }
def k1m1 : Method := { name := "law", desc := "(JII)Z", sig := { parameters := [.long, .int, .int], returnType := some .boolean }, accessFlags := 9, code := some k1c1 }
def k1c2 : Code := { maxStack := 6, maxLocals := 7, code := method_3_code, exceptionTable := #[], attributes := #[] }
def k1m2 : Method := { name := "accepts", desc := "(JI)Z", sig := { parameters := [.long, .int], returnType := some .boolean }, accessFlags := 10, code := some k1c2 }
def k1c3 : Code := { maxStack := 8, maxLocals := 4, code := method_4_code, exceptionTable := #[], attributes := #[] }
def k1m3 : Method := { name := "inverse", desc := "(J)J", sig := { parameters := [.long], returnType := some .long }, accessFlags := 10, code := some k1c3 }
def k1c4 : Code := { maxStack := 5, maxLocals := 10, code := method_5_code, exceptionTable := #[], attributes := #[] }
def k1m4 : Method := { name := "seedFor", desc := "(J)J", sig := { parameters := [.long], returnType := some .long }, accessFlags := 10, code := some k1c4 }
/-- com/example/gunline/gunline/core/SeededDiceRollPinLaw -/
def k1 : Class := { plain "com/example/gunline/gunline/core/SeededDiceRollPinLaw" (some 0) with
  accessFlags := 49
  interfaces := #[]
  cf := some (fileOf pool1 20 #[] #[{ accessFlags := 1, nameIndex := 5, descriptorIndex := 6, attributes := #[] }, { accessFlags := 9, nameIndex := 55, descriptorIndex := 56, attributes := #[] }, { accessFlags := 10, nameIndex := 40, descriptorIndex := 41, attributes := #[] }, { accessFlags := 10, nameIndex := 52, descriptorIndex := 24, attributes := #[] }, { accessFlags := 10, nameIndex := 23, descriptorIndex := 24, attributes := #[] }] 49 2 #[] #[])
  fields := #[]
  methods := #[k1m0, k1m1, k1m2, k1m3, k1m4]
  instanceTypes := #[]
  staticTypes := #[]
  resolved := Array.replicate 60 none
  statics := none }

def pool2 : Array CpInfo := pool [(12, .class_ 13), (0, u "com/example/gunline/gunline/core/Dice"), (0, .class_ 15), (0, u "java/lang/Object")] 18

/-- com/example/gunline/gunline/core/Dice -/
def k2 : Class := { plain "com/example/gunline/gunline/core/Dice" (some 0) with
  accessFlags := 1537
  interfaces := #[]
  cf := some (fileOf pool2 12 #[] #[] 1537 14 #[] #[])
  fields := #[]
  methods := #[]
  instanceTypes := #[]
  staticTypes := #[]
  resolved := Array.replicate 34 none
  statics := none }

def pool3 : Array CpInfo := pool [(1, .methodref 2 3), (0, .class_ 4), (0, .nameAndType 5 6), (0, u "java/lang/Object"), (0, u "<init>"), (0, u "()V"), (0, .fieldref 8 9), (0, .class_ 10), (0, .nameAndType 11 12), (0, u "com/example/gunline/gunline/core/SeededDice"), (0, u "state"), (0, u "J"), (0, .long 11400714819323198485), (1, .long 13787848793156543929), (1, .long 10723151780598845931), (12, .long 9223372036854775807), (1, .methodref 8 33), (0, .nameAndType 34 35), (0, u "next"), (0, u "()J"), (2, u "roll"), (0, u "(I)I"), (0, .class_ 41), (0, u "com/example/gunline/gunline/core/Dice"), (0, u "GAMMA"), (1, u "MIX_1"), (0, u "MIX_2"), (0, u "(J)V")] 25

def k3c0 : Code := { maxStack := 3, maxLocals := 3, code := prog_96_method_1_code, exceptionTable := #[], attributes := #[] }
def k3m0 : Method := { name := "<init>", desc := "(J)V", sig := { parameters := [.long], returnType := none }, accessFlags := 0, code := some k3c0 }
def k3c1 : Code := { maxStack := 5, maxLocals := 3, code := prog_96_method_2_code, exceptionTable := #[], attributes := #[] }
def k3m1 : Method := { name := "next", desc := "()J", sig := { parameters := [], returnType := some .long }, accessFlags := 0, code := some k3c1 }
def k3c2 : Code := { maxStack := 6, maxLocals := 6, code := prog_96_method_3_code, exceptionTable := #[], attributes := #[] }
def k3m2 : Method := { name := "roll", desc := "(I)I", sig := { parameters := [.int], returnType := some .int }, accessFlags := 1, code := some k3c2 }
/-- com/example/gunline/gunline/core/SeededDice -/
def k3 : Class := { plain "com/example/gunline/gunline/core/SeededDice" (some 0) with
  accessFlags := 48
  interfaces := #[2]
  cf := some (fileOf pool3 8 #[] #[{ accessFlags := 0, nameIndex := 5, descriptorIndex := 46, attributes := #[] }, { accessFlags := 0, nameIndex := 34, descriptorIndex := 35, attributes := #[] }, { accessFlags := 1, nameIndex := 38, descriptorIndex := 39, attributes := #[] }] 48 2 #[40] #[{ accessFlags := 26, nameIndex := 42, descriptorIndex := 12, attributes := #[] }, { accessFlags := 26, nameIndex := 44, descriptorIndex := 12, attributes := #[] }, { accessFlags := 26, nameIndex := 45, descriptorIndex := 12, attributes := #[] }, { accessFlags := 2, nameIndex := 11, descriptorIndex := 12, attributes := #[] }])
  fields := #[{ name := "GAMMA", type := .long, accessFlags := 26, slot := 0, constantValue := 0 }, { name := "MIX_1", type := .long, accessFlags := 26, slot := 1, constantValue := 0 }, { name := "MIX_2", type := .long, accessFlags := 26, slot := 2, constantValue := 0 }, { name := "state", type := .long, accessFlags := 2, slot := 0, constantValue := 0 }]
  methods := #[k3m0, k3m1, k3m2]
  instanceTypes := #[.long]
  staticTypes := #[.long, .long, .long]
  resolved := Array.replicate 72 none
  statics := none }

def pool4 : Array CpInfo := pool [(1, u "java/lang/Cloneable"), (0, .class_ 1), (0, u "java/lang/Object"), (0, .class_ 3)] 3

/-- java/lang/Cloneable -/
def k4 : Class := { plain "java/lang/Cloneable" (some 0) with
  accessFlags := 1537
  interfaces := #[]
  cf := some (fileOf pool4 2 #[] #[] 1537 4 #[] #[])
  fields := #[]
  methods := #[]
  instanceTypes := #[]
  staticTypes := #[]
  resolved := Array.replicate 8 none
  statics := none }

def pool5 : Array CpInfo := pool [(1, u "java/io/Serializable"), (0, .class_ 1), (0, u "java/lang/Object"), (0, .class_ 3)] 3

/-- java/io/Serializable -/
def k5 : Class := { plain "java/io/Serializable" (some 0) with
  accessFlags := 1537
  interfaces := #[]
  cf := some (fileOf pool5 2 #[] #[] 1537 4 #[] #[])
  fields := #[]
  methods := #[]
  instanceTypes := #[]
  staticTypes := #[]
  resolved := Array.replicate 8 none
  statics := none }

/-- the primitive byte -/
def k6 : Class := { plain "byte" none with kind := .primitive 'B', accessFlags := 0x411 }
/-- [B -/
def k7 : Class := { plain "[B" (some 0) with kind := .array 6 .byte, interfaces := #[4, 5], accessFlags := 1041 }

/-- the primitive int -/
def k8 : Class := { plain "int" none with kind := .primitive 'I', accessFlags := 0x411 }
/-- [I -/
def k9 : Class := { plain "[I" (some 0) with kind := .array 8 .int, interfaces := #[4, 5], accessFlags := 1041 }

def heap : Heap := #[]
def classes : Array Class := #[k0, k1, k2, k3, k4, k5, k6, k7, k8, k9]
def interned : List (Array UInt16 × Addr) := []
def slotsUsed : Nat := 0
def theMethod : MethodId := ⟨1, 1⟩
def args0 : Array Value := #[.long 5, .int 300, .int 7]
def aboutOver (below : List Frame) : State where
  vm := { classes := classes, interned := interned.toArray }
  heap := heap
  slotsUsed := slotsUsed
  threads := #[{ frames := .invoking theMethod args0 :: below }]
def below0 : List Frame := [.native { method := ⟨0, 0⟩, args := #[] }]
def about1 : State := aboutOver below0
def p0 : Program := .bare "" "" ""
def e0 : Env := launch0.env 0 0 0
theorem w_frames : about1.frames = Frame.invoking theMethod args0 :: below0 := rfl
set_option maxRecDepth 65536 in
theorem w_args : argsFit about1.vm theMethod args0 = true := by decide +kernel
set_option maxRecDepth 65536 in
theorem w_heap : heapFits about1 = true := by decide +kernel
set_option maxRecDepth 65536 in
theorem w_runnable : about1.curStatus? = some .runnable := by decide +kernel
set_option maxRecDepth 65536 in
theorem w_alone : about1.alone = true := by decide +kernel
set_option maxRecDepth 65536 in
theorem w_named : about1.methodNamed? x = some theMethod := by decide +kernel
set_option maxRecDepth 65536 in
theorem w_hears : about1.hears theMethod below0 = true := by decide +kernel
set_option maxRecDepth 65536 in
theorem w_ripe : about1.ripe theMethod args0 below0 = true := by decide +kernel
theorem w_running : about1.status = .running := rfl
set_option maxRecDepth 65536 in
theorem w_room : about1.hasRoom e0.platform room_1 = true :=
  launch0.hasRoom_least _ room_1 (by decide +kernel) (by decide +kernel) (by decide +kernel) (by decide +kernel) (by decide +kernel) (by decide +kernel)
theorem allAtoms_all (ts : List Jvm.Cond) (a : Array Jvm.Value) (st : Jvm.State) : (allAtoms ts).before a st = ts.all (fun c => c.before a st) := by
  induction ts with
  | nil => rfl
  | cons c t ih =>
    show (Jvm.Cond.and c (allAtoms t)).before a st = _
    rw [Jvm.Cond.before_and, ih, List.all_cons]
def words1 : List Jvm.Cond := Jvm.Cond.code x code maxLocals ret :: tables_1
/-- a 'code' word, met by the world's own term for the bytes: nothing is compared byte by byte -/
theorem code_word {y : MethodName} {bytes : ByteArray} {mx : Nat} {rt : Option FieldType} {a : Array Value} {s : State} {m : MethodId} {meth : Method} {c : Code} (h1 : s.methodNamed? y = some m) (h2 : s.vm.method? m = some meth) (h3 : meth.code = some c) (h4 : c.code = bytes)
    (h5 : (c.maxLocals == mx && c.exceptionTable.isEmpty && decide (c.maxStack ≤ mostOperands) && decide (meth.sig.returnType = rt) && !meth.locks && decide (parseMethodDescriptor y.desc = some meth.sig)) = true) : (Jvm.Cond.code y bytes mx rt).before a s = true := by
  simp only [Bool.and_eq_true, beq_iff_eq, Bool.not_eq_true', decide_eq_true_eq] at h5
  obtain ⟨⟨⟨⟨⟨g1, g2⟩, g3⟩, g4⟩, g5⟩, g6⟩ := h5
  simp [Cond.before, Cond.holds, Cond.value, h1, h2, h3, h4, g1, g2, g3, g4, g5, g6]
def isCode : Jvm.Cond → Bool
  | .code _ _ _ _ => true
  | _ => false
theorem all_split {L : List Jvm.Cond} {P : Jvm.Cond → Bool} (h1 : L.all (fun c => isCode c || P c) = true) (h2 : ∀ c ∈ L.filter isCode, P c = true) : L.all P = true := by
  refine List.all_eq_true.mpr fun c hc => ?_
  have h := List.all_eq_true.mp h1 c hc
  rcases Bool.eq_false_or_eq_true (isCode c) with hi | hi
  · exact h2 c (List.mem_filter.mpr ⟨hc, hi⟩)
  · simpa [hi] using h
set_option maxRecDepth 65536 in
theorem w_c0 : (Jvm.Cond.code x code maxLocals ret).before args0 about1 = true := code_word (m := ⟨1, 1⟩) (meth := k1m1) (c := k1c1) (by decide +kernel) rfl rfl rfl (by decide +kernel)
set_option maxRecDepth 65536 in
theorem w_c1 : (Jvm.Cond.code ({ cls := "com/example/gunline/gunline/core/SeededDiceRollPinLaw", name := "seedFor", desc := "(J)J" } : Jvm.MethodName) method_5_code (10 : Nat) (Option.some Jvm.ClassFile.FieldType.long)).before args0 about1 = true := code_word (m := ⟨1, 4⟩) (meth := k1m4) (c := k1c4) (by decide +kernel) rfl rfl rfl (by decide +kernel)
set_option maxRecDepth 65536 in
theorem w_c2 : (Jvm.Cond.code ({ cls := "com/example/gunline/gunline/core/SeededDiceRollPinLaw", name := "inverse", desc := "(J)J" } : Jvm.MethodName) method_4_code (4 : Nat) (Option.some Jvm.ClassFile.FieldType.long)).before args0 about1 = true := code_word (m := ⟨1, 3⟩) (meth := k1m3) (c := k1c3) (by decide +kernel) rfl rfl rfl (by decide +kernel)
set_option maxRecDepth 65536 in
theorem w_c3 : (Jvm.Cond.code ({ cls := "com/example/gunline/gunline/core/SeededDice", name := "<init>", desc := "(J)V" } : Jvm.MethodName) prog_96_method_1_code (3 : Nat) (Option.none : Option Jvm.ClassFile.FieldType)).before args0 about1 = true := code_word (m := ⟨3, 0⟩) (meth := k3m0) (c := k3c0) (by decide +kernel) rfl rfl rfl (by decide +kernel)
set_option maxRecDepth 65536 in
theorem w_c4 : (Jvm.Cond.code ({ cls := "java/lang/Object", name := "<init>", desc := "()V" } : Jvm.MethodName) object_method_1_code (1 : Nat) (Option.none : Option Jvm.ClassFile.FieldType)).before args0 about1 = true := code_word (m := ⟨0, 0⟩) (meth := k0m0) (c := k0c0) (by decide +kernel) rfl rfl rfl (by decide +kernel)
set_option maxRecDepth 65536 in
theorem w_c5 : (Jvm.Cond.code ({ cls := "com/example/gunline/gunline/core/SeededDice", name := "roll", desc := "(I)I" } : Jvm.MethodName) prog_96_method_3_code (6 : Nat) (Option.some Jvm.ClassFile.FieldType.int)).before args0 about1 = true := code_word (m := ⟨3, 2⟩) (meth := k3m2) (c := k3c2) (by decide +kernel) rfl rfl rfl (by decide +kernel)
set_option maxRecDepth 65536 in
theorem w_c6 : (Jvm.Cond.code ({ cls := "com/example/gunline/gunline/core/SeededDice", name := "next", desc := "()J" } : Jvm.MethodName) prog_96_method_2_code (3 : Nat) (Option.some Jvm.ClassFile.FieldType.long)).before args0 about1 = true := code_word (m := ⟨3, 1⟩) (meth := k3m1) (c := k3c1) (by decide +kernel) rfl rfl rfl (by decide +kernel)
set_option maxRecDepth 65536 in
theorem w_c7 : (Jvm.Cond.code ({ cls := "com/example/gunline/gunline/core/SeededDiceRollPinLaw", name := "accepts", desc := "(JI)Z" } : Jvm.MethodName) method_3_code (7 : Nat) (Option.some Jvm.ClassFile.FieldType.boolean)).before args0 about1 = true := code_word (m := ⟨1, 2⟩) (meth := k1m2) (c := k1c2) (by decide +kernel) rfl rfl rfl (by decide +kernel)
def codes1 : List Jvm.Cond := [Jvm.Cond.code x code maxLocals ret, Jvm.Cond.code ({ cls := "com/example/gunline/gunline/core/SeededDiceRollPinLaw", name := "seedFor", desc := "(J)J" } : Jvm.MethodName) method_5_code (10 : Nat) (Option.some Jvm.ClassFile.FieldType.long), Jvm.Cond.code ({ cls := "com/example/gunline/gunline/core/SeededDiceRollPinLaw", name := "inverse", desc := "(J)J" } : Jvm.MethodName) method_4_code (4 : Nat) (Option.some Jvm.ClassFile.FieldType.long), Jvm.Cond.code ({ cls := "com/example/gunline/gunline/core/SeededDice", name := "<init>", desc := "(J)V" } : Jvm.MethodName) prog_96_method_1_code (3 : Nat) (Option.none : Option Jvm.ClassFile.FieldType), Jvm.Cond.code ({ cls := "java/lang/Object", name := "<init>", desc := "()V" } : Jvm.MethodName) object_method_1_code (1 : Nat) (Option.none : Option Jvm.ClassFile.FieldType), Jvm.Cond.code ({ cls := "com/example/gunline/gunline/core/SeededDice", name := "roll", desc := "(I)I" } : Jvm.MethodName) prog_96_method_3_code (6 : Nat) (Option.some Jvm.ClassFile.FieldType.int), Jvm.Cond.code ({ cls := "com/example/gunline/gunline/core/SeededDice", name := "next", desc := "()J" } : Jvm.MethodName) prog_96_method_2_code (3 : Nat) (Option.some Jvm.ClassFile.FieldType.long), Jvm.Cond.code ({ cls := "com/example/gunline/gunline/core/SeededDiceRollPinLaw", name := "accepts", desc := "(JI)Z" } : Jvm.MethodName) method_3_code (7 : Nat) (Option.some Jvm.ClassFile.FieldType.boolean)]
set_option maxRecDepth 65536 in
theorem codes_eq : words1.filter isCode = codes1 := rfl
theorem w_codes : ∀ c ∈ words1.filter isCode, c.before args0 about1 = true := by
  rw [codes_eq]
  intro c hc
  simp only [codes1, List.mem_cons, List.not_mem_nil, or_false] at hc
  rcases hc with rfl | rfl | rfl | rfl | rfl | rfl | rfl | rfl
  · exact w_c0
  · exact w_c1
  · exact w_c2
  · exact w_c3
  · exact w_c4
  · exact w_c5
  · exact w_c6
  · exact w_c7
set_option maxRecDepth 65536 in
theorem w_t1 : (words1.take 24).all (fun c => isCode c || c.before args0 about1) = true := by decide +kernel
set_option maxRecDepth 65536 in
theorem w_t2 : (words1.drop 24).all (fun c => isCode c || c.before args0 about1) = true := by decide +kernel
theorem w_tables : (allAtoms (Jvm.Cond.code x code maxLocals ret :: tables_1)).before args0 about1 = true := by
  rw [allAtoms_all]
  show words1.all (fun c => c.before args0 about1) = true
  refine all_split ?_ w_codes
  rw [← List.take_append_drop 24 words1, List.all_append, w_t1, w_t2]
  rfl
set_option maxRecDepth 65536 in
theorem w_case : (Jvm.Cond.and given_1 narrow_1).before args0 about1 = true := by decide +kernel
theorem w_applies : (headSpec (Jvm.Cond.code x code maxLocals ret :: tables_1) room_1).applies x e0.platform about1 = true :=
  (Spec.applies_iff w_frames).mpr ⟨w_running, w_runnable, w_alone, w_named, w_hears, w_ripe, w_room, w_tables⟩
theorem atStart : AtStart classFile x code maxLocals ret World_1 tables_1 room_1 Calls_1 rest_1 Pre_1 launch0 p0 e0 about1 theMethod args0 below0 :=
  ⟨lists_1, trivial, launch0.admits_env _ _ _, launch0.least_env, fairChoices_fair.cas, fairChoices_fair.clock, w_frames, w_args, w_heap, w_applies, trivial, trivial, w_case⟩
end start1
theorem witness_1 : WitnessClaimed_1 := ⟨start1.p0, start1.e0, start1.about1, start1.theMethod, start1.args0, start1.below0, start1.atStart⟩
end Jvm.Pilot.@@N@@
