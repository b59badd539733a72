import JvmDerived
import JvmDerived.Pilot.@@N@@Statement
import JvmDerived.Pilot.@@N@@Code
set_option linter.unusedVariables false
set_option linter.unusedSimpArgs false
namespace Jvm.RoadKit
open Sem ClassFile Op Lib Jvm.Stand Jvm.Free Jvm.LawKit
section New
variable {p : Program} {l : Launch} {e : Env} {R : Room} {s : State} {m : MethodId} {args : Array Value} {below : List Frame} {meth : Method} {c : Code} {T : State} {locs : List Loc} {cells slots : Nat}
theorem retI (X : Stand p l e R s m args below meth c T locs cells slots) (hx : p.tables.exec = Jvm.exec) {pc : Nat} {Ls : Array Slot} {z : Int32} {rest : List Value} (hret : meth.sig.returnType = some .int) (hd : decode c.code pc = .ok (.ireturn, 1)) {fs : List Frame}
    (hl : ∀ (f : JFrame) (acts : List Action), f.method = m → f.locked = none → f.entered = [] → (doReturn e (T.setTop f) acts (some (.int z))).1 = T.setFrames fs) : Steps p.tables e below (T.setTop (mkF m pc Ls (.int z :: rest))) (T.setFrames fs) := by
  have hm' : T.vm.method? m = some meth := X.method'
  have hn : narrow .int (.int z) = .int z := rfl
  show Steps p.tables e below (T.setTop { method := m, pc := pc, locals := Ls, stack := _ :: rest, locked := none }) _
  jvm_step X.here [X.here.top, hx, hd, hm', hret, hn]
  first | (intro acts; rw [hl _ acts rfl rfl rfl]) | rw [hl _ _ rfl rfl rfl]
  exact Steps.refl _
end New
end Jvm.RoadKit
namespace Jvm.Pilot.@@N@@
open Jvm Jvm.ClassFile Sem Op Lib Jvm.Free Jvm.Stand Jvm.LawKit Jvm.RoadKit Bundle Jvm.Pilot.@@N@@.Jvm.D
/-- the run from here ends well -/
def own_Go (tb : Tables) (e : Env) (below : List Frame) (P : Outcome → State → Prop) (T : State) (f : JFrame) : Prop := ∃ s₂ o, Steps tb e below (T.setTop f) s₂ ∧ s₂.status = .running ∧ Ended s₂ below o ∧ P o s₂
theorem own_go {tb : Tables} {e : Env} {below : List Frame} {P : Outcome → State → Prop} {T T' : State} {f f' : JFrame} (k : ∀ t, Steps tb e below (T'.setTop f') t → Steps tb e below (T.setTop f) t) (h : own_Go tb e below P T' f') : own_Go tb e below P T f := by
  obtain ⟨s₂, o, h1, h2⟩ := h
  exact ⟨s₂, o, k _ h1, h2⟩
theorem own_keep1 {h0 h h' : Heap} {ws : List Addr} {b : Addr} (K : Keep h0 h ws) (K' : Keep h h' [b]) (q : h0.size ≤ b) : Keep h0 h' ws := K.trans K' fun x hx => Or.inr (by cases List.mem_singleton.mp hx; exact q)
theorem own_eqi {a b : Term} {args : Array Value} {first s : State} {o : Option Outcome} {idx : List Nat} {y : Int32} (h : (Jvm.Cond.eq a b).value args first o s idx = some true) (hb : b.eval args first o idx s = some (.int y)) : a.eval args first o idx s = some (.int y) := by
  cases ha : a.eval args first o idx s with
  | none => simp [Cond.value, ha] at h
  | some x => cases x <;> simp [Cond.value, ha, hb] at h; subst h; rfl
theorem own_not1 {a b : Addr} (q : a ≠ b) : a ∉ [b] := fun h => q (List.mem_singleton.mp h)
def own_PW (s : State) (Q : Option Value → Heap → List Loc → Prop) (k n : Nat) (o : Outcome) (U : State) : Prop := ∃ v L, o = .returned v ∧ Q v U.heap L ∧ ReturnedEndW s o U L k n
def own_P (s : State) (Q : Option Value → Heap → List Loc → Prop) (k n : Nat) (o : Outcome) (U : State) : Prop := ∃ v L, o = .returned v ∧ Q v U.heap L ∧ FrameEnd s o U L k n
/-- the array at a has n places; place k holds f k -/
def own_Av (Z : State) (h : Heap) (a : Addr) (ty : FieldType) (n : Nat) (f : Nat → Value) : Prop := ∃ c : Cell, Arr Z h a c ty ∧ c.slots.size = n ∧ ∀ k, k < n → c.slots[k]? = some (f k)
theorem own_Av.lt {Z : State} {h : Heap} {a : Addr} {ty : FieldType} {n : Nat} {f : Nat → Value} (F : own_Av Z h a ty n f) : a < h.size := by obtain ⟨c, A, -⟩ := F; exact A.lt
theorem own_Av.ext {Z : State} {h h' : Heap} {a : Addr} {ty : FieldType} {n : Nat} {f : Nat → Value} (F : own_Av Z h a ty n f) (E : Ext h h') : own_Av Z h' a ty n f := by obtain ⟨c, A, r⟩ := F; exact ⟨c, A.ext E, r⟩
theorem own_Av.other {Z : State} {h h' : Heap} {a b : Addr} {ty : FieldType} {n sl : Nat} {v : Value} {f : Nat → Value} (F : own_Av Z h b ty n f) (W : Wr h h' a sl v) (q : b ≠ a) : own_Av Z h' b ty n f := by obtain ⟨c, A, r⟩ := F; exact ⟨c, A.other W q, r⟩
theorem own_Av.keep {Z : State} {h h' : Heap} {a : Addr} {ty : FieldType} {n : Nat} {ws : List Addr} {f : Nat → Value} (F : own_Av Z h a ty n f) (K : Keep h h' ws) (q : a ∉ ws) : own_Av Z h' a ty n f := by obtain ⟨c, A, r⟩ := F; exact ⟨c, ⟨K.2.1 a c A.1 q, A.2⟩, r⟩
theorem own_Av.new {Z : State} {h : Heap} {a : Addr} {ty : FieldType} {k : ClassId} {z : Int32} {n : Nat} (A : Arr Z h a (newA k ty z) ty) (hz : z.toNatClampNeg = n) : own_Av Z h a ty n (fun _ => defaultValue ty) := by
  refine ⟨_, A, (sz_new _ _ _).trans hz, fun i hi => ?_⟩
  subst hz
  simp [newA, hi]
theorem own_Av.set {Z : State} {h h' : Heap} {a : Addr} {ty : FieldType} {n i j : Nat} {v : Value} {f : Nat → Value} (F : own_Av Z h a ty n f) (W : Wr h h' a j v) (hj : j = i) : own_Av Z h' a ty n (fun k => if k = i then v else f k) := by
  subst hj
  obtain ⟨c, A, S, G⟩ := F
  have hlt : j < c.slots.size := by
    obtain ⟨cell, h1, h2, h3, -⟩ := W
    cases A.1.symm.trans h1; exact h3
  refine ⟨_, A.same W, (sz_set _ _ _).trans S, fun k hk => ?_⟩
  by_cases q : k = j
  · subst q; simp [Cell.setSlot, hlt]
  · show (c.setSlot j v).slots[k]? = some (if k = j then v else f k)
    rw [if_neg q, ← G k hk]; simp [Cell.setSlot, Array.getElem?_setIfInBounds, Ne.symm q]
theorem own_Av.eq {Z : State} {h : Heap} {a : Addr} {ty : FieldType} {n : Nat} {f g : Nat → Value} (F : own_Av Z h a ty n f) (q : ∀ k, k < n → f k = g k) : own_Av Z h a ty n g := by
  obtain ⟨c, A, S, G⟩ := F
  exact ⟨c, A, S, fun k hk => by rw [G k hk, q k hk]⟩
theorem own_inb {c : Cell} {n i : Nat} {j : Int32} (S : c.slots.size = n) (hj : ¬ j < 0 ∧ j.toNatClampNeg = i) (hi : i < n) : ¬ (j < 0 ∨ c.slots.size ≤ j.toNatClampNeg) := by
  rw [S, hj.2]
  exact fun q => q.elim hj.1 (Nat.not_le.mpr hi)
theorem own_at {c : Cell} {n i : Nat} {j : Int32} {f : Nat → Value} {v : Value} (G : ∀ k, k < n → c.slots[k]? = some (f k)) (hj : ¬ j < 0 ∧ j.toNatClampNeg = i) (hi : i < n) (hv : f i = v) : c.slots[j.toNatClampNeg]? = some v := by
  rw [hj.2, G i hi, hv]
theorem own_nat {i : Nat} (h : i < 2 ^ 31) : ¬ Int32.ofNat i < 0 ∧ (Int32.ofNat i).toNatClampNeg = i := by
  have e : (Int32.ofNat i).toInt = i := Int32.toInt_ofNat_of_lt h
  refine ⟨?_, ?_⟩
  · rw [Int32.lt_iff_toInt_lt, e, Int32.toInt_zero]; omega
  · show (Int32.ofNat i).toInt.toNat = i
    rw [e]; rfl
theorem own_low (x : Int32) : ∃ j, j < 16 ∧ x &&& 15 = Int32.ofNat j := by
  refine ⟨(x &&& 15).toBitVec.toNat, ?_, ?_⟩
  · rw [Int32.toBitVec_and, BitVec.toNat_and]
    exact Nat.lt_of_le_of_lt Nat.and_le_right (by decide)
  · apply Int32.toBitVec_inj.mp
    show _ = BitVec.ofNat 32 _
    rw [BitVec.ofNat_toNat, BitVec.setWidth_eq]
theorem own_ltn {i j : Nat} (hi : i < 2 ^ 31) (hj : j < 2 ^ 31) : Int32.ofNat i < Int32.ofNat j ↔ i < j := by
  rw [Int32.lt_iff_toInt_lt, Int32.toInt_ofNat_of_lt hi, Int32.toInt_ofNat_of_lt hj]; omega
theorem own_pred {j : Nat} (h : 0 < j) (hj : j < 2 ^ 31) : Int32.ofNat j - 1 = Int32.ofNat (j - 1) := by
  apply Int32.toInt_inj.mp
  rw [Int32.toInt_sub, Int32.toInt_ofNat_of_lt hj, Int32.toInt_ofNat_of_lt (by omega), show (1 : Int32).toInt = 1 from by decide, Int.bmod_eq_of_le] <;> omega
theorem own_succ (i : Nat) : Int32.ofNat i + 1 = Int32.ofNat (i + 1) := by
  apply Int32.toBitVec_inj.mp
  show BitVec.ofNat 32 i + BitVec.ofNat 32 1 = BitVec.ofNat 32 (i + 1)
  rw [BitVec.ofNat_add_ofNat]
theorem own_ofNat_inj {i j : Nat} (hi : i < 2 ^ 31) (hj : j < 2 ^ 31) : Int32.ofNat i = Int32.ofNat j ↔ i = j := by
  rw [← Int32.toInt_inj, Int32.toInt_ofNat_of_lt hi, Int32.toInt_ofNat_of_lt hj]; omega
theorem own_b8 (x : Int32) : x.toInt8.toInt32.toInt8.toInt32 = x.toInt8.toInt32 := by simp
theorem own_ldc2D {p : Program} {l : Launch} {e : Env} {R : Room} {s : State} {m : MethodId} {args : Array Value} {below : List Frame} {meth : Method} {c : Code} {T : State} {locs : List Loc} {cells slots : Nat} {g : JFrame} {target : State} (X : Stand p l e R s m args below meth c T locs cells slots) (hexec : p.tables.exec = Jvm.exec) {own : String} {index : Nat} {v : UInt64} (hown : s.vm.findClass own = some m.cls) (hconst : (Jvm.Cond.constantDouble own index v).before args s = true) (hg : g.method = m) (hdg : decode c.code g.pc = .ok (.ldc2_w index, 3))
    (hr : Steps p.tables e below (T.setTop { g with pc := g.pc + 3, stack := .double v :: g.stack }) target) : Steps p.tables e below (T.setTop g) target := X.ldc2DoubleC hexec hown hconst hg hdg target hr
theorem own_low1 (x : Int32) : ∃ j, j < 2 ∧ x &&& 1 = Int32.ofNat j := by
  refine ⟨(x &&& 1).toBitVec.toNat, ?_, ?_⟩
  · rw [Int32.toBitVec_and, BitVec.toNat_and]
    exact Nat.lt_of_le_of_lt Nat.and_le_right (by decide)
  · apply Int32.toBitVec_inj.mp
    show _ = BitVec.ofNat 32 _
    rw [BitVec.ofNat_toNat, BitVec.setWidth_eq]
section Dbl
open Jvm.Free.Fl
theorem own_big : Big64 1023 (4742290407621132288 : UInt64) := by unfold Big64; decide
theorem own_md (w : Int64) : Mag64 1089 (FP.ddiv (FP.l2d w) (4742290407621132288 : UInt64)) := by
  have q := ddiv_mag (K := 1088) (L := 1023) (l2d_mag w) own_big (by decide) (by decide)
  exact Mag64.mono q (by decide)
theorem own_nd (w : Int64) : NoNaN64 (FP.ddiv (FP.l2d w) (4742290407621132288 : UInt64)) := ((own_md w).fin (by decide)).noNaN
theorem own_ns (v w : Int64) : NoNaN64 (FP.dadd (FP.l2d v) (FP.ddiv (FP.l2d w) (4742290407621132288 : UInt64))) := (Mag64.fin (dadd_mag (K := 1089) (Mag64.mono (l2d_mag v) (by decide)) (own_md w) (by decide)) (by decide)).noNaN
end Dbl
/-! the two roundings are one: |w| / 2^30, rounded once -/
theorem own_hi (w : Int64) : (w >>> ((30 : Int32).toInt64 &&& 63)).toInt = w.toInt / 1073741824 := by
  have : (w >>> ((30 : Int32).toInt64 &&& 63)).toBitVec = w.toBitVec.sshiftRight 30 := rfl
  show (w >>> ((30 : Int32).toInt64 &&& 63)).toBitVec.toInt = _
  rw [this, BitVec.toInt_sshiftRight, Int.shiftRight_eq_div_pow]; rfl
theorem own_lo (w : Int64) : (w &&& 1073741823).toInt = w.toInt % 1073741824 := by
  have h1 : (w &&& 1073741823).toBitVec.toNat = w.toBitVec.toNat % 2 ^ 30 := by
    rw [Int64.toBitVec_and, BitVec.toNat_and]
    exact Nat.and_two_pow_sub_one_eq_mod w.toBitVec.toNat 30
  have e1 : (w &&& 1073741823).toInt = (w &&& 1073741823).toBitVec.toNat := BitVec.toInt_eq_toNat_of_lt (by omega)
  have e2 := BitVec.toInt_eq_toNat_cond w.toBitVec
  have e3 : w.toInt = w.toBitVec.toInt := rfl
  rw [e1, h1, e3, e2]
  split <;> omega
section Rnd
open Jvm.FP.Core
theorem own_qmin : b64.qmin = -1074 := by decide
theorem own_qmax : b64.qmax = 971 := by decide
theorem own_p64 : (b64.p : Int) = 53 := rfl
theorem own_lead {A : Nat} (h0 : 0 < A) (h1 : A < 2 ^ 64) : 0 ≤ leading A 1 ∧ leading A 1 < 64 := by
  have sp := leading_spec h0 (by decide : 0 < 1)
  constructor
  · have n0 : ¬ Below A 1 0 := by unfold Below; simp; omega
    have := lt_of_below n0 sp.2
    omega
  · have b : Below A 1 64 := by unfold Below; simpa using h1
    exact lt_of_below sp.1 b
theorem own_shift {A : Nat} (h0 : 0 < A) (h1 : A < 2 ^ 64) (s : Bool) : ∃ m q, roundRatio b64 s A 1 0 = .fin s m q ∧ -52 ≤ q ∧ roundRatio b64 s A 1 (-30) = .fin s m (q - 30) := by
  have l := own_lead h0 h1
  have q1 : quantum b64 A 1 0 = leading A 1 - 52 := by unfold quantum; rw [own_qmin, own_p64]; omega
  have q2 : quantum b64 A 1 (-30) = leading A 1 - 82 := by unfold quantum; rw [own_qmin, own_p64]; omega
  have eA : ¬ A = 0 := by omega
  unfold roundRatio
  rw [if_neg eA, if_neg eA, q1, q2]
  unfold roundAt
  have u1 : unitsNum A (-30) (leading A 1 - 82) = unitsNum A 0 (leading A 1 - 52) := by
    unfold unitsNum; rw [show (-30 - (leading A 1 - 82)).toNat = (0 - (leading A 1 - 52)).toNat by omega]
  have u2 : unitsDen 1 (-30) (leading A 1 - 82) = unitsDen 1 0 (leading A 1 - 52) := by
    unfold unitsDen; rw [show (leading A 1 - 82 - -30).toNat = (leading A 1 - 52 - 0).toNat by omega]
  rw [u1, u2]
  generalize nearest (unitsNum A 0 (leading A 1 - 52)) (unitsDen 1 0 (leading A 1 - 52)) = m
  generalize leading A 1 = L at *
  unfold settle bound
  rw [own_qmax]
  by_cases hm : m < 2 ^ b64.p
  · rw [if_pos hm, if_pos hm, if_pos (by omega), if_pos (by omega)]
    exact ⟨m, L - 52, rfl, by omega, by rw [show L - 52 - 30 = L - 82 by omega]⟩
  · rw [if_neg hm, if_neg hm, if_pos (by omega), if_pos (by omega)]
    exact ⟨b64.tails, L - 52 + 1, rfl, by omega, by rw [show L - 52 + 1 - 30 = L - 82 + 1 by omega]⟩
theorem own_abs (w : Int64) : w.toInt.natAbs < 2 ^ 64 := by have h1 := w.toInt_lt; have h2 := w.le_toInt; omega
theorem own_val {w : Int64} (hw : w.toInt ≠ 0) : ∃ m q, val64 (l2d w) = .fin (decide (w.toInt < 0)) m q ∧ -52 ≤ q ∧ roundRatio b64 (decide (w.toInt < 0)) w.toInt.natAbs 1 (-30) = .fin (decide (w.toInt < 0)) m (q - 30) := by
  obtain ⟨m, q, h1, h2, h3⟩ := own_shift (A := w.toInt.natAbs) (by omega) (own_abs w) (decide (w.toInt < 0))
  exact ⟨m, q, by rw [val64_l2d]; exact h1, h2, h3⟩
theorem own_C : val64 (4742290407621132288 : UInt64) = .fin false (2 ^ 52) (-22) := by decide +kernel
theorem own_quo {a : UInt64} {s : Bool} {m : Nat} {q : Int} (h : val64 a = .fin s m q) (hq : -52 ≤ q) : val64 (ddiv a (4742290407621132288 : UInt64)) = .fin s m (q - 30) := by
  have hf := val64_fits a
  rw [h] at hf
  obtain ⟨f1, f2, f3, f4⟩ := hf
  rw [own_qmin] at f2 f4
  rw [own_qmax] at f3
  rw [val64_ddiv, h, own_C]
  show (if (2 ^ 52 : Nat) = 0 then (if m = 0 then Datum.nan else Datum.inf (s != false)) else roundRatio b64 (s != false) m (2 ^ 52) (q - (-22))) = _
  rw [if_neg (by decide), show (s != false) = s from by cases s <;> rfl]
  refine roundRatio_exact good_b64 (by decide) ⟨f1, by rw [own_qmin]; omega, by rw [own_qmax]; omega, Or.inr (f4.resolve_left (by omega))⟩ ?_
  rw [show (q - (-22) - (q - 30)).toNat = 52 by omega, show (q - 30 - (q - (-22))).toNat = 0 by omega, Nat.pow_zero, Nat.mul_one]
theorem own_y {v : Int64} (hv : v.toInt.natAbs ≤ 2 ^ 53) : ∃ s c r, val64 (ddiv (l2d v) (4742290407621132288 : UInt64)) = .fin s c r ∧ Whole v.toInt (.fin s c (r + 30)) := by
  by_cases h : v.toInt = 0
  · obtain rfl : v = 0 := Int64.toInt_inj.mp h
    exact ⟨false, 0, -1074, by decide +kernel, by unfold Whole; simp [signed]⟩
  · obtain ⟨m, q, h1, h2, -⟩ := own_val h
    refine ⟨_, m, q - 30, own_quo h1 h2, ?_⟩
    have := l2d_int hv
    unfold DInt at this
    rw [h1] at this
    rw [Int.sub_add_cancel]; exact this
theorem own_up {i : Int} {s : Bool} {c : Nat} {q : Int} (h : Whole i (.fin s c q)) : Whole (i * 1073741824) (.fin s c (q + 30)) := by
  have h' : signed s (c * 2 ^ q.toNat) = i * ((2 ^ (-q).toNat : Nat) : Int) := h
  show signed s (c * 2 ^ (q + 30).toNat) = i * 1073741824 * ((2 ^ (-(q + 30)).toNat : Nat) : Int)
  rw [signed_mul] at h' ⊢
  have p : ((2 ^ (-q).toNat : Nat) : Int) ≠ 0 := by have := Nat.two_pow_pos (-q).toNat; omega
  refine Int.eq_of_mul_eq_mul_right p ?_
  have e : (q + 30).toNat + (-q).toNat = q.toNat + (30 + (-(q + 30)).toNat) := by omega
  calc signed s c * ((2 ^ (q + 30).toNat : Nat) : Int) * ((2 ^ (-q).toNat : Nat) : Int)
      = signed s c * ((2 ^ ((q + 30).toNat + (-q).toNat) : Nat) : Int) := by rw [Nat.pow_add, Int.natCast_mul, Int.mul_assoc]
    _ = signed s c * ((2 ^ (q.toNat + (30 + (-(q + 30)).toNat)) : Nat) : Int) := by rw [e]
    _ = signed s c * ((2 ^ q.toNat : Nat) : Int) * (((2 ^ 30 : Nat) : Int) * ((2 ^ (-(q + 30)).toNat : Nat) : Int)) := by rw [Nat.pow_add, Nat.pow_add, Int.natCast_mul, Int.natCast_mul, Int.mul_assoc]
    _ = i * ((2 ^ (-q).toNat : Nat) : Int) * (((2 ^ 30 : Nat) : Int) * ((2 ^ (-(q + 30)).toNat : Nat) : Int)) := by rw [h']
    _ = i * 1073741824 * ((2 ^ (-(q + 30)).toNat : Nat) : Int) * ((2 ^ (-q).toNat : Nat) : Int) := by
      rw [show (((2 ^ 30 : Nat) : Int)) = 1073741824 from rfl]; ac_rfl
theorem own_sum_up (s t : Bool) (c d : Nat) (q r : Int) : ∃ g N, exactSum (.fin s c q) (.fin t d r) = .fin g N (min q r) ∧ exactSum (.fin s c (q + 30)) (.fin t d (r + 30)) = .fin g N (min q r + 30) := by
  refine ⟨_, _, rfl, ?_⟩
  show Datum.fin (sumSign s t (sumUnits s c (q + 30) t d (r + 30) (min (q + 30) (r + 30)))) (sumUnits s c (q + 30) t d (r + 30) (min (q + 30) (r + 30))).natAbs (min (q + 30) (r + 30)) = _
  have e : min (q + 30) (r + 30) = min q r + 30 := by omega
  have u : sumUnits s c (q + 30) t d (r + 30) (min q r + 30) = sumUnits s c q t d r (min q r) := by
    unfold sumUnits inUnits
    rw [show q + 30 - (min q r + 30) = q - min q r by omega, show r + 30 - (min q r + 30) = r - min q r by omega]
  rw [e, u]
theorem own_round (w : Int64) : FP.dadd (FP.l2d (w >>> ((30 : Int32).toInt64 &&& 63))) (FP.ddiv (FP.l2d (w &&& 1073741823)) (4742290407621132288 : UInt64)) = FP.ddiv (FP.l2d w) (4742290407621132288 : UInt64) := by
  by_cases hw : w.toInt = 0
  · obtain rfl : w = 0 := Int64.toInt_inj.mp hw
    decide +kernel
  have h1 := own_hi w
  have h2 := own_lo w
  have b1 := w.toInt_lt
  have b2 := w.le_toInt
  generalize w >>> ((30 : Int32).toInt64 &&& 63) = hi at *
  generalize w &&& 1073741823 = lo at *
  obtain ⟨m, q, v1, v2, v3⟩ := own_val hw
  have vL := own_quo v1 v2
  have wx := l2d_int (a := hi) (by omega)
  obtain ⟨t, d, r, y1, y2⟩ := own_y (v := lo) (by omega)
  unfold DInt at wx
  cases hx : val64 (l2d hi) with
  | nan => rw [hx] at wx; exact wx.elim
  | inf => rw [hx] at wx; exact wx.elim
  | fin s c q1 =>
    rw [hx] at wx
    obtain ⟨g, N, s1, s2⟩ := own_sum_up s t c d q1 r
    have ws := whole_sum (own_up wx) y2
    rw [s2, show hi.toInt * 1073741824 + lo.toInt = w.toInt by omega] at ws
    have hg := whole_sign ws hw
    have hN := whole_natAbs ws
    have vR : val64 (dadd (l2d hi) (ddiv (l2d lo) (4742290407621132288 : UInt64))) = .fin (decide (w.toInt < 0)) m (q - 30) := by
      rw [val64_dadd, hx, y1, s1]
      show roundRatio b64 g N 1 (min q1 r) = _
      rw [hg, ← v3]
      refine roundRatio_congr (by decide) (by decide) ?_
      rw [Nat.mul_one, Nat.mul_one, show (min q1 r - -30).toNat = (min q1 r + 30).toNat by omega, show (-30 - min q1 r).toNat = (-(min q1 r + 30)).toNat by omega]
      exact hN
    exact val64_inj (by rw [vR]; intro z; cases z) (vR.trans vL.symm)
end Rnd
theorem d1_0 : decode prog_52_method_1_code 0 = .ok (.aload_n 0, 1) := by decide +kernel
theorem d1_1 : decode prog_52_method_1_code 1 = .ok (.invokespecial 3, 3) := by decide +kernel
theorem d1_4 : decode prog_52_method_1_code 4 = .ok (.aload_n 0, 1) := by decide +kernel
theorem d1_5 : decode prog_52_method_1_code 5 = .ok (.lload_n 1, 1) := by decide +kernel
theorem d1_6 : decode prog_52_method_1_code 6 = .ok (.putfield 9, 3) := by decide +kernel
theorem d1_9 : decode prog_52_method_1_code 9 = .ok (.aload_n 0, 1) := by decide +kernel
theorem d1_10 : decode prog_52_method_1_code 10 = .ok (.aload_n 3, 1) := by decide +kernel
theorem d1_11 : decode prog_52_method_1_code 11 = .ok (.putfield 15, 3) := by decide +kernel
theorem d1_14 : decode prog_52_method_1_code 14 = .ok (.aload_n 0, 1) := by decide +kernel
theorem d1_15 : decode prog_52_method_1_code 15 = .ok (.dload 4, 2) := by decide +kernel
theorem d1_17 : decode prog_52_method_1_code 17 = .ok (.putfield 19, 3) := by decide +kernel
theorem d1_20 : decode prog_52_method_1_code 20 = .ok (.aload_n 0, 1) := by decide +kernel
theorem d1_21 : decode prog_52_method_1_code 21 = .ok (.lload 6, 2) := by decide +kernel
theorem d1_23 : decode prog_52_method_1_code 23 = .ok (.putfield 23, 3) := by decide +kernel
theorem d1_26 : decode prog_52_method_1_code 26 = .ok (.aload_n 0, 1) := by decide +kernel
theorem d1_27 : decode prog_52_method_1_code 27 = .ok (.lload 8, 2) := by decide +kernel
theorem d1_29 : decode prog_52_method_1_code 29 = .ok (.putfield 26, 3) := by decide +kernel
theorem d1_32 : decode prog_52_method_1_code 32 = .ok (.aload_n 0, 1) := by decide +kernel
theorem d1_33 : decode prog_52_method_1_code 33 = .ok (.aload 10, 2) := by decide +kernel
theorem d1_35 : decode prog_52_method_1_code 35 = .ok (.putfield 29, 3) := by decide +kernel
theorem d1_38 : decode prog_52_method_1_code 38 = .ok (.return_, 1) := by decide +kernel
theorem pn_0 : plainName "dexterous/transform/LinearRelaxation$Bound" = true := by first | (simp [plainName, overriddenIn]; done) | decide +kernel
theorem ef_1n (m : MethodId) {a1 : Addr} {q2 : Int64} {a3 : Addr} {d4 : UInt64} {q5 : Int64} {q6 : Int64} : entryFrame m #[(.ref a1), (.long q2), (.ref a3), (.double d4), (.long q5), (.long q6), .null] 11 = mkF m 0 #[.val (.ref a1), .val (.long q2), .second, .val (.ref a3), .val (.double d4), .second, .val (.long q5), .second, .val (.long q6), .second, .val .null] [] := by first | (simp [entryFrame, mkF, argsToLocals, Value.category]; done) | rfl
def Q1n (Z : State) (a1 : Addr) (q2 : Int64) (a3 : Addr) (d4 : UInt64) (q5 : Int64) (q6 : Int64) (u_bound : Value) (u_shares : Value) (u_price : Value) (u_work : Value) (u_total : Value) (u_worth : Value) (h0 : Heap) (n0 : Nat) (v : Option Value) (h : Heap) (L : List Loc) : Prop := v = none ∧ Fr n0 L ∧ Keep h0 h [a1] ∧ Exa Z h a1 "dexterous/transform/LinearRelaxation$Bound" ∧ Fld Z h a1 "dexterous/transform/LinearRelaxation$Bound" "bound" "J" (.long q2) ∧ Fld Z h a1 "dexterous/transform/LinearRelaxation$Bound" "shares" "[D" (.ref a3) ∧ Fld Z h a1 "dexterous/transform/LinearRelaxation$Bound" "price" "D" (.double d4) ∧ Fld Z h a1 "dexterous/transform/LinearRelaxation$Bound" "work" "J" (.long q5) ∧ Fld Z h a1 "dexterous/transform/LinearRelaxation$Bound" "total" "J" (.long q6) ∧ Fld Z h a1 "dexterous/transform/LinearRelaxation$Bound" "worth" "[J" .null
set_option maxRecDepth 65536 in
set_option maxHeartbeats 40000000 in
theorem rm1n (l : Launch) (Z : State) (a0 : Array Value) (hw : ∀ d ∈ tables_1, d.before a0 Z = true) (ws : List Jvm.Cond) (a1 : Addr) (q2 : Int64) (a3 : Addr) (d4 : UInt64) (q5 : Int64) (q6 : Int64) (u_bound : Value) (u_shares : Value) (u_price : Value) (u_work : Value) (u_total : Value) (u_worth : Value) (h0 : Heap) (n0 : Nat) (Z0 : n0 ≤ h0.size) (F_bound : Fld Z h0 a1 "dexterous/transform/LinearRelaxation$Bound" "bound" "J" u_bound) (F_shares : Fld Z h0 a1 "dexterous/transform/LinearRelaxation$Bound" "shares" "[D" u_shares) (F_price : Fld Z h0 a1 "dexterous/transform/LinearRelaxation$Bound" "price" "D" u_price) (F_work : Fld Z h0 a1 "dexterous/transform/LinearRelaxation$Bound" "work" "J" u_work) (F_total : Fld Z h0 a1 "dexterous/transform/LinearRelaxation$Bound" "total" "J" u_total) (F_worth : Fld Z h0 a1 "dexterous/transform/LinearRelaxation$Bound" "worth" "[J" u_worth) (Ex : Exa Z h0 a1 "dexterous/transform/LinearRelaxation$Bound") (g : n0 ≤ a1) :
    MetFree l (⟨"dexterous/transform/LinearRelaxation$Bound", "<init>", "(J[DDJJ[J)V"⟩ : MethodName) (head1 (Jvm.Cond.code (⟨"dexterous/transform/LinearRelaxation$Bound", "<init>", "(J[DDJJ[J)V"⟩ : MethodName) prog_52_method_1_code 11 none :: ws) ({ frames := 1, cells := 0, slots := 0, locals := 12 } : Room)) (fun a U => a = #[(.ref a1), (.long q2), (.ref a3), (.double d4), (.long q5), (.long q6), .null] ∧ Z.Warmed39 U.vm ∧ U.heap = h0) (fun _ _ _ _ _ => True) (fun _ U oz U' => ∃ v L, oz = .returned v ∧ Q1n Z a1 q2 a3 d4 q5 q6 u_bound u_shares u_price u_work u_total u_worth h0 n0 v U'.heap L ∧ FrameEnd U oz U' L (({ frames := 1, cells := 0, slots := 0, locals := 12 } : Room)).cells (({ frames := 1, cells := 0, slots := 0, locals := 12 } : Room)).slots) := by
  refine MetFree.of_bodySF (plainFor_of_name pn_0) hisR ?_
  intro p e s m args below meth c s₁ Bd hml0 hP hK
  obtain ⟨rfl, hZ, hh⟩ := hP
  have hx := Bd.exec
  have hby := Bd.bytes
  have hml : c.maxLocals = 11 := hml0
  have hown : s.vm.findClass "dexterous/transform/LinearRelaxation$Bound" = some m.cls := findClass_of_methodNamed Bd.named
  have hnm := (name_of_methodNamed Bd.named Bd.method).1
  have X0 : Stand p l e ({ frames := 1, cells := 0, slots := 0, locals := 12 } : Room) s m #[(.ref a1), (.long q2), (.ref a3), (.double d4), (.long q5), (.long q6), .null] below meth c s₁ [] 0 0 := Stand.of_body Bd
  have e0 : s₁.heap = h0 := by rw [← hh, Bd.state]; rfl
  have N0 := Fr.nil n0
  show own_Go p.tables e below (own_P s (Q1n Z a1 q2 a3 d4 q5 q6 u_bound u_shares u_price u_work u_total u_worth h0 n0) ({ frames := 1, cells := 0, slots := 0, locals := 12 } : Room).cells ({ frames := 1, cells := 0, slots := 0, locals := 12 } : Room).slots) s₁ _
  rw [ef_1n]
  show own_Go p.tables e below _ s₁ (mkF m 0 #[.val (.ref a1), .val (.long q2), .second, .val (.ref a3), .val (.double d4), .second, .val (.long q5), .second, .val (.long q6), .second, .val .null] [])
  refine own_go (fun tz kz => XS.aloadN X0.here hx rfl (hb hby d1_0) rfl rfl kz) ?_
  show own_Go p.tables e below _ s₁ (mkF m 1 #[.val (.ref a1), .val (.long q2), .second, .val (.ref a3), .val (.double d4), .second, .val (.long q5), .second, .val (.long q6), .second, .val .null] [(.ref a1)])
  obtain ⟨T1, X1, e1, st1⟩ := initO X0 hx hZ hown (hw _ (List.mem_of_getElem? (i := 8) rfl)) (hw _ (List.mem_of_getElem? (i := 9) rfl)) (hw _ (List.mem_of_getElem? (i := 10) rfl)) e0 (g := (mkF m 1 #[.val (.ref a1), .val (.long q2), .second, .val (.ref a3), .val (.double d4), .second, .val (.long q5), .second, .val (.long q6), .second, .val .null] [(.ref a1)])) rfl (by rw [hml]; rfl) rfl (hb hby d1_1) (by decide) (W := 0) (by show 2 * 0 + _ ≤ _; exact Nat.le_of_eq rfl) (by decide)
  refine own_go st1 ?_
  show own_Go p.tables e below _ T1 (mkF m 4 #[.val (.ref a1), .val (.long q2), .second, .val (.ref a3), .val (.double d4), .second, .val (.long q5), .second, .val (.long q6), .second, .val .null] [])
  refine own_go (fun tz kz => XS.aloadN X1.here hx rfl (hb hby d1_4) rfl rfl kz) ?_
  show own_Go p.tables e below _ T1 (mkF m 5 #[.val (.ref a1), .val (.long q2), .second, .val (.ref a3), .val (.double d4), .second, .val (.long q5), .second, .val (.long q6), .second, .val .null] [(.ref a1)])
  refine own_go (fun tz kz => XT.lloadN X1.here hx rfl (hb hby d1_5) rfl kz) ?_
  show own_Go p.tables e below _ T1 (mkF m 6 #[.val (.ref a1), .val (.long q2), .second, .val (.ref a3), .val (.double d4), .second, .val (.long q5), .second, .val (.long q6), .second, .val .null] [(.long q2), (.ref a1)])
  obtain ⟨T2, h2, X2, e2, W2, st2⟩ := putF X1 hx hZ hown (host := "") (Or.inl (hw _ (List.mem_of_getElem? (i := 11) rfl))) Via.refl e1 F_bound Ex (Or.inr ⟨(hw _ (List.mem_of_getElem? (i := 12) rfl)), rfl, hnm⟩) (hw _ (List.mem_of_getElem? (i := 2) rfl)) (ty := .long) (by decide) rfl rfl (g := (mkF m 6 #[.val (.ref a1), .val (.long q2), .second, .val (.ref a3), .val (.double d4), .second, .val (.long q5), .second, .val (.long q6), .second, .val .null] [(.long q2), (.ref a1)])) rfl rfl (hb hby d1_6)
  have Fw2 := F_bound.same W2
  have N2 := Fr.snoc X2 N0 g
  refine own_go st2 ?_
  show own_Go p.tables e below _ T2 (mkF m 9 #[.val (.ref a1), .val (.long q2), .second, .val (.ref a3), .val (.double d4), .second, .val (.long q5), .second, .val (.long q6), .second, .val .null] [])
  refine own_go (fun tz kz => XS.aloadN X2.here hx rfl (hb hby d1_9) rfl rfl kz) ?_
  show own_Go p.tables e below _ T2 (mkF m 10 #[.val (.ref a1), .val (.long q2), .second, .val (.ref a3), .val (.double d4), .second, .val (.long q5), .second, .val (.long q6), .second, .val .null] [(.ref a1)])
  refine own_go (fun tz kz => XS.aloadN X2.here hx rfl (hb hby d1_10) rfl rfl kz) ?_
  show own_Go p.tables e below _ T2 (mkF m 11 #[.val (.ref a1), .val (.long q2), .second, .val (.ref a3), .val (.double d4), .second, .val (.long q5), .second, .val (.long q6), .second, .val .null] [(.ref a3), (.ref a1)])
  obtain ⟨T3, h3, X3, e3, W3, st3⟩ := putF X2 hx hZ hown (host := "") (Or.inl (hw _ (List.mem_of_getElem? (i := 13) rfl))) Via.refl e2 (F_shares.other W2 (Or.inr (slot_ne (Or.inr (hw _ (List.mem_of_getElem? (i := 14) rfl))) (Or.inr (hw _ (List.mem_of_getElem? (i := 12) rfl))) (by decide) (t := (.array .double)) (t' := .long) (by decide) (by decide)))) (Ex.wr W2) (Or.inr ⟨(hw _ (List.mem_of_getElem? (i := 14) rfl)), rfl, hnm⟩) (hw _ (List.mem_of_getElem? (i := 2) rfl)) (ty := (.array .double)) (by decide) rfl rfl (g := (mkF m 11 #[.val (.ref a1), .val (.long q2), .second, .val (.ref a3), .val (.double d4), .second, .val (.long q5), .second, .val (.long q6), .second, .val .null] [(.ref a3), (.ref a1)])) rfl rfl (hb hby d1_11)
  have Fw3 := (F_shares.other W2 (Or.inr (slot_ne (Or.inr (hw _ (List.mem_of_getElem? (i := 14) rfl))) (Or.inr (hw _ (List.mem_of_getElem? (i := 12) rfl))) (by decide) (t := (.array .double)) (t' := .long) (by decide) (by decide)))).same W3
  have N3 := Fr.snoc X3 N2 g
  refine own_go st3 ?_
  show own_Go p.tables e below _ T3 (mkF m 14 #[.val (.ref a1), .val (.long q2), .second, .val (.ref a3), .val (.double d4), .second, .val (.long q5), .second, .val (.long q6), .second, .val .null] [])
  refine own_go (fun tz kz => XS.aloadN X3.here hx rfl (hb hby d1_14) rfl rfl kz) ?_
  show own_Go p.tables e below _ T3 (mkF m 15 #[.val (.ref a1), .val (.long q2), .second, .val (.ref a3), .val (.double d4), .second, .val (.long q5), .second, .val (.long q6), .second, .val .null] [(.ref a1)])
  refine own_go (fun tz kz => XS.dload X3.here hx rfl (hb hby d1_15) rfl kz) ?_
  show own_Go p.tables e below _ T3 (mkF m 17 #[.val (.ref a1), .val (.long q2), .second, .val (.ref a3), .val (.double d4), .second, .val (.long q5), .second, .val (.long q6), .second, .val .null] [(.double d4), (.ref a1)])
  obtain ⟨T4, h4, X4, e4, W4, st4⟩ := putF X3 hx hZ hown (host := "") (Or.inl (hw _ (List.mem_of_getElem? (i := 15) rfl))) Via.refl e3 ((F_price.other W2 (Or.inr (slot_ne (Or.inr (hw _ (List.mem_of_getElem? (i := 16) rfl))) (Or.inr (hw _ (List.mem_of_getElem? (i := 12) rfl))) (by decide) (t := .double) (t' := .long) (by decide) (by decide)))).other W3 (Or.inr (slot_ne (Or.inr (hw _ (List.mem_of_getElem? (i := 16) rfl))) (Or.inr (hw _ (List.mem_of_getElem? (i := 14) rfl))) (by decide) (t := .double) (t' := (.array .double)) (by decide) (by decide)))) ((Ex.wr W2).wr W3) (Or.inr ⟨(hw _ (List.mem_of_getElem? (i := 16) rfl)), rfl, hnm⟩) (hw _ (List.mem_of_getElem? (i := 2) rfl)) (ty := .double) (by decide) rfl rfl (g := (mkF m 17 #[.val (.ref a1), .val (.long q2), .second, .val (.ref a3), .val (.double d4), .second, .val (.long q5), .second, .val (.long q6), .second, .val .null] [(.double d4), (.ref a1)])) rfl rfl (hb hby d1_17)
  have Fw4 := ((F_price.other W2 (Or.inr (slot_ne (Or.inr (hw _ (List.mem_of_getElem? (i := 16) rfl))) (Or.inr (hw _ (List.mem_of_getElem? (i := 12) rfl))) (by decide) (t := .double) (t' := .long) (by decide) (by decide)))).other W3 (Or.inr (slot_ne (Or.inr (hw _ (List.mem_of_getElem? (i := 16) rfl))) (Or.inr (hw _ (List.mem_of_getElem? (i := 14) rfl))) (by decide) (t := .double) (t' := (.array .double)) (by decide) (by decide)))).same W4
  have N4 := Fr.snoc X4 N3 g
  refine own_go st4 ?_
  show own_Go p.tables e below _ T4 (mkF m 20 #[.val (.ref a1), .val (.long q2), .second, .val (.ref a3), .val (.double d4), .second, .val (.long q5), .second, .val (.long q6), .second, .val .null] [])
  refine own_go (fun tz kz => XS.aloadN X4.here hx rfl (hb hby d1_20) rfl rfl kz) ?_
  show own_Go p.tables e below _ T4 (mkF m 21 #[.val (.ref a1), .val (.long q2), .second, .val (.ref a3), .val (.double d4), .second, .val (.long q5), .second, .val (.long q6), .second, .val .null] [(.ref a1)])
  refine own_go (fun tz kz => XT.lload X4.here hx rfl (hb hby d1_21) rfl kz) ?_
  show own_Go p.tables e below _ T4 (mkF m 23 #[.val (.ref a1), .val (.long q2), .second, .val (.ref a3), .val (.double d4), .second, .val (.long q5), .second, .val (.long q6), .second, .val .null] [(.long q5), (.ref a1)])
  obtain ⟨T5, h5, X5, e5, W5, st5⟩ := putF X4 hx hZ hown (host := "") (Or.inl (hw _ (List.mem_of_getElem? (i := 17) rfl))) Via.refl e4 (((F_work.other W2 (Or.inr (slot_ne (Or.inr (hw _ (List.mem_of_getElem? (i := 18) rfl))) (Or.inr (hw _ (List.mem_of_getElem? (i := 12) rfl))) (by decide) (t := .long) (t' := .long) (by decide) (by decide)))).other W3 (Or.inr (slot_ne (Or.inr (hw _ (List.mem_of_getElem? (i := 18) rfl))) (Or.inr (hw _ (List.mem_of_getElem? (i := 14) rfl))) (by decide) (t := .long) (t' := (.array .double)) (by decide) (by decide)))).other W4 (Or.inr (slot_ne (Or.inr (hw _ (List.mem_of_getElem? (i := 18) rfl))) (Or.inr (hw _ (List.mem_of_getElem? (i := 16) rfl))) (by decide) (t := .long) (t' := .double) (by decide) (by decide)))) (((Ex.wr W2).wr W3).wr W4) (Or.inr ⟨(hw _ (List.mem_of_getElem? (i := 18) rfl)), rfl, hnm⟩) (hw _ (List.mem_of_getElem? (i := 2) rfl)) (ty := .long) (by decide) rfl rfl (g := (mkF m 23 #[.val (.ref a1), .val (.long q2), .second, .val (.ref a3), .val (.double d4), .second, .val (.long q5), .second, .val (.long q6), .second, .val .null] [(.long q5), (.ref a1)])) rfl rfl (hb hby d1_23)
  have Fw5 := (((F_work.other W2 (Or.inr (slot_ne (Or.inr (hw _ (List.mem_of_getElem? (i := 18) rfl))) (Or.inr (hw _ (List.mem_of_getElem? (i := 12) rfl))) (by decide) (t := .long) (t' := .long) (by decide) (by decide)))).other W3 (Or.inr (slot_ne (Or.inr (hw _ (List.mem_of_getElem? (i := 18) rfl))) (Or.inr (hw _ (List.mem_of_getElem? (i := 14) rfl))) (by decide) (t := .long) (t' := (.array .double)) (by decide) (by decide)))).other W4 (Or.inr (slot_ne (Or.inr (hw _ (List.mem_of_getElem? (i := 18) rfl))) (Or.inr (hw _ (List.mem_of_getElem? (i := 16) rfl))) (by decide) (t := .long) (t' := .double) (by decide) (by decide)))).same W5
  have N5 := Fr.snoc X5 N4 g
  refine own_go st5 ?_
  show own_Go p.tables e below _ T5 (mkF m 26 #[.val (.ref a1), .val (.long q2), .second, .val (.ref a3), .val (.double d4), .second, .val (.long q5), .second, .val (.long q6), .second, .val .null] [])
  refine own_go (fun tz kz => XS.aloadN X5.here hx rfl (hb hby d1_26) rfl rfl kz) ?_
  show own_Go p.tables e below _ T5 (mkF m 27 #[.val (.ref a1), .val (.long q2), .second, .val (.ref a3), .val (.double d4), .second, .val (.long q5), .second, .val (.long q6), .second, .val .null] [(.ref a1)])
  refine own_go (fun tz kz => XT.lload X5.here hx rfl (hb hby d1_27) rfl kz) ?_
  show own_Go p.tables e below _ T5 (mkF m 29 #[.val (.ref a1), .val (.long q2), .second, .val (.ref a3), .val (.double d4), .second, .val (.long q5), .second, .val (.long q6), .second, .val .null] [(.long q6), (.ref a1)])
  obtain ⟨T6, h6, X6, e6, W6, st6⟩ := putF X5 hx hZ hown (host := "") (Or.inl (hw _ (List.mem_of_getElem? (i := 19) rfl))) Via.refl e5 ((((F_total.other W2 (Or.inr (slot_ne (Or.inr (hw _ (List.mem_of_getElem? (i := 20) rfl))) (Or.inr (hw _ (List.mem_of_getElem? (i := 12) rfl))) (by decide) (t := .long) (t' := .long) (by decide) (by decide)))).other W3 (Or.inr (slot_ne (Or.inr (hw _ (List.mem_of_getElem? (i := 20) rfl))) (Or.inr (hw _ (List.mem_of_getElem? (i := 14) rfl))) (by decide) (t := .long) (t' := (.array .double)) (by decide) (by decide)))).other W4 (Or.inr (slot_ne (Or.inr (hw _ (List.mem_of_getElem? (i := 20) rfl))) (Or.inr (hw _ (List.mem_of_getElem? (i := 16) rfl))) (by decide) (t := .long) (t' := .double) (by decide) (by decide)))).other W5 (Or.inr (slot_ne (Or.inr (hw _ (List.mem_of_getElem? (i := 20) rfl))) (Or.inr (hw _ (List.mem_of_getElem? (i := 18) rfl))) (by decide) (t := .long) (t' := .long) (by decide) (by decide)))) ((((Ex.wr W2).wr W3).wr W4).wr W5) (Or.inr ⟨(hw _ (List.mem_of_getElem? (i := 20) rfl)), rfl, hnm⟩) (hw _ (List.mem_of_getElem? (i := 2) rfl)) (ty := .long) (by decide) rfl rfl (g := (mkF m 29 #[.val (.ref a1), .val (.long q2), .second, .val (.ref a3), .val (.double d4), .second, .val (.long q5), .second, .val (.long q6), .second, .val .null] [(.long q6), (.ref a1)])) rfl rfl (hb hby d1_29)
  have Fw6 := ((((F_total.other W2 (Or.inr (slot_ne (Or.inr (hw _ (List.mem_of_getElem? (i := 20) rfl))) (Or.inr (hw _ (List.mem_of_getElem? (i := 12) rfl))) (by decide) (t := .long) (t' := .long) (by decide) (by decide)))).other W3 (Or.inr (slot_ne (Or.inr (hw _ (List.mem_of_getElem? (i := 20) rfl))) (Or.inr (hw _ (List.mem_of_getElem? (i := 14) rfl))) (by decide) (t := .long) (t' := (.array .double)) (by decide) (by decide)))).other W4 (Or.inr (slot_ne (Or.inr (hw _ (List.mem_of_getElem? (i := 20) rfl))) (Or.inr (hw _ (List.mem_of_getElem? (i := 16) rfl))) (by decide) (t := .long) (t' := .double) (by decide) (by decide)))).other W5 (Or.inr (slot_ne (Or.inr (hw _ (List.mem_of_getElem? (i := 20) rfl))) (Or.inr (hw _ (List.mem_of_getElem? (i := 18) rfl))) (by decide) (t := .long) (t' := .long) (by decide) (by decide)))).same W6
  have N6 := Fr.snoc X6 N5 g
  refine own_go st6 ?_
  show own_Go p.tables e below _ T6 (mkF m 32 #[.val (.ref a1), .val (.long q2), .second, .val (.ref a3), .val (.double d4), .second, .val (.long q5), .second, .val (.long q6), .second, .val .null] [])
  refine own_go (fun tz kz => XS.aloadN X6.here hx rfl (hb hby d1_32) rfl rfl kz) ?_
  show own_Go p.tables e below _ T6 (mkF m 33 #[.val (.ref a1), .val (.long q2), .second, .val (.ref a3), .val (.double d4), .second, .val (.long q5), .second, .val (.long q6), .second, .val .null] [(.ref a1)])
  refine own_go (fun tz kz => XS.aload X6.here hx rfl (hb hby d1_33) rfl rfl kz) ?_
  show own_Go p.tables e below _ T6 (mkF m 35 #[.val (.ref a1), .val (.long q2), .second, .val (.ref a3), .val (.double d4), .second, .val (.long q5), .second, .val (.long q6), .second, .val .null] [.null, (.ref a1)])
  obtain ⟨T7, h7, X7, e7, W7, st7⟩ := putF X6 hx hZ hown (host := "") (Or.inl (hw _ (List.mem_of_getElem? (i := 21) rfl))) Via.refl e6 (((((F_worth.other W2 (Or.inr (slot_ne (Or.inr (hw _ (List.mem_of_getElem? (i := 22) rfl))) (Or.inr (hw _ (List.mem_of_getElem? (i := 12) rfl))) (by decide) (t := (.array .long)) (t' := .long) (by decide) (by decide)))).other W3 (Or.inr (slot_ne (Or.inr (hw _ (List.mem_of_getElem? (i := 22) rfl))) (Or.inr (hw _ (List.mem_of_getElem? (i := 14) rfl))) (by decide) (t := (.array .long)) (t' := (.array .double)) (by decide) (by decide)))).other W4 (Or.inr (slot_ne (Or.inr (hw _ (List.mem_of_getElem? (i := 22) rfl))) (Or.inr (hw _ (List.mem_of_getElem? (i := 16) rfl))) (by decide) (t := (.array .long)) (t' := .double) (by decide) (by decide)))).other W5 (Or.inr (slot_ne (Or.inr (hw _ (List.mem_of_getElem? (i := 22) rfl))) (Or.inr (hw _ (List.mem_of_getElem? (i := 18) rfl))) (by decide) (t := (.array .long)) (t' := .long) (by decide) (by decide)))).other W6 (Or.inr (slot_ne (Or.inr (hw _ (List.mem_of_getElem? (i := 22) rfl))) (Or.inr (hw _ (List.mem_of_getElem? (i := 20) rfl))) (by decide) (t := (.array .long)) (t' := .long) (by decide) (by decide)))) (((((Ex.wr W2).wr W3).wr W4).wr W5).wr W6) (Or.inr ⟨(hw _ (List.mem_of_getElem? (i := 22) rfl)), rfl, hnm⟩) (hw _ (List.mem_of_getElem? (i := 2) rfl)) (ty := (.array .long)) (by decide) rfl rfl (g := (mkF m 35 #[.val (.ref a1), .val (.long q2), .second, .val (.ref a3), .val (.double d4), .second, .val (.long q5), .second, .val (.long q6), .second, .val .null] [.null, (.ref a1)])) rfl rfl (hb hby d1_35)
  have Fw7 := (((((F_worth.other W2 (Or.inr (slot_ne (Or.inr (hw _ (List.mem_of_getElem? (i := 22) rfl))) (Or.inr (hw _ (List.mem_of_getElem? (i := 12) rfl))) (by decide) (t := (.array .long)) (t' := .long) (by decide) (by decide)))).other W3 (Or.inr (slot_ne (Or.inr (hw _ (List.mem_of_getElem? (i := 22) rfl))) (Or.inr (hw _ (List.mem_of_getElem? (i := 14) rfl))) (by decide) (t := (.array .long)) (t' := (.array .double)) (by decide) (by decide)))).other W4 (Or.inr (slot_ne (Or.inr (hw _ (List.mem_of_getElem? (i := 22) rfl))) (Or.inr (hw _ (List.mem_of_getElem? (i := 16) rfl))) (by decide) (t := (.array .long)) (t' := .double) (by decide) (by decide)))).other W5 (Or.inr (slot_ne (Or.inr (hw _ (List.mem_of_getElem? (i := 22) rfl))) (Or.inr (hw _ (List.mem_of_getElem? (i := 18) rfl))) (by decide) (t := (.array .long)) (t' := .long) (by decide) (by decide)))).other W6 (Or.inr (slot_ne (Or.inr (hw _ (List.mem_of_getElem? (i := 22) rfl))) (Or.inr (hw _ (List.mem_of_getElem? (i := 20) rfl))) (by decide) (t := (.array .long)) (t' := .long) (by decide) (by decide)))).same W7
  have N7 := Fr.snoc X7 N6 g
  refine own_go st7 ?_
  show own_Go p.tables e below _ T7 (mkF m 38 #[.val (.ref a1), .val (.long q2), .second, .val (.ref a3), .val (.double d4), .second, .val (.long q5), .second, .val (.long q6), .second, .val .null] [])
  obtain ⟨fs, hr, hrun, hended, hW, hsame⟩ := X7.leave (v := none) (fun _ => rfl) (BodyLoose.notSynchronized Bd)
  refine ⟨_, _, ?_, hrun, hended, _, _, rfl, ?_, ⟨_, rfl⟩, hW, hsame.mono (by decide) (by decide)⟩
  · exact X7.returnOut hx Bd.returns (hb hby d1_38) hr
  · show Q1n Z a1 q2 a3 d4 q5 q6 u_bound u_shares u_price u_work u_total u_worth h0 n0 _ T7.heap _
    rw [e7]
    exact ⟨rfl, N7, (((((((Keep.refl _ _).wr W2 (Or.inl (List.mem_of_getElem? (i := 0) rfl))).wr W3 (Or.inl (List.mem_of_getElem? (i := 0) rfl))).wr W4 (Or.inl (List.mem_of_getElem? (i := 0) rfl))).wr W5 (Or.inl (List.mem_of_getElem? (i := 0) rfl))).wr W6 (Or.inl (List.mem_of_getElem? (i := 0) rfl))).wr W7 (Or.inl (List.mem_of_getElem? (i := 0) rfl))), ((((((Ex.wr W2).wr W3).wr W4).wr W5).wr W6).wr W7), (((((Fw2.other W3 (Or.inr (slot_ne (Or.inr (hw _ (List.mem_of_getElem? (i := 12) rfl))) (Or.inr (hw _ (List.mem_of_getElem? (i := 14) rfl))) (by decide) (t := .long) (t' := (.array .double)) (by decide) (by decide)))).other W4 (Or.inr (slot_ne (Or.inr (hw _ (List.mem_of_getElem? (i := 12) rfl))) (Or.inr (hw _ (List.mem_of_getElem? (i := 16) rfl))) (by decide) (t := .long) (t' := .double) (by decide) (by decide)))).other W5 (Or.inr (slot_ne (Or.inr (hw _ (List.mem_of_getElem? (i := 12) rfl))) (Or.inr (hw _ (List.mem_of_getElem? (i := 18) rfl))) (by decide) (t := .long) (t' := .long) (by decide) (by decide)))).other W6 (Or.inr (slot_ne (Or.inr (hw _ (List.mem_of_getElem? (i := 12) rfl))) (Or.inr (hw _ (List.mem_of_getElem? (i := 20) rfl))) (by decide) (t := .long) (t' := .long) (by decide) (by decide)))).other W7 (Or.inr (slot_ne (Or.inr (hw _ (List.mem_of_getElem? (i := 12) rfl))) (Or.inr (hw _ (List.mem_of_getElem? (i := 22) rfl))) (by decide) (t := .long) (t' := (.array .long)) (by decide) (by decide)))), ((((Fw3.other W4 (Or.inr (slot_ne (Or.inr (hw _ (List.mem_of_getElem? (i := 14) rfl))) (Or.inr (hw _ (List.mem_of_getElem? (i := 16) rfl))) (by decide) (t := (.array .double)) (t' := .double) (by decide) (by decide)))).other W5 (Or.inr (slot_ne (Or.inr (hw _ (List.mem_of_getElem? (i := 14) rfl))) (Or.inr (hw _ (List.mem_of_getElem? (i := 18) rfl))) (by decide) (t := (.array .double)) (t' := .long) (by decide) (by decide)))).other W6 (Or.inr (slot_ne (Or.inr (hw _ (List.mem_of_getElem? (i := 14) rfl))) (Or.inr (hw _ (List.mem_of_getElem? (i := 20) rfl))) (by decide) (t := (.array .double)) (t' := .long) (by decide) (by decide)))).other W7 (Or.inr (slot_ne (Or.inr (hw _ (List.mem_of_getElem? (i := 14) rfl))) (Or.inr (hw _ (List.mem_of_getElem? (i := 22) rfl))) (by decide) (t := (.array .double)) (t' := (.array .long)) (by decide) (by decide)))), (((Fw4.other W5 (Or.inr (slot_ne (Or.inr (hw _ (List.mem_of_getElem? (i := 16) rfl))) (Or.inr (hw _ (List.mem_of_getElem? (i := 18) rfl))) (by decide) (t := .double) (t' := .long) (by decide) (by decide)))).other W6 (Or.inr (slot_ne (Or.inr (hw _ (List.mem_of_getElem? (i := 16) rfl))) (Or.inr (hw _ (List.mem_of_getElem? (i := 20) rfl))) (by decide) (t := .double) (t' := .long) (by decide) (by decide)))).other W7 (Or.inr (slot_ne (Or.inr (hw _ (List.mem_of_getElem? (i := 16) rfl))) (Or.inr (hw _ (List.mem_of_getElem? (i := 22) rfl))) (by decide) (t := .double) (t' := (.array .long)) (by decide) (by decide)))), ((Fw5.other W6 (Or.inr (slot_ne (Or.inr (hw _ (List.mem_of_getElem? (i := 18) rfl))) (Or.inr (hw _ (List.mem_of_getElem? (i := 20) rfl))) (by decide) (t := .long) (t' := .long) (by decide) (by decide)))).other W7 (Or.inr (slot_ne (Or.inr (hw _ (List.mem_of_getElem? (i := 18) rfl))) (Or.inr (hw _ (List.mem_of_getElem? (i := 22) rfl))) (by decide) (t := .long) (t' := (.array .long)) (by decide) (by decide)))), (Fw6.other W7 (Or.inr (slot_ne (Or.inr (hw _ (List.mem_of_getElem? (i := 20) rfl))) (Or.inr (hw _ (List.mem_of_getElem? (i := 22) rfl))) (by decide) (t := .long) (t' := (.array .long)) (by decide) (by decide)))), Fw7⟩
theorem ef_1r (m : MethodId) {a1 : Addr} {q2 : Int64} {a3 : Addr} {d4 : UInt64} {q5 : Int64} {q6 : Int64} {a7 : Addr} : entryFrame m #[(.ref a1), (.long q2), (.ref a3), (.double d4), (.long q5), (.long q6), (.ref a7)] 11 = mkF m 0 #[.val (.ref a1), .val (.long q2), .second, .val (.ref a3), .val (.double d4), .second, .val (.long q5), .second, .val (.long q6), .second, .val (.ref a7)] [] := by first | (simp [entryFrame, mkF, argsToLocals, Value.category]; done) | rfl
def Q1r (Z : State) (a1 : Addr) (q2 : Int64) (a3 : Addr) (d4 : UInt64) (q5 : Int64) (q6 : Int64) (a7 : Addr) (u_bound : Value) (u_shares : Value) (u_price : Value) (u_work : Value) (u_total : Value) (u_worth : Value) (h0 : Heap) (n0 : Nat) (v : Option Value) (h : Heap) (L : List Loc) : Prop := v = none ∧ Fr n0 L ∧ Keep h0 h [a1] ∧ Exa Z h a1 "dexterous/transform/LinearRelaxation$Bound" ∧ Fld Z h a1 "dexterous/transform/LinearRelaxation$Bound" "bound" "J" (.long q2) ∧ Fld Z h a1 "dexterous/transform/LinearRelaxation$Bound" "shares" "[D" (.ref a3) ∧ Fld Z h a1 "dexterous/transform/LinearRelaxation$Bound" "price" "D" (.double d4) ∧ Fld Z h a1 "dexterous/transform/LinearRelaxation$Bound" "work" "J" (.long q5) ∧ Fld Z h a1 "dexterous/transform/LinearRelaxation$Bound" "total" "J" (.long q6) ∧ Fld Z h a1 "dexterous/transform/LinearRelaxation$Bound" "worth" "[J" (.ref a7)
set_option maxRecDepth 65536 in
set_option maxHeartbeats 40000000 in
theorem rm1r (l : Launch) (Z : State) (a0 : Array Value) (hw : ∀ d ∈ tables_1, d.before a0 Z = true) (ws : List Jvm.Cond) (a1 : Addr) (q2 : Int64) (a3 : Addr) (d4 : UInt64) (q5 : Int64) (q6 : Int64) (a7 : Addr) (u_bound : Value) (u_shares : Value) (u_price : Value) (u_work : Value) (u_total : Value) (u_worth : Value) (h0 : Heap) (n0 : Nat) (Z0 : n0 ≤ h0.size) (F_bound : Fld Z h0 a1 "dexterous/transform/LinearRelaxation$Bound" "bound" "J" u_bound) (F_shares : Fld Z h0 a1 "dexterous/transform/LinearRelaxation$Bound" "shares" "[D" u_shares) (F_price : Fld Z h0 a1 "dexterous/transform/LinearRelaxation$Bound" "price" "D" u_price) (F_work : Fld Z h0 a1 "dexterous/transform/LinearRelaxation$Bound" "work" "J" u_work) (F_total : Fld Z h0 a1 "dexterous/transform/LinearRelaxation$Bound" "total" "J" u_total) (F_worth : Fld Z h0 a1 "dexterous/transform/LinearRelaxation$Bound" "worth" "[J" u_worth) (Ex : Exa Z h0 a1 "dexterous/transform/LinearRelaxation$Bound") (g : n0 ≤ a1) :
    MetFree l (⟨"dexterous/transform/LinearRelaxation$Bound", "<init>", "(J[DDJJ[J)V"⟩ : MethodName) (head1 (Jvm.Cond.code (⟨"dexterous/transform/LinearRelaxation$Bound", "<init>", "(J[DDJJ[J)V"⟩ : MethodName) prog_52_method_1_code 11 none :: ws) ({ frames := 1, cells := 0, slots := 0, locals := 12 } : Room)) (fun a U => a = #[(.ref a1), (.long q2), (.ref a3), (.double d4), (.long q5), (.long q6), (.ref a7)] ∧ Z.Warmed39 U.vm ∧ U.heap = h0) (fun _ _ _ _ _ => True) (fun _ U oz U' => ∃ v L, oz = .returned v ∧ Q1r Z a1 q2 a3 d4 q5 q6 a7 u_bound u_shares u_price u_work u_total u_worth h0 n0 v U'.heap L ∧ FrameEnd U oz U' L (({ frames := 1, cells := 0, slots := 0, locals := 12 } : Room)).cells (({ frames := 1, cells := 0, slots := 0, locals := 12 } : Room)).slots) := by
  refine MetFree.of_bodySF (plainFor_of_name pn_0) hisR ?_
  intro p e s m args below meth c s₁ Bd hml0 hP hK
  obtain ⟨rfl, hZ, hh⟩ := hP
  have hx := Bd.exec
  have hby := Bd.bytes
  have hml : c.maxLocals = 11 := hml0
  have hown : s.vm.findClass "dexterous/transform/LinearRelaxation$Bound" = some m.cls := findClass_of_methodNamed Bd.named
  have hnm := (name_of_methodNamed Bd.named Bd.method).1
  have X0 : Stand p l e ({ frames := 1, cells := 0, slots := 0, locals := 12 } : Room) s m #[(.ref a1), (.long q2), (.ref a3), (.double d4), (.long q5), (.long q6), (.ref a7)] below meth c s₁ [] 0 0 := Stand.of_body Bd
  have e0 : s₁.heap = h0 := by rw [← hh, Bd.state]; rfl
  have N0 := Fr.nil n0
  show own_Go p.tables e below (own_P s (Q1r Z a1 q2 a3 d4 q5 q6 a7 u_bound u_shares u_price u_work u_total u_worth h0 n0) ({ frames := 1, cells := 0, slots := 0, locals := 12 } : Room).cells ({ frames := 1, cells := 0, slots := 0, locals := 12 } : Room).slots) s₁ _
  rw [ef_1r]
  show own_Go p.tables e below _ s₁ (mkF m 0 #[.val (.ref a1), .val (.long q2), .second, .val (.ref a3), .val (.double d4), .second, .val (.long q5), .second, .val (.long q6), .second, .val (.ref a7)] [])
  refine own_go (fun tz kz => XS.aloadN X0.here hx rfl (hb hby d1_0) rfl rfl kz) ?_
  show own_Go p.tables e below _ s₁ (mkF m 1 #[.val (.ref a1), .val (.long q2), .second, .val (.ref a3), .val (.double d4), .second, .val (.long q5), .second, .val (.long q6), .second, .val (.ref a7)] [(.ref a1)])
  obtain ⟨T1, X1, e1, st1⟩ := initO X0 hx hZ hown (hw _ (List.mem_of_getElem? (i := 8) rfl)) (hw _ (List.mem_of_getElem? (i := 9) rfl)) (hw _ (List.mem_of_getElem? (i := 10) rfl)) e0 (g := (mkF m 1 #[.val (.ref a1), .val (.long q2), .second, .val (.ref a3), .val (.double d4), .second, .val (.long q5), .second, .val (.long q6), .second, .val (.ref a7)] [(.ref a1)])) rfl (by rw [hml]; rfl) rfl (hb hby d1_1) (by decide) (W := 0) (by show 2 * 0 + _ ≤ _; exact Nat.le_of_eq rfl) (by decide)
  refine own_go st1 ?_
  show own_Go p.tables e below _ T1 (mkF m 4 #[.val (.ref a1), .val (.long q2), .second, .val (.ref a3), .val (.double d4), .second, .val (.long q5), .second, .val (.long q6), .second, .val (.ref a7)] [])
  refine own_go (fun tz kz => XS.aloadN X1.here hx rfl (hb hby d1_4) rfl rfl kz) ?_
  show own_Go p.tables e below _ T1 (mkF m 5 #[.val (.ref a1), .val (.long q2), .second, .val (.ref a3), .val (.double d4), .second, .val (.long q5), .second, .val (.long q6), .second, .val (.ref a7)] [(.ref a1)])
  refine own_go (fun tz kz => XT.lloadN X1.here hx rfl (hb hby d1_5) rfl kz) ?_
  show own_Go p.tables e below _ T1 (mkF m 6 #[.val (.ref a1), .val (.long q2), .second, .val (.ref a3), .val (.double d4), .second, .val (.long q5), .second, .val (.long q6), .second, .val (.ref a7)] [(.long q2), (.ref a1)])
  obtain ⟨T2, h2, X2, e2, W2, st2⟩ := putF X1 hx hZ hown (host := "") (Or.inl (hw _ (List.mem_of_getElem? (i := 11) rfl))) Via.refl e1 F_bound Ex (Or.inr ⟨(hw _ (List.mem_of_getElem? (i := 12) rfl)), rfl, hnm⟩) (hw _ (List.mem_of_getElem? (i := 2) rfl)) (ty := .long) (by decide) rfl rfl (g := (mkF m 6 #[.val (.ref a1), .val (.long q2), .second, .val (.ref a3), .val (.double d4), .second, .val (.long q5), .second, .val (.long q6), .second, .val (.ref a7)] [(.long q2), (.ref a1)])) rfl rfl (hb hby d1_6)
  have Fw2 := F_bound.same W2
  have N2 := Fr.snoc X2 N0 g
  refine own_go st2 ?_
  show own_Go p.tables e below _ T2 (mkF m 9 #[.val (.ref a1), .val (.long q2), .second, .val (.ref a3), .val (.double d4), .second, .val (.long q5), .second, .val (.long q6), .second, .val (.ref a7)] [])
  refine own_go (fun tz kz => XS.aloadN X2.here hx rfl (hb hby d1_9) rfl rfl kz) ?_
  show own_Go p.tables e below _ T2 (mkF m 10 #[.val (.ref a1), .val (.long q2), .second, .val (.ref a3), .val (.double d4), .second, .val (.long q5), .second, .val (.long q6), .second, .val (.ref a7)] [(.ref a1)])
  refine own_go (fun tz kz => XS.aloadN X2.here hx rfl (hb hby d1_10) rfl rfl kz) ?_
  show own_Go p.tables e below _ T2 (mkF m 11 #[.val (.ref a1), .val (.long q2), .second, .val (.ref a3), .val (.double d4), .second, .val (.long q5), .second, .val (.long q6), .second, .val (.ref a7)] [(.ref a3), (.ref a1)])
  obtain ⟨T3, h3, X3, e3, W3, st3⟩ := putF X2 hx hZ hown (host := "") (Or.inl (hw _ (List.mem_of_getElem? (i := 13) rfl))) Via.refl e2 (F_shares.other W2 (Or.inr (slot_ne (Or.inr (hw _ (List.mem_of_getElem? (i := 14) rfl))) (Or.inr (hw _ (List.mem_of_getElem? (i := 12) rfl))) (by decide) (t := (.array .double)) (t' := .long) (by decide) (by decide)))) (Ex.wr W2) (Or.inr ⟨(hw _ (List.mem_of_getElem? (i := 14) rfl)), rfl, hnm⟩) (hw _ (List.mem_of_getElem? (i := 2) rfl)) (ty := (.array .double)) (by decide) rfl rfl (g := (mkF m 11 #[.val (.ref a1), .val (.long q2), .second, .val (.ref a3), .val (.double d4), .second, .val (.long q5), .second, .val (.long q6), .second, .val (.ref a7)] [(.ref a3), (.ref a1)])) rfl rfl (hb hby d1_11)
  have Fw3 := (F_shares.other W2 (Or.inr (slot_ne (Or.inr (hw _ (List.mem_of_getElem? (i := 14) rfl))) (Or.inr (hw _ (List.mem_of_getElem? (i := 12) rfl))) (by decide) (t := (.array .double)) (t' := .long) (by decide) (by decide)))).same W3
  have N3 := Fr.snoc X3 N2 g
  refine own_go st3 ?_
  show own_Go p.tables e below _ T3 (mkF m 14 #[.val (.ref a1), .val (.long q2), .second, .val (.ref a3), .val (.double d4), .second, .val (.long q5), .second, .val (.long q6), .second, .val (.ref a7)] [])
  refine own_go (fun tz kz => XS.aloadN X3.here hx rfl (hb hby d1_14) rfl rfl kz) ?_
  show own_Go p.tables e below _ T3 (mkF m 15 #[.val (.ref a1), .val (.long q2), .second, .val (.ref a3), .val (.double d4), .second, .val (.long q5), .second, .val (.long q6), .second, .val (.ref a7)] [(.ref a1)])
  refine own_go (fun tz kz => XS.dload X3.here hx rfl (hb hby d1_15) rfl kz) ?_
  show own_Go p.tables e below _ T3 (mkF m 17 #[.val (.ref a1), .val (.long q2), .second, .val (.ref a3), .val (.double d4), .second, .val (.long q5), .second, .val (.long q6), .second, .val (.ref a7)] [(.double d4), (.ref a1)])
  obtain ⟨T4, h4, X4, e4, W4, st4⟩ := putF X3 hx hZ hown (host := "") (Or.inl (hw _ (List.mem_of_getElem? (i := 15) rfl))) Via.refl e3 ((F_price.other W2 (Or.inr (slot_ne (Or.inr (hw _ (List.mem_of_getElem? (i := 16) rfl))) (Or.inr (hw _ (List.mem_of_getElem? (i := 12) rfl))) (by decide) (t := .double) (t' := .long) (by decide) (by decide)))).other W3 (Or.inr (slot_ne (Or.inr (hw _ (List.mem_of_getElem? (i := 16) rfl))) (Or.inr (hw _ (List.mem_of_getElem? (i := 14) rfl))) (by decide) (t := .double) (t' := (.array .double)) (by decide) (by decide)))) ((Ex.wr W2).wr W3) (Or.inr ⟨(hw _ (List.mem_of_getElem? (i := 16) rfl)), rfl, hnm⟩) (hw _ (List.mem_of_getElem? (i := 2) rfl)) (ty := .double) (by decide) rfl rfl (g := (mkF m 17 #[.val (.ref a1), .val (.long q2), .second, .val (.ref a3), .val (.double d4), .second, .val (.long q5), .second, .val (.long q6), .second, .val (.ref a7)] [(.double d4), (.ref a1)])) rfl rfl (hb hby d1_17)
  have Fw4 := ((F_price.other W2 (Or.inr (slot_ne (Or.inr (hw _ (List.mem_of_getElem? (i := 16) rfl))) (Or.inr (hw _ (List.mem_of_getElem? (i := 12) rfl))) (by decide) (t := .double) (t' := .long) (by decide) (by decide)))).other W3 (Or.inr (slot_ne (Or.inr (hw _ (List.mem_of_getElem? (i := 16) rfl))) (Or.inr (hw _ (List.mem_of_getElem? (i := 14) rfl))) (by decide) (t := .double) (t' := (.array .double)) (by decide) (by decide)))).same W4
  have N4 := Fr.snoc X4 N3 g
  refine own_go st4 ?_
  show own_Go p.tables e below _ T4 (mkF m 20 #[.val (.ref a1), .val (.long q2), .second, .val (.ref a3), .val (.double d4), .second, .val (.long q5), .second, .val (.long q6), .second, .val (.ref a7)] [])
  refine own_go (fun tz kz => XS.aloadN X4.here hx rfl (hb hby d1_20) rfl rfl kz) ?_
  show own_Go p.tables e below _ T4 (mkF m 21 #[.val (.ref a1), .val (.long q2), .second, .val (.ref a3), .val (.double d4), .second, .val (.long q5), .second, .val (.long q6), .second, .val (.ref a7)] [(.ref a1)])
  refine own_go (fun tz kz => XT.lload X4.here hx rfl (hb hby d1_21) rfl kz) ?_
  show own_Go p.tables e below _ T4 (mkF m 23 #[.val (.ref a1), .val (.long q2), .second, .val (.ref a3), .val (.double d4), .second, .val (.long q5), .second, .val (.long q6), .second, .val (.ref a7)] [(.long q5), (.ref a1)])
  obtain ⟨T5, h5, X5, e5, W5, st5⟩ := putF X4 hx hZ hown (host := "") (Or.inl (hw _ (List.mem_of_getElem? (i := 17) rfl))) Via.refl e4 (((F_work.other W2 (Or.inr (slot_ne (Or.inr (hw _ (List.mem_of_getElem? (i := 18) rfl))) (Or.inr (hw _ (List.mem_of_getElem? (i := 12) rfl))) (by decide) (t := .long) (t' := .long) (by decide) (by decide)))).other W3 (Or.inr (slot_ne (Or.inr (hw _ (List.mem_of_getElem? (i := 18) rfl))) (Or.inr (hw _ (List.mem_of_getElem? (i := 14) rfl))) (by decide) (t := .long) (t' := (.array .double)) (by decide) (by decide)))).other W4 (Or.inr (slot_ne (Or.inr (hw _ (List.mem_of_getElem? (i := 18) rfl))) (Or.inr (hw _ (List.mem_of_getElem? (i := 16) rfl))) (by decide) (t := .long) (t' := .double) (by decide) (by decide)))) (((Ex.wr W2).wr W3).wr W4) (Or.inr ⟨(hw _ (List.mem_of_getElem? (i := 18) rfl)), rfl, hnm⟩) (hw _ (List.mem_of_getElem? (i := 2) rfl)) (ty := .long) (by decide) rfl rfl (g := (mkF m 23 #[.val (.ref a1), .val (.long q2), .second, .val (.ref a3), .val (.double d4), .second, .val (.long q5), .second, .val (.long q6), .second, .val (.ref a7)] [(.long q5), (.ref a1)])) rfl rfl (hb hby d1_23)
  have Fw5 := (((F_work.other W2 (Or.inr (slot_ne (Or.inr (hw _ (List.mem_of_getElem? (i := 18) rfl))) (Or.inr (hw _ (List.mem_of_getElem? (i := 12) rfl))) (by decide) (t := .long) (t' := .long) (by decide) (by decide)))).other W3 (Or.inr (slot_ne (Or.inr (hw _ (List.mem_of_getElem? (i := 18) rfl))) (Or.inr (hw _ (List.mem_of_getElem? (i := 14) rfl))) (by decide) (t := .long) (t' := (.array .double)) (by decide) (by decide)))).other W4 (Or.inr (slot_ne (Or.inr (hw _ (List.mem_of_getElem? (i := 18) rfl))) (Or.inr (hw _ (List.mem_of_getElem? (i := 16) rfl))) (by decide) (t := .long) (t' := .double) (by decide) (by decide)))).same W5
  have N5 := Fr.snoc X5 N4 g
  refine own_go st5 ?_
  show own_Go p.tables e below _ T5 (mkF m 26 #[.val (.ref a1), .val (.long q2), .second, .val (.ref a3), .val (.double d4), .second, .val (.long q5), .second, .val (.long q6), .second, .val (.ref a7)] [])
  refine own_go (fun tz kz => XS.aloadN X5.here hx rfl (hb hby d1_26) rfl rfl kz) ?_
  show own_Go p.tables e below _ T5 (mkF m 27 #[.val (.ref a1), .val (.long q2), .second, .val (.ref a3), .val (.double d4), .second, .val (.long q5), .second, .val (.long q6), .second, .val (.ref a7)] [(.ref a1)])
  refine own_go (fun tz kz => XT.lload X5.here hx rfl (hb hby d1_27) rfl kz) ?_
  show own_Go p.tables e below _ T5 (mkF m 29 #[.val (.ref a1), .val (.long q2), .second, .val (.ref a3), .val (.double d4), .second, .val (.long q5), .second, .val (.long q6), .second, .val (.ref a7)] [(.long q6), (.ref a1)])
  obtain ⟨T6, h6, X6, e6, W6, st6⟩ := putF X5 hx hZ hown (host := "") (Or.inl (hw _ (List.mem_of_getElem? (i := 19) rfl))) Via.refl e5 ((((F_total.other W2 (Or.inr (slot_ne (Or.inr (hw _ (List.mem_of_getElem? (i := 20) rfl))) (Or.inr (hw _ (List.mem_of_getElem? (i := 12) rfl))) (by decide) (t := .long) (t' := .long) (by decide) (by decide)))).other W3 (Or.inr (slot_ne (Or.inr (hw _ (List.mem_of_getElem? (i := 20) rfl))) (Or.inr (hw _ (List.mem_of_getElem? (i := 14) rfl))) (by decide) (t := .long) (t' := (.array .double)) (by decide) (by decide)))).other W4 (Or.inr (slot_ne (Or.inr (hw _ (List.mem_of_getElem? (i := 20) rfl))) (Or.inr (hw _ (List.mem_of_getElem? (i := 16) rfl))) (by decide) (t := .long) (t' := .double) (by decide) (by decide)))).other W5 (Or.inr (slot_ne (Or.inr (hw _ (List.mem_of_getElem? (i := 20) rfl))) (Or.inr (hw _ (List.mem_of_getElem? (i := 18) rfl))) (by decide) (t := .long) (t' := .long) (by decide) (by decide)))) ((((Ex.wr W2).wr W3).wr W4).wr W5) (Or.inr ⟨(hw _ (List.mem_of_getElem? (i := 20) rfl)), rfl, hnm⟩) (hw _ (List.mem_of_getElem? (i := 2) rfl)) (ty := .long) (by decide) rfl rfl (g := (mkF m 29 #[.val (.ref a1), .val (.long q2), .second, .val (.ref a3), .val (.double d4), .second, .val (.long q5), .second, .val (.long q6), .second, .val (.ref a7)] [(.long q6), (.ref a1)])) rfl rfl (hb hby d1_29)
  have Fw6 := ((((F_total.other W2 (Or.inr (slot_ne (Or.inr (hw _ (List.mem_of_getElem? (i := 20) rfl))) (Or.inr (hw _ (List.mem_of_getElem? (i := 12) rfl))) (by decide) (t := .long) (t' := .long) (by decide) (by decide)))).other W3 (Or.inr (slot_ne (Or.inr (hw _ (List.mem_of_getElem? (i := 20) rfl))) (Or.inr (hw _ (List.mem_of_getElem? (i := 14) rfl))) (by decide) (t := .long) (t' := (.array .double)) (by decide) (by decide)))).other W4 (Or.inr (slot_ne (Or.inr (hw _ (List.mem_of_getElem? (i := 20) rfl))) (Or.inr (hw _ (List.mem_of_getElem? (i := 16) rfl))) (by decide) (t := .long) (t' := .double) (by decide) (by decide)))).other W5 (Or.inr (slot_ne (Or.inr (hw _ (List.mem_of_getElem? (i := 20) rfl))) (Or.inr (hw _ (List.mem_of_getElem? (i := 18) rfl))) (by decide) (t := .long) (t' := .long) (by decide) (by decide)))).same W6
  have N6 := Fr.snoc X6 N5 g
  refine own_go st6 ?_
  show own_Go p.tables e below _ T6 (mkF m 32 #[.val (.ref a1), .val (.long q2), .second, .val (.ref a3), .val (.double d4), .second, .val (.long q5), .second, .val (.long q6), .second, .val (.ref a7)] [])
  refine own_go (fun tz kz => XS.aloadN X6.here hx rfl (hb hby d1_32) rfl rfl kz) ?_
  show own_Go p.tables e below _ T6 (mkF m 33 #[.val (.ref a1), .val (.long q2), .second, .val (.ref a3), .val (.double d4), .second, .val (.long q5), .second, .val (.long q6), .second, .val (.ref a7)] [(.ref a1)])
  refine own_go (fun tz kz => XS.aload X6.here hx rfl (hb hby d1_33) rfl rfl kz) ?_
  show own_Go p.tables e below _ T6 (mkF m 35 #[.val (.ref a1), .val (.long q2), .second, .val (.ref a3), .val (.double d4), .second, .val (.long q5), .second, .val (.long q6), .second, .val (.ref a7)] [(.ref a7), (.ref a1)])
  obtain ⟨T7, h7, X7, e7, W7, st7⟩ := putF X6 hx hZ hown (host := "") (Or.inl (hw _ (List.mem_of_getElem? (i := 21) rfl))) Via.refl e6 (((((F_worth.other W2 (Or.inr (slot_ne (Or.inr (hw _ (List.mem_of_getElem? (i := 22) rfl))) (Or.inr (hw _ (List.mem_of_getElem? (i := 12) rfl))) (by decide) (t := (.array .long)) (t' := .long) (by decide) (by decide)))).other W3 (Or.inr (slot_ne (Or.inr (hw _ (List.mem_of_getElem? (i := 22) rfl))) (Or.inr (hw _ (List.mem_of_getElem? (i := 14) rfl))) (by decide) (t := (.array .long)) (t' := (.array .double)) (by decide) (by decide)))).other W4 (Or.inr (slot_ne (Or.inr (hw _ (List.mem_of_getElem? (i := 22) rfl))) (Or.inr (hw _ (List.mem_of_getElem? (i := 16) rfl))) (by decide) (t := (.array .long)) (t' := .double) (by decide) (by decide)))).other W5 (Or.inr (slot_ne (Or.inr (hw _ (List.mem_of_getElem? (i := 22) rfl))) (Or.inr (hw _ (List.mem_of_getElem? (i := 18) rfl))) (by decide) (t := (.array .long)) (t' := .long) (by decide) (by decide)))).other W6 (Or.inr (slot_ne (Or.inr (hw _ (List.mem_of_getElem? (i := 22) rfl))) (Or.inr (hw _ (List.mem_of_getElem? (i := 20) rfl))) (by decide) (t := (.array .long)) (t' := .long) (by decide) (by decide)))) (((((Ex.wr W2).wr W3).wr W4).wr W5).wr W6) (Or.inr ⟨(hw _ (List.mem_of_getElem? (i := 22) rfl)), rfl, hnm⟩) (hw _ (List.mem_of_getElem? (i := 2) rfl)) (ty := (.array .long)) (by decide) rfl rfl (g := (mkF m 35 #[.val (.ref a1), .val (.long q2), .second, .val (.ref a3), .val (.double d4), .second, .val (.long q5), .second, .val (.long q6), .second, .val (.ref a7)] [(.ref a7), (.ref a1)])) rfl rfl (hb hby d1_35)
  have Fw7 := (((((F_worth.other W2 (Or.inr (slot_ne (Or.inr (hw _ (List.mem_of_getElem? (i := 22) rfl))) (Or.inr (hw _ (List.mem_of_getElem? (i := 12) rfl))) (by decide) (t := (.array .long)) (t' := .long) (by decide) (by decide)))).other W3 (Or.inr (slot_ne (Or.inr (hw _ (List.mem_of_getElem? (i := 22) rfl))) (Or.inr (hw _ (List.mem_of_getElem? (i := 14) rfl))) (by decide) (t := (.array .long)) (t' := (.array .double)) (by decide) (by decide)))).other W4 (Or.inr (slot_ne (Or.inr (hw _ (List.mem_of_getElem? (i := 22) rfl))) (Or.inr (hw _ (List.mem_of_getElem? (i := 16) rfl))) (by decide) (t := (.array .long)) (t' := .double) (by decide) (by decide)))).other W5 (Or.inr (slot_ne (Or.inr (hw _ (List.mem_of_getElem? (i := 22) rfl))) (Or.inr (hw _ (List.mem_of_getElem? (i := 18) rfl))) (by decide) (t := (.array .long)) (t' := .long) (by decide) (by decide)))).other W6 (Or.inr (slot_ne (Or.inr (hw _ (List.mem_of_getElem? (i := 22) rfl))) (Or.inr (hw _ (List.mem_of_getElem? (i := 20) rfl))) (by decide) (t := (.array .long)) (t' := .long) (by decide) (by decide)))).same W7
  have N7 := Fr.snoc X7 N6 g
  refine own_go st7 ?_
  show own_Go p.tables e below _ T7 (mkF m 38 #[.val (.ref a1), .val (.long q2), .second, .val (.ref a3), .val (.double d4), .second, .val (.long q5), .second, .val (.long q6), .second, .val (.ref a7)] [])
  obtain ⟨fs, hr, hrun, hended, hW, hsame⟩ := X7.leave (v := none) (fun _ => rfl) (BodyLoose.notSynchronized Bd)
  refine ⟨_, _, ?_, hrun, hended, _, _, rfl, ?_, ⟨_, rfl⟩, hW, hsame.mono (by decide) (by decide)⟩
  · exact X7.returnOut hx Bd.returns (hb hby d1_38) hr
  · show Q1r Z a1 q2 a3 d4 q5 q6 a7 u_bound u_shares u_price u_work u_total u_worth h0 n0 _ T7.heap _
    rw [e7]
    exact ⟨rfl, N7, (((((((Keep.refl _ _).wr W2 (Or.inl (List.mem_of_getElem? (i := 0) rfl))).wr W3 (Or.inl (List.mem_of_getElem? (i := 0) rfl))).wr W4 (Or.inl (List.mem_of_getElem? (i := 0) rfl))).wr W5 (Or.inl (List.mem_of_getElem? (i := 0) rfl))).wr W6 (Or.inl (List.mem_of_getElem? (i := 0) rfl))).wr W7 (Or.inl (List.mem_of_getElem? (i := 0) rfl))), ((((((Ex.wr W2).wr W3).wr W4).wr W5).wr W6).wr W7), (((((Fw2.other W3 (Or.inr (slot_ne (Or.inr (hw _ (List.mem_of_getElem? (i := 12) rfl))) (Or.inr (hw _ (List.mem_of_getElem? (i := 14) rfl))) (by decide) (t := .long) (t' := (.array .double)) (by decide) (by decide)))).other W4 (Or.inr (slot_ne (Or.inr (hw _ (List.mem_of_getElem? (i := 12) rfl))) (Or.inr (hw _ (List.mem_of_getElem? (i := 16) rfl))) (by decide) (t := .long) (t' := .double) (by decide) (by decide)))).other W5 (Or.inr (slot_ne (Or.inr (hw _ (List.mem_of_getElem? (i := 12) rfl))) (Or.inr (hw _ (List.mem_of_getElem? (i := 18) rfl))) (by decide) (t := .long) (t' := .long) (by decide) (by decide)))).other W6 (Or.inr (slot_ne (Or.inr (hw _ (List.mem_of_getElem? (i := 12) rfl))) (Or.inr (hw _ (List.mem_of_getElem? (i := 20) rfl))) (by decide) (t := .long) (t' := .long) (by decide) (by decide)))).other W7 (Or.inr (slot_ne (Or.inr (hw _ (List.mem_of_getElem? (i := 12) rfl))) (Or.inr (hw _ (List.mem_of_getElem? (i := 22) rfl))) (by decide) (t := .long) (t' := (.array .long)) (by decide) (by decide)))), ((((Fw3.other W4 (Or.inr (slot_ne (Or.inr (hw _ (List.mem_of_getElem? (i := 14) rfl))) (Or.inr (hw _ (List.mem_of_getElem? (i := 16) rfl))) (by decide) (t := (.array .double)) (t' := .double) (by decide) (by decide)))).other W5 (Or.inr (slot_ne (Or.inr (hw _ (List.mem_of_getElem? (i := 14) rfl))) (Or.inr (hw _ (List.mem_of_getElem? (i := 18) rfl))) (by decide) (t := (.array .double)) (t' := .long) (by decide) (by decide)))).other W6 (Or.inr (slot_ne (Or.inr (hw _ (List.mem_of_getElem? (i := 14) rfl))) (Or.inr (hw _ (List.mem_of_getElem? (i := 20) rfl))) (by decide) (t := (.array .double)) (t' := .long) (by decide) (by decide)))).other W7 (Or.inr (slot_ne (Or.inr (hw _ (List.mem_of_getElem? (i := 14) rfl))) (Or.inr (hw _ (List.mem_of_getElem? (i := 22) rfl))) (by decide) (t := (.array .double)) (t' := (.array .long)) (by decide) (by decide)))), (((Fw4.other W5 (Or.inr (slot_ne (Or.inr (hw _ (List.mem_of_getElem? (i := 16) rfl))) (Or.inr (hw _ (List.mem_of_getElem? (i := 18) rfl))) (by decide) (t := .double) (t' := .long) (by decide) (by decide)))).other W6 (Or.inr (slot_ne (Or.inr (hw _ (List.mem_of_getElem? (i := 16) rfl))) (Or.inr (hw _ (List.mem_of_getElem? (i := 20) rfl))) (by decide) (t := .double) (t' := .long) (by decide) (by decide)))).other W7 (Or.inr (slot_ne (Or.inr (hw _ (List.mem_of_getElem? (i := 16) rfl))) (Or.inr (hw _ (List.mem_of_getElem? (i := 22) rfl))) (by decide) (t := .double) (t' := (.array .long)) (by decide) (by decide)))), ((Fw5.other W6 (Or.inr (slot_ne (Or.inr (hw _ (List.mem_of_getElem? (i := 18) rfl))) (Or.inr (hw _ (List.mem_of_getElem? (i := 20) rfl))) (by decide) (t := .long) (t' := .long) (by decide) (by decide)))).other W7 (Or.inr (slot_ne (Or.inr (hw _ (List.mem_of_getElem? (i := 18) rfl))) (Or.inr (hw _ (List.mem_of_getElem? (i := 22) rfl))) (by decide) (t := .long) (t' := (.array .long)) (by decide) (by decide)))), (Fw6.other W7 (Or.inr (slot_ne (Or.inr (hw _ (List.mem_of_getElem? (i := 20) rfl))) (Or.inr (hw _ (List.mem_of_getElem? (i := 22) rfl))) (by decide) (t := .long) (t' := (.array .long)) (by decide) (by decide)))), Fw7⟩
theorem d3_0 : decode prog_52_method_4_code 0 = .ok (.aload_n 0, 1) := by decide +kernel
theorem d3_1 : decode prog_52_method_4_code 1 = .ok (.getfield 29, 3) := by decide +kernel
theorem d3_4 : decode prog_52_method_4_code 4 = .ok (.ifnonnull 7, 3) := by decide +kernel
theorem d3_7 : decode prog_52_method_4_code 7 = .ok (.dconst 0, 1) := by decide +kernel
theorem d3_8 : decode prog_52_method_4_code 8 = .ok (.goto 14, 3) := by decide +kernel
theorem d3_11 : decode prog_52_method_4_code 11 = .ok (.aload_n 0, 1) := by decide +kernel
theorem d3_12 : decode prog_52_method_4_code 12 = .ok (.getfield 29, 3) := by decide +kernel
theorem d3_15 : decode prog_52_method_4_code 15 = .ok (.iload_n 1, 1) := by decide +kernel
theorem d3_16 : decode prog_52_method_4_code 16 = .ok (.laload, 1) := by decide +kernel
theorem d3_17 : decode prog_52_method_4_code 17 = .ok (.l2d, 1) := by decide +kernel
theorem d3_18 : decode prog_52_method_4_code 18 = .ok (.ldc2_w 33, 3) := by decide +kernel
theorem d3_21 : decode prog_52_method_4_code 21 = .ok (.ddiv, 1) := by decide +kernel
theorem d3_22 : decode prog_52_method_4_code 22 = .ok (.dreturn, 1) := by decide +kernel
theorem ef_3r (m : MethodId) {a1 : Addr} {i : Nat} : entryFrame m #[(.ref a1), (.int (Int32.ofNat i))] 2 = mkF m 0 #[.val (.ref a1), .val (.int (Int32.ofNat i))] [] := by first | (simp [entryFrame, mkF, argsToLocals, Value.category]; done) | rfl
def Q3r (Z : State) (a1 : Addr) (wa : Addr) (i : Nat) (g : Nat → Int64) (h0 : Heap) (n0 : Nat) (v : Option Value) (h : Heap) (L : List Loc) : Prop := v = some (.double (FP.ddiv (FP.l2d (g i)) (4742290407621132288 : UInt64))) ∧ Fr n0 L ∧ h = h0
set_option maxRecDepth 65536 in
set_option maxHeartbeats 40000000 in
theorem rm3r (l : Launch) (Z : State) (a0 : Array Value) (hw : ∀ d ∈ tables_1, d.before a0 Z = true) (ws : List Jvm.Cond) (a1 : Addr) (wa : Addr) (i : Nat) (g : Nat → Int64) (h0 : Heap) (n0 : Nat) (Z0 : n0 ≤ h0.size) (F : Fld Z h0 a1 "dexterous/transform/LinearRelaxation$Bound" "worth" "[J" (.ref wa)) (Va : own_Av Z h0 wa .long 2 (fun k => .long (g k))) (hi : i < 2) :
    MetFree l (⟨"dexterous/transform/LinearRelaxation$Bound", "worth", "(I)D"⟩ : MethodName) (head1 (Jvm.Cond.code (⟨"dexterous/transform/LinearRelaxation$Bound", "worth", "(I)D"⟩ : MethodName) prog_52_method_4_code 2 (some .double) :: ws) ({ frames := 0, cells := 0, slots := 0, locals := 0 } : Room)) (fun a U => a = #[(.ref a1), (.int (Int32.ofNat i))] ∧ Z.Warmed39 U.vm ∧ U.heap = h0) (fun _ _ _ _ _ => True) (fun _ U oz U' => ∃ v L, oz = .returned v ∧ Q3r Z a1 wa i g h0 n0 v U'.heap L ∧ FrameEnd U oz U' L (({ frames := 0, cells := 0, slots := 0, locals := 0 } : Room)).cells (({ frames := 0, cells := 0, slots := 0, locals := 0 } : Room)).slots) := by
  refine MetFree.of_bodySF (plainFor_of_name pn_0) hisR ?_
  intro p e s m args below meth c s₁ Bd hml0 hP hK
  obtain ⟨rfl, hZ, hh⟩ := hP
  have hx := Bd.exec
  have hby := Bd.bytes
  have hml : c.maxLocals = 2 := hml0
  have hown : s.vm.findClass "dexterous/transform/LinearRelaxation$Bound" = some m.cls := findClass_of_methodNamed Bd.named
  have hnm := (name_of_methodNamed Bd.named Bd.method).1
  have X0 : Stand p l e ({ frames := 0, cells := 0, slots := 0, locals := 0 } : Room) s m #[(.ref a1), (.int (Int32.ofNat i))] below meth c s₁ [] 0 0 := Stand.of_body Bd
  have e0 : s₁.heap = h0 := by rw [← hh, Bd.state]; rfl
  have N0 := Fr.nil n0
  show own_Go p.tables e below (own_P s (Q3r Z a1 wa i g h0 n0) ({ frames := 0, cells := 0, slots := 0, locals := 0 } : Room).cells ({ frames := 0, cells := 0, slots := 0, locals := 0 } : Room).slots) s₁ _
  rw [ef_3r]
  show own_Go p.tables e below _ s₁ (mkF m 0 #[.val (.ref a1), .val (.int (Int32.ofNat i))] [])
  refine own_go (fun tz kz => XS.aloadN X0.here hx rfl (hb hby d3_0) rfl rfl kz) ?_
  show own_Go p.tables e below _ s₁ (mkF m 1 #[.val (.ref a1), .val (.int (Int32.ofNat i))] [(.ref a1)])
  obtain ⟨T1, X1, e1, st1⟩ := getF X0 hx hZ hown (host := "") (Or.inl (hw _ (List.mem_of_getElem? (i := 21) rfl))) Via.refl e0 F (g := (mkF m 1 #[.val (.ref a1), .val (.int (Int32.ofNat i))] [(.ref a1)])) rfl rfl (hb hby d3_1)
  refine own_go st1 ?_
  show own_Go p.tables e below _ T1 (mkF m 4 #[.val (.ref a1), .val (.int (Int32.ofNat i))] [(.ref wa)])
  refine own_go (fun tz kz => XT.ifnonnullYes X1.here hx rfl (pc0 := 4) (pc' := 11) rfl (hb hby d3_4) rfl (by decide) (by decide) kz) ?_
  show own_Go p.tables e below _ T1 (mkF m 11 #[.val (.ref a1), .val (.int (Int32.ofNat i))] [])
  refine own_go (fun tz kz => XS.aloadN X1.here hx rfl (hb hby d3_11) rfl rfl kz) ?_
  show own_Go p.tables e below _ T1 (mkF m 12 #[.val (.ref a1), .val (.int (Int32.ofNat i))] [(.ref a1)])
  obtain ⟨T2, X2, e2, st2⟩ := getF X1 hx hZ hown (host := "") (Or.inl (hw _ (List.mem_of_getElem? (i := 21) rfl))) Via.refl e1 F (g := (mkF m 12 #[.val (.ref a1), .val (.int (Int32.ofNat i))] [(.ref a1)])) rfl rfl (hb hby d3_12)
  refine own_go st2 ?_
  show own_Go p.tables e below _ T2 (mkF m 15 #[.val (.ref a1), .val (.int (Int32.ofNat i))] [(.ref wa)])
  refine own_go (fun tz kz => XS.iloadN X2.here hx rfl (hb hby d3_15) rfl kz) ?_
  show own_Go p.tables e below _ T2 (mkF m 16 #[.val (.ref a1), .val (.int (Int32.ofNat i))] [(.int (Int32.ofNat i)), (.ref wa)])
  obtain ⟨c3, Ar3, Sz3, Ge3⟩ := id (Va)
  refine own_go (fun tz kz => X2.laload hx (j := (Int32.ofNat i)) (v := (.long (g i))) (by rw [e2]; exact Ar3.1) (State.isArrayOf_alike hZ.alike Ar3.2.1) Ar3.2.2 (own_inb Sz3 (own_nat (i := i) (by omega)) hi) (own_at Ge3 (own_nat (i := i) (by omega)) hi rfl) (g := (mkF m 16 #[.val (.ref a1), .val (.int (Int32.ofNat i))] [(.int (Int32.ofNat i)), (.ref wa)])) rfl rfl (hb hby d3_16) tz kz) ?_
  show own_Go p.tables e below _ T2 (mkF m 17 #[.val (.ref a1), .val (.int (Int32.ofNat i))] [(.long (g i))])
  refine own_go (fun tz kz => XS.l2dS X2.here hx rfl (hb hby d3_17) rfl rfl kz) ?_
  show own_Go p.tables e below _ T2 (mkF m 18 #[.val (.ref a1), .val (.int (Int32.ofNat i))] [(.double (FP.l2d (g i)))])
  refine own_go (fun tz kz => own_ldc2D X2 hx hown (mvT hZ (hw _ (List.mem_of_getElem? (i := 28) rfl))) rfl (hb hby d3_18) kz) ?_
  show own_Go p.tables e below _ T2 (mkF m 21 #[.val (.ref a1), .val (.int (Int32.ofNat i))] [(.double (4742290407621132288 : UInt64)), (.double (FP.l2d (g i)))])
  refine own_go (fun tz kz => XS.ddivS X2.here hx rfl (hb hby d3_21) rfl (own_nd _) rfl kz) ?_
  show own_Go p.tables e below _ T2 (mkF m 22 #[.val (.ref a1), .val (.int (Int32.ofNat i))] [(.double (FP.ddiv (FP.l2d (g i)) (4742290407621132288 : UInt64)))])
  obtain ⟨fs, hr, hrun, hended, hW, hsame⟩ := X2.leave (v := some (.double (FP.ddiv (FP.l2d (g i)) (4742290407621132288 : UInt64)))) (fun h => by rw [Bd.returns] at h; cases h) (BodyLoose.notSynchronized Bd)
  refine ⟨_, _, ?_, hrun, hended, _, _, rfl, ?_, ⟨_, rfl⟩, hW, hsame.mono (by decide) (by decide)⟩
  · exact retOut X2 hx Bd.returns rfl (Or.inr (Or.inr (Or.inl ⟨rfl, rfl, _, rfl⟩))) (hb hby d3_22) hr
  · show Q3r Z a1 wa i g h0 n0 _ T2.heap _
    rw [e2]
    exact ⟨rfl, N0, rfl⟩
theorem ef_3n (m : MethodId) {a1 : Addr} {p2 : Int32} : entryFrame m #[(.ref a1), (.int p2)] 2 = mkF m 0 #[.val (.ref a1), .val (.int p2)] [] := by first | (simp [entryFrame, mkF, argsToLocals, Value.category]; done) | rfl
def Q3n (Z : State) (a1 : Addr) (p2 : Int32) (h0 : Heap) (n0 : Nat) (v : Option Value) (h : Heap) (L : List Loc) : Prop := v = some (.double FP.dconst0) ∧ Fr n0 L ∧ h = h0
set_option maxRecDepth 65536 in
set_option maxHeartbeats 40000000 in
theorem rm3n (l : Launch) (Z : State) (a0 : Array Value) (hw : ∀ d ∈ tables_1, d.before a0 Z = true) (ws : List Jvm.Cond) (a1 : Addr) (p2 : Int32) (h0 : Heap) (n0 : Nat) (Z0 : n0 ≤ h0.size) (F : Fld Z h0 a1 "dexterous/transform/LinearRelaxation$Bound" "worth" "[J" .null) :
    MetFree l (⟨"dexterous/transform/LinearRelaxation$Bound", "worth", "(I)D"⟩ : MethodName) (head1 (Jvm.Cond.code (⟨"dexterous/transform/LinearRelaxation$Bound", "worth", "(I)D"⟩ : MethodName) prog_52_method_4_code 2 (some .double) :: ws) ({ frames := 0, cells := 0, slots := 0, locals := 0 } : Room)) (fun a U => a = #[(.ref a1), (.int p2)] ∧ Z.Warmed39 U.vm ∧ U.heap = h0) (fun _ _ _ _ _ => True) (fun _ U oz U' => ∃ v L, oz = .returned v ∧ Q3n Z a1 p2 h0 n0 v U'.heap L ∧ FrameEnd U oz U' L (({ frames := 0, cells := 0, slots := 0, locals := 0 } : Room)).cells (({ frames := 0, cells := 0, slots := 0, locals := 0 } : Room)).slots) := by
  refine MetFree.of_bodySF (plainFor_of_name pn_0) hisR ?_
  intro p e s m args below meth c s₁ Bd hml0 hP hK
  obtain ⟨rfl, hZ, hh⟩ := hP
  have hx := Bd.exec
  have hby := Bd.bytes
  have hml : c.maxLocals = 2 := hml0
  have hown : s.vm.findClass "dexterous/transform/LinearRelaxation$Bound" = some m.cls := findClass_of_methodNamed Bd.named
  have hnm := (name_of_methodNamed Bd.named Bd.method).1
  have X0 : Stand p l e ({ frames := 0, cells := 0, slots := 0, locals := 0 } : Room) s m #[(.ref a1), (.int p2)] below meth c s₁ [] 0 0 := Stand.of_body Bd
  have e0 : s₁.heap = h0 := by rw [← hh, Bd.state]; rfl
  have N0 := Fr.nil n0
  show own_Go p.tables e below (own_P s (Q3n Z a1 p2 h0 n0) ({ frames := 0, cells := 0, slots := 0, locals := 0 } : Room).cells ({ frames := 0, cells := 0, slots := 0, locals := 0 } : Room).slots) s₁ _
  rw [ef_3n]
  show own_Go p.tables e below _ s₁ (mkF m 0 #[.val (.ref a1), .val (.int p2)] [])
  refine own_go (fun tz kz => XS.aloadN X0.here hx rfl (hb hby d3_0) rfl rfl kz) ?_
  show own_Go p.tables e below _ s₁ (mkF m 1 #[.val (.ref a1), .val (.int p2)] [(.ref a1)])
  obtain ⟨T1, X1, e1, st1⟩ := getF X0 hx hZ hown (host := "") (Or.inl (hw _ (List.mem_of_getElem? (i := 21) rfl))) Via.refl e0 F (g := (mkF m 1 #[.val (.ref a1), .val (.int p2)] [(.ref a1)])) rfl rfl (hb hby d3_1)
  refine own_go st1 ?_
  show own_Go p.tables e below _ T1 (mkF m 4 #[.val (.ref a1), .val (.int p2)] [.null])
  refine own_go (fun tz kz => XT.ifnonnullNo X1.here hx rfl (hb hby d3_4) rfl kz) ?_
  show own_Go p.tables e below _ T1 (mkF m 7 #[.val (.ref a1), .val (.int p2)] [])
  refine own_go (fun tz kz => XS.dconst0 X1.here hx rfl (hb hby d3_7) rfl kz) ?_
  show own_Go p.tables e below _ T1 (mkF m 8 #[.val (.ref a1), .val (.int p2)] [(.double FP.dconst0)])
  refine own_go (fun tz kz => XS.goto X1.here hx rfl (pc0 := 8) (pc' := 22) rfl (hb hby d3_8) (by decide) (by decide) kz) ?_
  show own_Go p.tables e below _ T1 (mkF m 22 #[.val (.ref a1), .val (.int p2)] [(.double FP.dconst0)])
  obtain ⟨fs, hr, hrun, hended, hW, hsame⟩ := X1.leave (v := some (.double FP.dconst0)) (fun h => by rw [Bd.returns] at h; cases h) (BodyLoose.notSynchronized Bd)
  refine ⟨_, _, ?_, hrun, hended, _, _, rfl, ?_, ⟨_, rfl⟩, hW, hsame.mono (by decide) (by decide)⟩
  · exact retOut X1 hx Bd.returns rfl (Or.inr (Or.inr (Or.inl ⟨rfl, rfl, _, rfl⟩))) (hb hby d3_22) hr
  · show Q3n Z a1 p2 h0 n0 _ T1.heap _
    rw [e1]
    exact ⟨rfl, N0, rfl⟩
theorem pd_0 : parseMethodDescriptor "(J[DDJJ[J)V" = some ⟨[.long, (.array .double), .double, .long, .long, (.array .long)], none⟩ := by decide +kernel
theorem pd_1 : parseMethodDescriptor "(I)D" = some ⟨[.int], some .double⟩ := by decide +kernel
theorem pn_1 : plainName "dexterous/transform/BoundWorthPinLaw" = true := by first | (simp [plainName, overriddenIn]; done) | decide +kernel
theorem ef_0 (m : MethodId) {q1 : Int64} {q2 : Int64} {p3 : Int32} {p4 : Int32} : entryFrame m #[(.long q1), (.long q2), (.int p3), (.int p4)] maxLocals = mkF m 0 #[.val (.long q1), .second, .val (.long q2), .second, .val (.int p3), .val (.int p4), .unset, .unset, .unset, .unset, .unset, .unset, .unset, .unset, .unset, .unset, .unset, .unset, .unset, .unset] [] := by first | (simp [entryFrame, mkF, argsToLocals, Value.category, maxLocals]; done) | rfl
def Q0 (Z : State) (q1 : Int64) (q2 : Int64) (p3 : Int32) (p4 : Int32) (h0 : Heap) (n0 : Nat) (v : Option Value) (h : Heap) (L : List Loc) : Prop := v = some (.int 1) ∧ Fr n0 L
set_option maxRecDepth 65536 in
set_option maxHeartbeats 40000000 in
theorem rm0 (l : Launch) (Z : State) (a0 : Array Value) (hw : ∀ d ∈ tables_1, d.before a0 Z = true) (ws : List Jvm.Cond) (q1 : Int64) (q2 : Int64) (p3 : Int32) (p4 : Int32) (h0 : Heap) (n0 : Nat) (Z0 : n0 ≤ h0.size) :
    MetFree l x (head1 (Jvm.Cond.code x code maxLocals ret :: ws) room_1) (fun a U => a = #[(.long q1), (.long q2), (.int p3), (.int p4)] ∧ Z.Warmed39 U.vm ∧ U.heap = h0) (fun _ _ _ _ _ => True) (fun _ U oz U' => ∃ v L, oz = .returned v ∧ Q0 Z q1 q2 p3 p4 h0 n0 v U'.heap L ∧ FrameEnd U oz U' L (room_1).cells (room_1).slots) := by
  refine MetFree.of_bodySF (plainFor_of_name pn_1) hisR ?_
  intro p e s m args below meth c s₁ Bd hml0 hP hK
  obtain ⟨rfl, hZ, hh⟩ := hP
  have hx := Bd.exec
  have hby := Bd.bytes
  have hml : c.maxLocals = 20 := hml0
  have hown : s.vm.findClass "dexterous/transform/BoundWorthPinLaw" = some m.cls := findClass_of_methodNamed Bd.named
  have hnm := (name_of_methodNamed Bd.named Bd.method).1
  have X0 : Stand p l e room_1 s m #[(.long q1), (.long q2), (.int p3), (.int p4)] below meth c s₁ [] 0 0 := Stand.of_body Bd
  have e0 : s₁.heap = h0 := by rw [← hh, Bd.state]; rfl
  have N0 := Fr.nil n0
  show own_Go p.tables e below (own_P s (Q0 Z q1 q2 p3 p4 h0 n0) room_1.cells room_1.slots) s₁ _
  rw [ef_0]
  show own_Go p.tables e below _ s₁ (mkF m 0 #[.val (.long q1), .second, .val (.long q2), .second, .val (.int p3), .val (.int p4), .unset, .unset, .unset, .unset, .unset, .unset, .unset, .unset, .unset, .unset, .unset, .unset, .unset, .unset] [])
  obtain ⟨i, hi, ei⟩ := own_low1 p3
  refine own_go (fun tz kz => XS.iconst X0.here hx rfl (hb hby at_0) kz) ?_
  show own_Go p.tables e below _ s₁ (mkF m 1 #[.val (.long q1), .second, .val (.long q2), .second, .val (.int p3), .val (.int p4), .unset, .unset, .unset, .unset, .unset, .unset, .unset, .unset, .unset, .unset, .unset, .unset, .unset, .unset] [(.int (2 : Int32))])
  obtain ⟨T1, h1, k1, X1, e1, E1, A1, st1⟩ := newP X0 hx hZ (hw _ (List.mem_of_getElem? (i := 0) rfl)) e0 (g := (mkF m 1 #[.val (.long q1), .second, .val (.long q2), .second, .val (.int p3), .val (.int p4), .unset, .unset, .unset, .unset, .unset, .unset, .unset, .unset, .unset, .unset, .unset, .unset, .unset, .unset] [(.int (2 : Int32))])) rfl (hb hby at_1) rfl (by decide) (cap := 2) (by decide) (by decide) (by decide) (by decide)
  obtain ⟨wa, eq_wa⟩ : ∃ z, z = (h0).size := ⟨_, rfl⟩
  rw [← eq_wa] at A1 st1
  have g_wa : n0 ≤ wa := Nat.le_trans Z0 (Nat.le_of_eq eq_wa.symm)
  have V_wa : own_Av Z h1 wa .long 2 (fun _ => .long 0) := own_Av.new A1 (by decide)
  refine own_go st1 ?_
  show own_Go p.tables e below _ T1 (mkF m 3 #[.val (.long q1), .second, .val (.long q2), .second, .val (.int p3), .val (.int p4), .unset, .unset, .unset, .unset, .unset, .unset, .unset, .unset, .unset, .unset, .unset, .unset, .unset, .unset] [(.ref wa)])
  refine own_go (fun tz kz => XS.dup X1.here hx rfl (hb hby at_3) rfl rfl kz) ?_
  show own_Go p.tables e below _ T1 (mkF m 4 #[.val (.long q1), .second, .val (.long q2), .second, .val (.int p3), .val (.int p4), .unset, .unset, .unset, .unset, .unset, .unset, .unset, .unset, .unset, .unset, .unset, .unset, .unset, .unset] [(.ref wa), (.ref wa)])
  refine own_go (fun tz kz => XS.iconst X1.here hx rfl (hb hby at_4) kz) ?_
  show own_Go p.tables e below _ T1 (mkF m 5 #[.val (.long q1), .second, .val (.long q2), .second, .val (.int p3), .val (.int p4), .unset, .unset, .unset, .unset, .unset, .unset, .unset, .unset, .unset, .unset, .unset, .unset, .unset, .unset] [(.int (0 : Int32)), (.ref wa), (.ref wa)])
  refine own_go (fun tz kz => XT.lloadN X1.here hx rfl (hb hby at_5) rfl kz) ?_
  show own_Go p.tables e below _ T1 (mkF m 6 #[.val (.long q1), .second, .val (.long q2), .second, .val (.int p3), .val (.int p4), .unset, .unset, .unset, .unset, .unset, .unset, .unset, .unset, .unset, .unset, .unset, .unset, .unset, .unset] [(.long q1), (.int (0 : Int32)), (.ref wa), (.ref wa)])
  obtain ⟨c2, Ar2, Sz2, Ge2⟩ := id (V_wa)
  obtain ⟨T2, h2, X2, e2, W2, st2⟩ := stJ X1 hx hZ e1 Ar2 (j := (0 : Int32)) (own_inb (i := 0) Sz2 ⟨by decide, by decide⟩ (by decide)) (g := (mkF m 6 #[.val (.long q1), .second, .val (.long q2), .second, .val (.int p3), .val (.int p4), .unset, .unset, .unset, .unset, .unset, .unset, .unset, .unset, .unset, .unset, .unset, .unset, .unset, .unset] [(.long q1), (.int (0 : Int32)), (.ref wa), (.ref wa)])) rfl rfl (hb hby at_6)
  have V1 := own_Av.set (V_wa) W2 (⟨by decide, by decide⟩ : ¬ (0 : Int32) < 0 ∧ ((0 : Int32)).toNatClampNeg = 0).2
  have N2 := Fr.snoc X2 N0 g_wa
  refine own_go st2 ?_
  show own_Go p.tables e below _ T2 (mkF m 7 #[.val (.long q1), .second, .val (.long q2), .second, .val (.int p3), .val (.int p4), .unset, .unset, .unset, .unset, .unset, .unset, .unset, .unset, .unset, .unset, .unset, .unset, .unset, .unset] [(.ref wa)])
  refine own_go (fun tz kz => XS.dup X2.here hx rfl (hb hby at_7) rfl rfl kz) ?_
  show own_Go p.tables e below _ T2 (mkF m 8 #[.val (.long q1), .second, .val (.long q2), .second, .val (.int p3), .val (.int p4), .unset, .unset, .unset, .unset, .unset, .unset, .unset, .unset, .unset, .unset, .unset, .unset, .unset, .unset] [(.ref wa), (.ref wa)])
  refine own_go (fun tz kz => XS.iconst X2.here hx rfl (hb hby at_8) kz) ?_
  show own_Go p.tables e below _ T2 (mkF m 9 #[.val (.long q1), .second, .val (.long q2), .second, .val (.int p3), .val (.int p4), .unset, .unset, .unset, .unset, .unset, .unset, .unset, .unset, .unset, .unset, .unset, .unset, .unset, .unset] [(.int (1 : Int32)), (.ref wa), (.ref wa)])
  refine own_go (fun tz kz => XT.lloadN X2.here hx rfl (hb hby at_9) rfl kz) ?_
  show own_Go p.tables e below _ T2 (mkF m 10 #[.val (.long q1), .second, .val (.long q2), .second, .val (.int p3), .val (.int p4), .unset, .unset, .unset, .unset, .unset, .unset, .unset, .unset, .unset, .unset, .unset, .unset, .unset, .unset] [(.long q2), (.int (1 : Int32)), (.ref wa), (.ref wa)])
  obtain ⟨c3, Ar3, Sz3, Ge3⟩ := id (V1)
  obtain ⟨T3, h3, X3, e3, W3, st3⟩ := stJ X2 hx hZ e2 Ar3 (j := (1 : Int32)) (own_inb (i := 1) Sz3 ⟨by decide, by decide⟩ (by decide)) (g := (mkF m 10 #[.val (.long q1), .second, .val (.long q2), .second, .val (.int p3), .val (.int p4), .unset, .unset, .unset, .unset, .unset, .unset, .unset, .unset, .unset, .unset, .unset, .unset, .unset, .unset] [(.long q2), (.int (1 : Int32)), (.ref wa), (.ref wa)])) rfl rfl (hb hby at_10)
  have V2 := own_Av.set (V1) W3 (⟨by decide, by decide⟩ : ¬ (1 : Int32) < 0 ∧ ((1 : Int32)).toNatClampNeg = 1).2
  have N3 := Fr.snoc X3 N2 g_wa
  refine own_go st3 ?_
  show own_Go p.tables e below _ T3 (mkF m 11 #[.val (.long q1), .second, .val (.long q2), .second, .val (.int p3), .val (.int p4), .unset, .unset, .unset, .unset, .unset, .unset, .unset, .unset, .unset, .unset, .unset, .unset, .unset, .unset] [(.ref wa)])
  have Vw : own_Av Z h3 wa .long 2 (fun k => .long (if k = 0 then q1 else q2)) := own_Av.eq V2 (fun k hk => by rcases (by omega : k = 0 ∨ k = 1) with rfl | rfl <;> rfl)
  refine own_go (fun tz kz => XS.astore X3.here hx rfl (hb hby at_11) rfl rfl (l' := #[.val (.long q1), .second, .val (.long q2), .second, .val (.int p3), .val (.int p4), .val (.ref wa), .unset, .unset, .unset, .unset, .unset, .unset, .unset, .unset, .unset, .unset, .unset, .unset, .unset]) rfl kz) ?_
  show own_Go p.tables e below _ T3 (mkF m 13 #[.val (.long q1), .second, .val (.long q2), .second, .val (.int p3), .val (.int p4), .val (.ref wa), .unset, .unset, .unset, .unset, .unset, .unset, .unset, .unset, .unset, .unset, .unset, .unset, .unset] [])
  refine own_go (fun tz kz => XS.iload X3.here hx rfl (hb hby at_13) rfl kz) ?_
  show own_Go p.tables e below _ T3 (mkF m 15 #[.val (.long q1), .second, .val (.long q2), .second, .val (.int p3), .val (.int p4), .val (.ref wa), .unset, .unset, .unset, .unset, .unset, .unset, .unset, .unset, .unset, .unset, .unset, .unset, .unset] [(.int p4)])
  refine own_go (fun tz kz => XS.iconst X3.here hx rfl (hb hby at_15) kz) ?_
  show own_Go p.tables e below _ T3 (mkF m 16 #[.val (.long q1), .second, .val (.long q2), .second, .val (.int p3), .val (.int p4), .val (.ref wa), .unset, .unset, .unset, .unset, .unset, .unset, .unset, .unset, .unset, .unset, .unset, .unset, .unset] [(.int (1 : Int32)), (.int p4)])
  refine own_go (fun tz kz => XS.iand X3.here hx rfl (hb hby at_16) rfl kz) ?_
  show own_Go p.tables e below _ T3 (mkF m 17 #[.val (.long q1), .second, .val (.long q2), .second, .val (.int p3), .val (.int p4), .val (.ref wa), .unset, .unset, .unset, .unset, .unset, .unset, .unset, .unset, .unset, .unset, .unset, .unset, .unset] [(.int (p4 &&& (1 : Int32)))])
  by_cases hc : (p4 &&& (1 : Int32)) = (0 : Int32)
  ·
    refine own_go (fun tz kz => XS.ifYes X3.here hx rfl (pc0 := 17) (pc' := 24) rfl (hb hby at_17) rfl (XT.i0_eq_t hc) (by decide) (by decide) kz) ?_
    show own_Go p.tables e below _ T3 (mkF m 24 #[.val (.long q1), .second, .val (.long q2), .second, .val (.int p3), .val (.int p4), .val (.ref wa), .unset, .unset, .unset, .unset, .unset, .unset, .unset, .unset, .unset, .unset, .unset, .unset, .unset] [])
    refine own_go (fun tz kz => XS.iconst X3.here hx rfl (hb hby at_24) kz) ?_
    show own_Go p.tables e below _ T3 (mkF m 25 #[.val (.long q1), .second, .val (.long q2), .second, .val (.int p3), .val (.int p4), .val (.ref wa), .unset, .unset, .unset, .unset, .unset, .unset, .unset, .unset, .unset, .unset, .unset, .unset, .unset] [(.int (0 : Int32))])
    refine own_go (fun tz kz => XS.istore X3.here hx rfl (hb hby at_25) rfl (l' := #[.val (.long q1), .second, .val (.long q2), .second, .val (.int p3), .val (.int p4), .val (.ref wa), .val (.int (0 : Int32)), .unset, .unset, .unset, .unset, .unset, .unset, .unset, .unset, .unset, .unset, .unset, .unset]) rfl kz) ?_
    show own_Go p.tables e below _ T3 (mkF m 27 #[.val (.long q1), .second, .val (.long q2), .second, .val (.int p3), .val (.int p4), .val (.ref wa), .val (.int (0 : Int32)), .unset, .unset, .unset, .unset, .unset, .unset, .unset, .unset, .unset, .unset, .unset, .unset] [])
    refine own_go (fun tz kz => XS.iload X3.here hx rfl (hb hby at_27) rfl kz) ?_
    show own_Go p.tables e below _ T3 (mkF m 29 #[.val (.long q1), .second, .val (.long q2), .second, .val (.int p3), .val (.int p4), .val (.ref wa), .val (.int (0 : Int32)), .unset, .unset, .unset, .unset, .unset, .unset, .unset, .unset, .unset, .unset, .unset, .unset] [(.int p3)])
    refine own_go (fun tz kz => XS.iconst X3.here hx rfl (hb hby at_29) kz) ?_
    show own_Go p.tables e below _ T3 (mkF m 30 #[.val (.long q1), .second, .val (.long q2), .second, .val (.int p3), .val (.int p4), .val (.ref wa), .val (.int (0 : Int32)), .unset, .unset, .unset, .unset, .unset, .unset, .unset, .unset, .unset, .unset, .unset, .unset] [(.int (1 : Int32)), (.int p3)])
    refine own_go (fun tz kz => XS.iand X3.here hx rfl (hb hby at_30) rfl kz) ?_
    show own_Go p.tables e below _ T3 (mkF m 31 #[.val (.long q1), .second, .val (.long q2), .second, .val (.int p3), .val (.int p4), .val (.ref wa), .val (.int (0 : Int32)), .unset, .unset, .unset, .unset, .unset, .unset, .unset, .unset, .unset, .unset, .unset, .unset] [(.int (p3 &&& (1 : Int32)))])
    rw [show (p3 &&& (1 : Int32)) = (Int32.ofNat i) from ei]
    show own_Go p.tables e below _ T3 (mkF m 31 #[.val (.long q1), .second, .val (.long q2), .second, .val (.int p3), .val (.int p4), .val (.ref wa), .val (.int (0 : Int32)), .unset, .unset, .unset, .unset, .unset, .unset, .unset, .unset, .unset, .unset, .unset, .unset] [(.int (Int32.ofNat i))])
    refine own_go (fun tz kz => XS.istore X3.here hx rfl (hb hby at_31) rfl (l' := #[.val (.long q1), .second, .val (.long q2), .second, .val (.int p3), .val (.int p4), .val (.ref wa), .val (.int (0 : Int32)), .val (.int (Int32.ofNat i)), .unset, .unset, .unset, .unset, .unset, .unset, .unset, .unset, .unset, .unset, .unset]) rfl kz) ?_
    show own_Go p.tables e below _ T3 (mkF m 33 #[.val (.long q1), .second, .val (.long q2), .second, .val (.int p3), .val (.int p4), .val (.ref wa), .val (.int (0 : Int32)), .val (.int (Int32.ofNat i)), .unset, .unset, .unset, .unset, .unset, .unset, .unset, .unset, .unset, .unset, .unset] [])
    obtain ⟨T4, h4, X4, e4, E4, A4, D4, -, st4⟩ := newO X3 hx hZ hown (hw _ (List.mem_of_getElem? (i := 1) rfl)) (hw _ (List.mem_of_getElem? (i := 2) rfl)) (hw _ (List.mem_of_getElem? (i := 3) rfl)) e3 (g := (mkF m 33 #[.val (.long q1), .second, .val (.long q2), .second, .val (.int p3), .val (.int p4), .val (.ref wa), .val (.int (0 : Int32)), .val (.int (Int32.ofNat i)), .unset, .unset, .unset, .unset, .unset, .unset, .unset, .unset, .unset, .unset, .unset] [])) rfl (hb hby at_33) (by decide) (by decide)
    obtain ⟨o, eq_o⟩ : ∃ z, z = (h3).size := ⟨_, rfl⟩
    rw [← eq_o] at A4 D4 st4
    have g_o : n0 ≤ o := Nat.le_trans (Nat.le_trans (Nat.le_trans (Nat.le_trans Z0 E1.1) (Keep.of_wr W2).1) (Keep.of_wr W3).1) (Nat.le_of_eq eq_o.symm)
    have F_bound_o : Fld Z h4 o "dexterous/transform/LinearRelaxation$Bound" "bound" "J" (.long (0 : Int64)) := D4 (Or.inr (hw _ (List.mem_of_getElem? (i := 12) rfl))) (ty := .long) (by decide)
    have F_shares_o : Fld Z h4 o "dexterous/transform/LinearRelaxation$Bound" "shares" "[D" .null := D4 (Or.inr (hw _ (List.mem_of_getElem? (i := 14) rfl))) (ty := (.array .double)) (by decide)
    have F_price_o : Fld Z h4 o "dexterous/transform/LinearRelaxation$Bound" "price" "D" (.double (0 : UInt64)) := D4 (Or.inr (hw _ (List.mem_of_getElem? (i := 16) rfl))) (ty := .double) (by decide)
    have F_work_o : Fld Z h4 o "dexterous/transform/LinearRelaxation$Bound" "work" "J" (.long (0 : Int64)) := D4 (Or.inr (hw _ (List.mem_of_getElem? (i := 18) rfl))) (ty := .long) (by decide)
    have F_total_o : Fld Z h4 o "dexterous/transform/LinearRelaxation$Bound" "total" "J" (.long (0 : Int64)) := D4 (Or.inr (hw _ (List.mem_of_getElem? (i := 20) rfl))) (ty := .long) (by decide)
    have F_worth_o : Fld Z h4 o "dexterous/transform/LinearRelaxation$Bound" "worth" "[J" .null := D4 (Or.inr (hw _ (List.mem_of_getElem? (i := 22) rfl))) (ty := (.array .long)) (by decide)
    refine own_go st4 ?_
    show own_Go p.tables e below _ T4 (mkF m 36 #[.val (.long q1), .second, .val (.long q2), .second, .val (.int p3), .val (.int p4), .val (.ref wa), .val (.int (0 : Int32)), .val (.int (Int32.ofNat i)), .unset, .unset, .unset, .unset, .unset, .unset, .unset, .unset, .unset, .unset, .unset] [(.ref o)])
    refine own_go (fun tz kz => XS.dup X4.here hx rfl (hb hby at_36) rfl rfl kz) ?_
    show own_Go p.tables e below _ T4 (mkF m 37 #[.val (.long q1), .second, .val (.long q2), .second, .val (.int p3), .val (.int p4), .val (.ref wa), .val (.int (0 : Int32)), .val (.int (Int32.ofNat i)), .unset, .unset, .unset, .unset, .unset, .unset, .unset, .unset, .unset, .unset, .unset] [(.ref o), (.ref o)])
    refine own_go (fun tz kz => XT.lconst X4.here hx rfl (hb hby at_37) kz) ?_
    show own_Go p.tables e below _ T4 (mkF m 38 #[.val (.long q1), .second, .val (.long q2), .second, .val (.int p3), .val (.int p4), .val (.ref wa), .val (.int (0 : Int32)), .val (.int (Int32.ofNat i)), .unset, .unset, .unset, .unset, .unset, .unset, .unset, .unset, .unset, .unset, .unset] [(.long (0 : Int64)), (.ref o), (.ref o)])
    refine own_go (fun tz kz => XS.iconst X4.here hx rfl (hb hby at_38) kz) ?_
    show own_Go p.tables e below _ T4 (mkF m 39 #[.val (.long q1), .second, .val (.long q2), .second, .val (.int p3), .val (.int p4), .val (.ref wa), .val (.int (0 : Int32)), .val (.int (Int32.ofNat i)), .unset, .unset, .unset, .unset, .unset, .unset, .unset, .unset, .unset, .unset, .unset] [(.int (0 : Int32)), (.long (0 : Int64)), (.ref o), (.ref o)])
    obtain ⟨T5, h5, k5, X5, e5, E5, A5, st5⟩ := newP X4 hx hZ (hw _ (List.mem_of_getElem? (i := 4) rfl)) e4 (g := (mkF m 39 #[.val (.long q1), .second, .val (.long q2), .second, .val (.int p3), .val (.int p4), .val (.ref wa), .val (.int (0 : Int32)), .val (.int (Int32.ofNat i)), .unset, .unset, .unset, .unset, .unset, .unset, .unset, .unset, .unset, .unset, .unset] [(.int (0 : Int32)), (.long (0 : Int64)), (.ref o), (.ref o)])) rfl (hb hby at_39) rfl (by decide) (cap := 0) (by decide) (by decide) (by decide) (by decide)
    obtain ⟨sh, eq_sh⟩ : ∃ z, z = (h4).size := ⟨_, rfl⟩
    rw [← eq_sh] at A5 st5
    have g_sh : n0 ≤ sh := Nat.le_trans (Nat.le_trans (Nat.le_trans (Nat.le_trans (Nat.le_trans Z0 E1.1) (Keep.of_wr W2).1) (Keep.of_wr W3).1) E4.1) (Nat.le_of_eq eq_sh.symm)
    have V_sh : own_Av Z h5 sh .double 0 (fun _ => .double 0) := own_Av.new A5 (by decide)
    refine own_go st5 ?_
    show own_Go p.tables e below _ T5 (mkF m 41 #[.val (.long q1), .second, .val (.long q2), .second, .val (.int p3), .val (.int p4), .val (.ref wa), .val (.int (0 : Int32)), .val (.int (Int32.ofNat i)), .unset, .unset, .unset, .unset, .unset, .unset, .unset, .unset, .unset, .unset, .unset] [(.ref sh), (.long (0 : Int64)), (.ref o), (.ref o)])
    refine own_go (fun tz kz => XS.dconst0 X5.here hx rfl (hb hby at_41) rfl kz) ?_
    show own_Go p.tables e below _ T5 (mkF m 42 #[.val (.long q1), .second, .val (.long q2), .second, .val (.int p3), .val (.int p4), .val (.ref wa), .val (.int (0 : Int32)), .val (.int (Int32.ofNat i)), .unset, .unset, .unset, .unset, .unset, .unset, .unset, .unset, .unset, .unset, .unset] [(.double FP.dconst0), (.ref sh), (.long (0 : Int64)), (.ref o), (.ref o)])
    refine own_go (fun tz kz => XT.lconst X5.here hx rfl (hb hby at_42) kz) ?_
    show own_Go p.tables e below _ T5 (mkF m 43 #[.val (.long q1), .second, .val (.long q2), .second, .val (.int p3), .val (.int p4), .val (.ref wa), .val (.int (0 : Int32)), .val (.int (Int32.ofNat i)), .unset, .unset, .unset, .unset, .unset, .unset, .unset, .unset, .unset, .unset, .unset] [(.long (0 : Int64)), (.double FP.dconst0), (.ref sh), (.long (0 : Int64)), (.ref o), (.ref o)])
    refine own_go (fun tz kz => XT.lconst X5.here hx rfl (hb hby at_43) kz) ?_
    show own_Go p.tables e below _ T5 (mkF m 44 #[.val (.long q1), .second, .val (.long q2), .second, .val (.int p3), .val (.int p4), .val (.ref wa), .val (.int (0 : Int32)), .val (.int (Int32.ofNat i)), .unset, .unset, .unset, .unset, .unset, .unset, .unset, .unset, .unset, .unset, .unset] [(.long (0 : Int64)), (.long (0 : Int64)), (.double FP.dconst0), (.ref sh), (.long (0 : Int64)), (.ref o), (.ref o)])
    refine own_go (fun tz kz => XS.iload X5.here hx rfl (hb hby at_44) rfl kz) ?_
    show own_Go p.tables e below _ T5 (mkF m 46 #[.val (.long q1), .second, .val (.long q2), .second, .val (.int p3), .val (.int p4), .val (.ref wa), .val (.int (0 : Int32)), .val (.int (Int32.ofNat i)), .unset, .unset, .unset, .unset, .unset, .unset, .unset, .unset, .unset, .unset, .unset] [(.int (0 : Int32)), (.long (0 : Int64)), (.long (0 : Int64)), (.double FP.dconst0), (.ref sh), (.long (0 : Int64)), (.ref o), (.ref o)])
    refine own_go (fun tz kz => XS.ifYes X5.here hx rfl (pc0 := 46) (pc' := 53) rfl (hb hby at_46) rfl (XT.i0_eq_t rfl) (by decide) (by decide) kz) ?_
    show own_Go p.tables e below _ T5 (mkF m 53 #[.val (.long q1), .second, .val (.long q2), .second, .val (.int p3), .val (.int p4), .val (.ref wa), .val (.int (0 : Int32)), .val (.int (Int32.ofNat i)), .unset, .unset, .unset, .unset, .unset, .unset, .unset, .unset, .unset, .unset, .unset] [(.long (0 : Int64)), (.long (0 : Int64)), (.double FP.dconst0), (.ref sh), (.long (0 : Int64)), (.ref o), (.ref o)])
    refine own_go (fun tz kz => XS.aload X5.here hx rfl (hb hby at_53) rfl rfl kz) ?_
    show own_Go p.tables e below _ T5 (mkF m 55 #[.val (.long q1), .second, .val (.long q2), .second, .val (.int p3), .val (.int p4), .val (.ref wa), .val (.int (0 : Int32)), .val (.int (Int32.ofNat i)), .unset, .unset, .unset, .unset, .unset, .unset, .unset, .unset, .unset, .unset, .unset] [(.ref wa), (.long (0 : Int64)), (.long (0 : Int64)), (.double FP.dconst0), (.ref sh), (.long (0 : Int64)), (.ref o), (.ref o)])
    obtain ⟨_, _, ⟨T6, L6, k6, n6⟩, -, X6, ⟨Lc6, hQ6, l6, y6, z6⟩, st6⟩ := X5.specialBack hx (y := (⟨"dexterous/transform/LinearRelaxation$Bound", "<init>", "(J[DDJJ[J)V"⟩ : MethodName)) rfl hown (mvT hZ (hw _ (List.mem_of_getElem? (i := 5) rfl))) (mvT hZ (hw _ (List.mem_of_getElem? (i := 6) rfl))) (mvT hZ (hw _ (List.mem_of_getElem? (i := 7) rfl))) (by decide) (backOf (W := 1) (rm1r l Z a0 hw [] o (0 : Int64) sh FP.dconst0 (0 : Int64) (0 : Int64) wa _ _ _ _ _ _ h5 n0 (Nat.le_trans (Nat.le_trans (Nat.le_trans (Nat.le_trans (Nat.le_trans Z0 E1.1) (Keep.of_wr W2).1) (Keep.of_wr W3).1) E4.1) E5.1) (F_bound_o.ext E5) (F_shares_o.ext E5) (F_price_o.ext E5) (F_work_o.ext E5) (F_total_o.ext E5) (F_worth_o.ext E5) (A4.ext E5) g_o) hZ (hw _ (List.mem_of_getElem? (i := 7) rfl)) (hw _ (List.mem_of_getElem? (i := 3) rfl)) (by decide) (by decide)) (g := (mkF m 55 #[.val (.long q1), .second, .val (.long q2), .second, .val (.int p3), .val (.int p4), .val (.ref wa), .val (.int (0 : Int32)), .val (.int (Int32.ofNat i)), .unset, .unset, .unset, .unset, .unset, .unset, .unset, .unset, .unset, .unset, .unset] [(.ref wa), (.long (0 : Int64)), (.long (0 : Int64)), (.double FP.dconst0), (.ref sh), (.long (0 : Int64)), (.ref o), (.ref o)])) rfl (by rw [hml]; rfl) (Steps.refl _) (a := o) (argsL := [(.long (0 : Int64)), (.ref sh), (.double FP.dconst0), (.long (0 : Int64)), (.long (0 : Int64)), (.ref wa)]) (rest := [(.ref o)]) (lenOf pd_0 rfl) rfl (by show 2 * 0 + _ ≤ _; exact Nat.le_of_eq rfl) (hb hby at_55) (fun _ _ => ⟨rfl, e5, (by decide : 3 + 0 ≤ _), (by decide : 8 + 0 ≤ _)⟩)
    dsimp only [Pt.U, Pt.locs, Pt.cells, Pt.slots] at X6 l6 y6 z6 st6 hQ6
    subst l6 y6 z6
    obtain ⟨rfl, N6q, K6, Ex, F1, F2, F3, F4, F5, F6⟩ := hQ6
    have N6 := Fr.app N3 N6q
    refine own_go (fun tz kz => st6.trans kz) ?_
    show own_Go p.tables e below _ T6 (mkF m 58 #[.val (.long q1), .second, .val (.long q2), .second, .val (.int p3), .val (.int p4), .val (.ref wa), .val (.int (0 : Int32)), .val (.int (Int32.ofNat i)), .unset, .unset, .unset, .unset, .unset, .unset, .unset, .unset, .unset, .unset, .unset] [(.ref o)])
    have hne : wa ≠ o := Nat.ne_of_lt (Nat.lt_of_lt_of_le Vw.lt (Nat.le_of_eq eq_o.symm))
    have Vw' := own_Av.keep ((Vw.ext E4).ext E5) K6 (own_not1 hne)
    refine own_go (fun tz kz => XS.astore X6.here hx rfl (hb hby at_58) rfl rfl (l' := #[.val (.long q1), .second, .val (.long q2), .second, .val (.int p3), .val (.int p4), .val (.ref wa), .val (.int (0 : Int32)), .val (.int (Int32.ofNat i)), .val (.ref o), .unset, .unset, .unset, .unset, .unset, .unset, .unset, .unset, .unset, .unset]) rfl kz) ?_
    show own_Go p.tables e below _ T6 (mkF m 60 #[.val (.long q1), .second, .val (.long q2), .second, .val (.int p3), .val (.int p4), .val (.ref wa), .val (.int (0 : Int32)), .val (.int (Int32.ofNat i)), .val (.ref o), .unset, .unset, .unset, .unset, .unset, .unset, .unset, .unset, .unset, .unset] [])
    refine own_go (fun tz kz => XS.aload X6.here hx rfl (hb hby at_60) rfl rfl kz) ?_
    show own_Go p.tables e below _ T6 (mkF m 62 #[.val (.long q1), .second, .val (.long q2), .second, .val (.int p3), .val (.int p4), .val (.ref wa), .val (.int (0 : Int32)), .val (.int (Int32.ofNat i)), .val (.ref o), .unset, .unset, .unset, .unset, .unset, .unset, .unset, .unset, .unset, .unset] [(.ref o)])
    refine own_go (fun tz kz => XS.iload X6.here hx rfl (hb hby at_62) rfl kz) ?_
    show own_Go p.tables e below _ T6 (mkF m 64 #[.val (.long q1), .second, .val (.long q2), .second, .val (.int p3), .val (.int p4), .val (.ref wa), .val (.int (0 : Int32)), .val (.int (Int32.ofNat i)), .val (.ref o), .unset, .unset, .unset, .unset, .unset, .unset, .unset, .unset, .unset, .unset] [(.int (Int32.ofNat i)), (.ref o)])
    obtain ⟨cq7, kq7, q7a, q7b, q7c⟩ := isOf hZ rfl Ex
    obtain ⟨_, _, ⟨T7, L7, k7, n7⟩, -, X7, ⟨Lc7, hQ7, l7, y7, z7⟩, st7⟩ := X6.virtualBack hx (y := (⟨"dexterous/transform/LinearRelaxation$Bound", "worth", "(I)D"⟩ : MethodName)) (z := (⟨"dexterous/transform/LinearRelaxation$Bound", "worth", "(I)D"⟩ : MethodName)) hown (mvT hZ (hw _ (List.mem_of_getElem? (i := 23) rfl))) (mvT hZ (hw _ (List.mem_of_getElem? (i := 24) rfl))) (notFace_of_selects (args := #[]) (mvT hZ (hw _ (List.mem_of_getElem? (i := 26) rfl)))) (mvT hZ (hw _ (List.mem_of_getElem? (i := 26) rfl))) (mvT hZ (hw _ (List.mem_of_getElem? (i := 25) rfl))) (by decide) (backOf (W := 0) (rm3r l Z a0 hw [] o wa i (fun k => if k = 0 then q1 else q2) T6.heap n0 (Nat.le_trans (Nat.le_trans (Nat.le_trans (Nat.le_trans (Nat.le_trans (Nat.le_trans Z0 E1.1) (Keep.of_wr W2).1) (Keep.of_wr W3).1) E4.1) E5.1) K6.1) F6 Vw' hi) hZ (hw _ (List.mem_of_getElem? (i := 27) rfl)) (hw _ (List.mem_of_getElem? (i := 3) rfl)) (by decide) (by decide)) q7a q7c (g := (mkF m 64 #[.val (.long q1), .second, .val (.long q2), .second, .val (.int p3), .val (.int p4), .val (.ref wa), .val (.int (0 : Int32)), .val (.int (Int32.ofNat i)), .val (.ref o), .unset, .unset, .unset, .unset, .unset, .unset, .unset, .unset, .unset, .unset] [(.int (Int32.ofNat i)), (.ref o)])) rfl (by rw [hml]; rfl) (Steps.refl _) (argsL := [(.int (Int32.ofNat i))]) (rest := []) (lenOf pd_1 rfl) rfl (by show 2 * 0 + _ ≤ _; exact Nat.le_of_eq rfl) (hb hby at_64) (fun _ _ => ⟨rfl, rfl, (by decide : 3 + 0 ≤ _), (by decide : 8 + 0 ≤ _)⟩)
    dsimp only [Pt.U, Pt.locs, Pt.cells, Pt.slots] at X7 l7 y7 z7 st7 hQ7
    subst l7 y7 z7
    obtain ⟨rfl, N7q, e7⟩ := hQ7
    have N7 := Fr.app N6 N7q
    refine own_go (fun tz kz => st7.trans kz) ?_
    show own_Go p.tables e below _ T7 (mkF m 67 #[.val (.long q1), .second, .val (.long q2), .second, .val (.int p3), .val (.int p4), .val (.ref wa), .val (.int (0 : Int32)), .val (.int (Int32.ofNat i)), .val (.ref o), .unset, .unset, .unset, .unset, .unset, .unset, .unset, .unset, .unset, .unset] [(.double (FP.ddiv (FP.l2d ((fun k => if k = 0 then q1 else q2) i)) (4742290407621132288 : UInt64)))])
    refine own_go (fun tz kz => XS.dstore X7.here hx rfl (hb hby at_67) rfl (l' := #[.val (.long q1), .second, .val (.long q2), .second, .val (.int p3), .val (.int p4), .val (.ref wa), .val (.int (0 : Int32)), .val (.int (Int32.ofNat i)), .val (.ref o), .val (.double (FP.ddiv (FP.l2d ((fun k => if k = 0 then q1 else q2) i)) (4742290407621132288 : UInt64))), .second, .unset, .unset, .unset, .unset, .unset, .unset, .unset, .unset]) rfl kz) ?_
    show own_Go p.tables e below _ T7 (mkF m 69 #[.val (.long q1), .second, .val (.long q2), .second, .val (.int p3), .val (.int p4), .val (.ref wa), .val (.int (0 : Int32)), .val (.int (Int32.ofNat i)), .val (.ref o), .val (.double (FP.ddiv (FP.l2d ((fun k => if k = 0 then q1 else q2) i)) (4742290407621132288 : UInt64))), .second, .unset, .unset, .unset, .unset, .unset, .unset, .unset, .unset] [])
    refine own_go (fun tz kz => XS.iload X7.here hx rfl (hb hby at_69) rfl kz) ?_
    show own_Go p.tables e below _ T7 (mkF m 71 #[.val (.long q1), .second, .val (.long q2), .second, .val (.int p3), .val (.int p4), .val (.ref wa), .val (.int (0 : Int32)), .val (.int (Int32.ofNat i)), .val (.ref o), .val (.double (FP.ddiv (FP.l2d ((fun k => if k = 0 then q1 else q2) i)) (4742290407621132288 : UInt64))), .second, .unset, .unset, .unset, .unset, .unset, .unset, .unset, .unset] [(.int (0 : Int32))])
    refine own_go (fun tz kz => XS.ifYes X7.here hx rfl (pc0 := 71) (pc' := 87) rfl (hb hby at_71) rfl (XT.i0_eq_t rfl) (by decide) (by decide) kz) ?_
    show own_Go p.tables e below _ T7 (mkF m 87 #[.val (.long q1), .second, .val (.long q2), .second, .val (.int p3), .val (.int p4), .val (.ref wa), .val (.int (0 : Int32)), .val (.int (Int32.ofNat i)), .val (.ref o), .val (.double (FP.ddiv (FP.l2d ((fun k => if k = 0 then q1 else q2) i)) (4742290407621132288 : UInt64))), .second, .unset, .unset, .unset, .unset, .unset, .unset, .unset, .unset] [])
    refine own_go (fun tz kz => XS.iload X7.here hx rfl (hb hby at_87) rfl kz) ?_
    show own_Go p.tables e below _ T7 (mkF m 89 #[.val (.long q1), .second, .val (.long q2), .second, .val (.int p3), .val (.int p4), .val (.ref wa), .val (.int (0 : Int32)), .val (.int (Int32.ofNat i)), .val (.ref o), .val (.double (FP.ddiv (FP.l2d ((fun k => if k = 0 then q1 else q2) i)) (4742290407621132288 : UInt64))), .second, .unset, .unset, .unset, .unset, .unset, .unset, .unset, .unset] [(.int (Int32.ofNat i))])
    rcases (by omega : i = 0 ∨ i = 1) with rfl | rfl
    ·
      show own_Go p.tables e below _ T7 (mkF m 89 #[.val (.long q1), .second, .val (.long q2), .second, .val (.int p3), .val (.int p4), .val (.ref wa), .val (.int (0 : Int32)), .val (.int (Int32.ofNat 0)), .val (.ref o), .val (.double (FP.ddiv (FP.l2d q1) (4742290407621132288 : UInt64))), .second, .unset, .unset, .unset, .unset, .unset, .unset, .unset, .unset] [(.int (Int32.ofNat 0))])
      refine own_go (fun tz kz => XS.ifNo X7.here hx rfl (hb hby at_89) rfl (XT.i0_ne_f (by decide)) kz) ?_
      show own_Go p.tables e below _ T7 (mkF m 92 #[.val (.long q1), .second, .val (.long q2), .second, .val (.int p3), .val (.int p4), .val (.ref wa), .val (.int (0 : Int32)), .val (.int (Int32.ofNat 0)), .val (.ref o), .val (.double (FP.ddiv (FP.l2d q1) (4742290407621132288 : UInt64))), .second, .unset, .unset, .unset, .unset, .unset, .unset, .unset, .unset] [])
      refine own_go (fun tz kz => XT.lloadN X7.here hx rfl (hb hby at_92) rfl kz) ?_
      show own_Go p.tables e below _ T7 (mkF m 93 #[.val (.long q1), .second, .val (.long q2), .second, .val (.int p3), .val (.int p4), .val (.ref wa), .val (.int (0 : Int32)), .val (.int (Int32.ofNat 0)), .val (.ref o), .val (.double (FP.ddiv (FP.l2d q1) (4742290407621132288 : UInt64))), .second, .unset, .unset, .unset, .unset, .unset, .unset, .unset, .unset] [(.long q1)])
      refine own_go (fun tz kz => XS.goto X7.here hx rfl (pc0 := 93) (pc' := 97) rfl (hb hby at_93) (by decide) (by decide) kz) ?_
      show own_Go p.tables e below _ T7 (mkF m 97 #[.val (.long q1), .second, .val (.long q2), .second, .val (.int p3), .val (.int p4), .val (.ref wa), .val (.int (0 : Int32)), .val (.int (Int32.ofNat 0)), .val (.ref o), .val (.double (FP.ddiv (FP.l2d q1) (4742290407621132288 : UInt64))), .second, .unset, .unset, .unset, .unset, .unset, .unset, .unset, .unset] [(.long q1)])
      refine own_go (fun tz kz => XT.lstore X7.here hx rfl (hb hby at_97) rfl (l' := #[.val (.long q1), .second, .val (.long q2), .second, .val (.int p3), .val (.int p4), .val (.ref wa), .val (.int (0 : Int32)), .val (.int (Int32.ofNat 0)), .val (.ref o), .val (.double (FP.ddiv (FP.l2d q1) (4742290407621132288 : UInt64))), .second, .val (.long q1), .second, .unset, .unset, .unset, .unset, .unset, .unset]) rfl kz) ?_
      show own_Go p.tables e below _ T7 (mkF m 99 #[.val (.long q1), .second, .val (.long q2), .second, .val (.int p3), .val (.int p4), .val (.ref wa), .val (.int (0 : Int32)), .val (.int (Int32.ofNat 0)), .val (.ref o), .val (.double (FP.ddiv (FP.l2d q1) (4742290407621132288 : UInt64))), .second, .val (.long q1), .second, .unset, .unset, .unset, .unset, .unset, .unset] [])
      refine own_go (fun tz kz => XT.lload X7.here hx rfl (hb hby at_99) rfl kz) ?_
      show own_Go p.tables e below _ T7 (mkF m 101 #[.val (.long q1), .second, .val (.long q2), .second, .val (.int p3), .val (.int p4), .val (.ref wa), .val (.int (0 : Int32)), .val (.int (Int32.ofNat 0)), .val (.ref o), .val (.double (FP.ddiv (FP.l2d q1) (4742290407621132288 : UInt64))), .second, .val (.long q1), .second, .unset, .unset, .unset, .unset, .unset, .unset] [(.long q1)])
      refine own_go (fun tz kz => XS.bipush X7.here hx rfl (hb hby at_101) kz) ?_
      show own_Go p.tables e below _ T7 (mkF m 103 #[.val (.long q1), .second, .val (.long q2), .second, .val (.int p3), .val (.int p4), .val (.ref wa), .val (.int (0 : Int32)), .val (.int (Int32.ofNat 0)), .val (.ref o), .val (.double (FP.ddiv (FP.l2d q1) (4742290407621132288 : UInt64))), .second, .val (.long q1), .second, .unset, .unset, .unset, .unset, .unset, .unset] [(.int (30 : Int32)), (.long q1)])
      refine own_go (fun tz kz => XT.lshr X7.here hx rfl (hb hby at_103) rfl kz) ?_
      show own_Go p.tables e below _ T7 (mkF m 104 #[.val (.long q1), .second, .val (.long q2), .second, .val (.int p3), .val (.int p4), .val (.ref wa), .val (.int (0 : Int32)), .val (.int (Int32.ofNat 0)), .val (.ref o), .val (.double (FP.ddiv (FP.l2d q1) (4742290407621132288 : UInt64))), .second, .val (.long q1), .second, .unset, .unset, .unset, .unset, .unset, .unset] [(.long (q1 >>> ((30 : Int32).toInt64 &&& 63)))])
      refine own_go (fun tz kz => XT.lstore X7.here hx rfl (hb hby at_104) rfl (l' := #[.val (.long q1), .second, .val (.long q2), .second, .val (.int p3), .val (.int p4), .val (.ref wa), .val (.int (0 : Int32)), .val (.int (Int32.ofNat 0)), .val (.ref o), .val (.double (FP.ddiv (FP.l2d q1) (4742290407621132288 : UInt64))), .second, .val (.long q1), .second, .val (.long (q1 >>> ((30 : Int32).toInt64 &&& 63))), .second, .unset, .unset, .unset, .unset]) rfl kz) ?_
      show own_Go p.tables e below _ T7 (mkF m 106 #[.val (.long q1), .second, .val (.long q2), .second, .val (.int p3), .val (.int p4), .val (.ref wa), .val (.int (0 : Int32)), .val (.int (Int32.ofNat 0)), .val (.ref o), .val (.double (FP.ddiv (FP.l2d q1) (4742290407621132288 : UInt64))), .second, .val (.long q1), .second, .val (.long (q1 >>> ((30 : Int32).toInt64 &&& 63))), .second, .unset, .unset, .unset, .unset] [])
      refine own_go (fun tz kz => XT.lload X7.here hx rfl (hb hby at_106) rfl kz) ?_
      show own_Go p.tables e below _ T7 (mkF m 108 #[.val (.long q1), .second, .val (.long q2), .second, .val (.int p3), .val (.int p4), .val (.ref wa), .val (.int (0 : Int32)), .val (.int (Int32.ofNat 0)), .val (.ref o), .val (.double (FP.ddiv (FP.l2d q1) (4742290407621132288 : UInt64))), .second, .val (.long q1), .second, .val (.long (q1 >>> ((30 : Int32).toInt64 &&& 63))), .second, .unset, .unset, .unset, .unset] [(.long q1)])
      refine own_go (fun tz kz => X7.ldc2J hx hown (mvT hZ (hw _ (List.mem_of_getElem? (i := 29) rfl))) rfl (hb hby at_108) kz) ?_
      show own_Go p.tables e below _ T7 (mkF m 111 #[.val (.long q1), .second, .val (.long q2), .second, .val (.int p3), .val (.int p4), .val (.ref wa), .val (.int (0 : Int32)), .val (.int (Int32.ofNat 0)), .val (.ref o), .val (.double (FP.ddiv (FP.l2d q1) (4742290407621132288 : UInt64))), .second, .val (.long q1), .second, .val (.long (q1 >>> ((30 : Int32).toInt64 &&& 63))), .second, .unset, .unset, .unset, .unset] [(.long (1073741823 : Int64)), (.long q1)])
      refine own_go (fun tz kz => XT.land X7.here hx rfl (hb hby at_111) rfl kz) ?_
      show own_Go p.tables e below _ T7 (mkF m 112 #[.val (.long q1), .second, .val (.long q2), .second, .val (.int p3), .val (.int p4), .val (.ref wa), .val (.int (0 : Int32)), .val (.int (Int32.ofNat 0)), .val (.ref o), .val (.double (FP.ddiv (FP.l2d q1) (4742290407621132288 : UInt64))), .second, .val (.long q1), .second, .val (.long (q1 >>> ((30 : Int32).toInt64 &&& 63))), .second, .unset, .unset, .unset, .unset] [(.long (q1 &&& (1073741823 : Int64)))])
      refine own_go (fun tz kz => XT.lstore X7.here hx rfl (hb hby at_112) rfl (l' := #[.val (.long q1), .second, .val (.long q2), .second, .val (.int p3), .val (.int p4), .val (.ref wa), .val (.int (0 : Int32)), .val (.int (Int32.ofNat 0)), .val (.ref o), .val (.double (FP.ddiv (FP.l2d q1) (4742290407621132288 : UInt64))), .second, .val (.long q1), .second, .val (.long (q1 >>> ((30 : Int32).toInt64 &&& 63))), .second, .val (.long (q1 &&& (1073741823 : Int64))), .second, .unset, .unset]) rfl kz) ?_
      show own_Go p.tables e below _ T7 (mkF m 114 #[.val (.long q1), .second, .val (.long q2), .second, .val (.int p3), .val (.int p4), .val (.ref wa), .val (.int (0 : Int32)), .val (.int (Int32.ofNat 0)), .val (.ref o), .val (.double (FP.ddiv (FP.l2d q1) (4742290407621132288 : UInt64))), .second, .val (.long q1), .second, .val (.long (q1 >>> ((30 : Int32).toInt64 &&& 63))), .second, .val (.long (q1 &&& (1073741823 : Int64))), .second, .unset, .unset] [])
      refine own_go (fun tz kz => XT.lload X7.here hx rfl (hb hby at_114) rfl kz) ?_
      show own_Go p.tables e below _ T7 (mkF m 116 #[.val (.long q1), .second, .val (.long q2), .second, .val (.int p3), .val (.int p4), .val (.ref wa), .val (.int (0 : Int32)), .val (.int (Int32.ofNat 0)), .val (.ref o), .val (.double (FP.ddiv (FP.l2d q1) (4742290407621132288 : UInt64))), .second, .val (.long q1), .second, .val (.long (q1 >>> ((30 : Int32).toInt64 &&& 63))), .second, .val (.long (q1 &&& (1073741823 : Int64))), .second, .unset, .unset] [(.long (q1 >>> ((30 : Int32).toInt64 &&& 63)))])
      refine own_go (fun tz kz => XS.l2dS X7.here hx rfl (hb hby at_116) rfl rfl kz) ?_
      show own_Go p.tables e below _ T7 (mkF m 117 #[.val (.long q1), .second, .val (.long q2), .second, .val (.int p3), .val (.int p4), .val (.ref wa), .val (.int (0 : Int32)), .val (.int (Int32.ofNat 0)), .val (.ref o), .val (.double (FP.ddiv (FP.l2d q1) (4742290407621132288 : UInt64))), .second, .val (.long q1), .second, .val (.long (q1 >>> ((30 : Int32).toInt64 &&& 63))), .second, .val (.long (q1 &&& (1073741823 : Int64))), .second, .unset, .unset] [(.double (FP.l2d (q1 >>> ((30 : Int32).toInt64 &&& 63))))])
      refine own_go (fun tz kz => XT.lload X7.here hx rfl (hb hby at_117) rfl kz) ?_
      show own_Go p.tables e below _ T7 (mkF m 119 #[.val (.long q1), .second, .val (.long q2), .second, .val (.int p3), .val (.int p4), .val (.ref wa), .val (.int (0 : Int32)), .val (.int (Int32.ofNat 0)), .val (.ref o), .val (.double (FP.ddiv (FP.l2d q1) (4742290407621132288 : UInt64))), .second, .val (.long q1), .second, .val (.long (q1 >>> ((30 : Int32).toInt64 &&& 63))), .second, .val (.long (q1 &&& (1073741823 : Int64))), .second, .unset, .unset] [(.long (q1 &&& (1073741823 : Int64))), (.double (FP.l2d (q1 >>> ((30 : Int32).toInt64 &&& 63))))])
      refine own_go (fun tz kz => XS.l2dS X7.here hx rfl (hb hby at_119) rfl rfl kz) ?_
      show own_Go p.tables e below _ T7 (mkF m 120 #[.val (.long q1), .second, .val (.long q2), .second, .val (.int p3), .val (.int p4), .val (.ref wa), .val (.int (0 : Int32)), .val (.int (Int32.ofNat 0)), .val (.ref o), .val (.double (FP.ddiv (FP.l2d q1) (4742290407621132288 : UInt64))), .second, .val (.long q1), .second, .val (.long (q1 >>> ((30 : Int32).toInt64 &&& 63))), .second, .val (.long (q1 &&& (1073741823 : Int64))), .second, .unset, .unset] [(.double (FP.l2d (q1 &&& (1073741823 : Int64)))), (.double (FP.l2d (q1 >>> ((30 : Int32).toInt64 &&& 63))))])
      refine own_go (fun tz kz => own_ldc2D X7 hx hown (mvT hZ (hw _ (List.mem_of_getElem? (i := 30) rfl))) rfl (hb hby at_120) kz) ?_
      show own_Go p.tables e below _ T7 (mkF m 123 #[.val (.long q1), .second, .val (.long q2), .second, .val (.int p3), .val (.int p4), .val (.ref wa), .val (.int (0 : Int32)), .val (.int (Int32.ofNat 0)), .val (.ref o), .val (.double (FP.ddiv (FP.l2d q1) (4742290407621132288 : UInt64))), .second, .val (.long q1), .second, .val (.long (q1 >>> ((30 : Int32).toInt64 &&& 63))), .second, .val (.long (q1 &&& (1073741823 : Int64))), .second, .unset, .unset] [(.double (4742290407621132288 : UInt64)), (.double (FP.l2d (q1 &&& (1073741823 : Int64)))), (.double (FP.l2d (q1 >>> ((30 : Int32).toInt64 &&& 63))))])
      refine own_go (fun tz kz => XS.ddivS X7.here hx rfl (hb hby at_123) rfl (own_nd _) rfl kz) ?_
      show own_Go p.tables e below _ T7 (mkF m 124 #[.val (.long q1), .second, .val (.long q2), .second, .val (.int p3), .val (.int p4), .val (.ref wa), .val (.int (0 : Int32)), .val (.int (Int32.ofNat 0)), .val (.ref o), .val (.double (FP.ddiv (FP.l2d q1) (4742290407621132288 : UInt64))), .second, .val (.long q1), .second, .val (.long (q1 >>> ((30 : Int32).toInt64 &&& 63))), .second, .val (.long (q1 &&& (1073741823 : Int64))), .second, .unset, .unset] [(.double (FP.ddiv (FP.l2d (q1 &&& (1073741823 : Int64))) (4742290407621132288 : UInt64))), (.double (FP.l2d (q1 >>> ((30 : Int32).toInt64 &&& 63))))])
      refine own_go (fun tz kz => XS.daddS X7.here hx rfl (hb hby at_124) rfl (own_ns _ _) rfl kz) ?_
      show own_Go p.tables e below _ T7 (mkF m 125 #[.val (.long q1), .second, .val (.long q2), .second, .val (.int p3), .val (.int p4), .val (.ref wa), .val (.int (0 : Int32)), .val (.int (Int32.ofNat 0)), .val (.ref o), .val (.double (FP.ddiv (FP.l2d q1) (4742290407621132288 : UInt64))), .second, .val (.long q1), .second, .val (.long (q1 >>> ((30 : Int32).toInt64 &&& 63))), .second, .val (.long (q1 &&& (1073741823 : Int64))), .second, .unset, .unset] [(.double (FP.dadd (FP.l2d (q1 >>> ((30 : Int32).toInt64 &&& 63))) (FP.ddiv (FP.l2d (q1 &&& (1073741823 : Int64))) (4742290407621132288 : UInt64))))])
      rw [show (FP.dadd (FP.l2d (q1 >>> ((30 : Int32).toInt64 &&& 63))) (FP.ddiv (FP.l2d (q1 &&& (1073741823 : Int64))) (4742290407621132288 : UInt64))) = (FP.ddiv (FP.l2d q1) (4742290407621132288 : UInt64)) from own_round q1]
      show own_Go p.tables e below _ T7 (mkF m 125 #[.val (.long q1), .second, .val (.long q2), .second, .val (.int p3), .val (.int p4), .val (.ref wa), .val (.int (0 : Int32)), .val (.int (Int32.ofNat 0)), .val (.ref o), .val (.double (FP.ddiv (FP.l2d q1) (4742290407621132288 : UInt64))), .second, .val (.long q1), .second, .val (.long (q1 >>> ((30 : Int32).toInt64 &&& 63))), .second, .val (.long (q1 &&& (1073741823 : Int64))), .second, .unset, .unset] [(.double (FP.ddiv (FP.l2d q1) (4742290407621132288 : UInt64)))])
      refine own_go (fun tz kz => XS.dstore X7.here hx rfl (hb hby at_125) rfl (l' := #[.val (.long q1), .second, .val (.long q2), .second, .val (.int p3), .val (.int p4), .val (.ref wa), .val (.int (0 : Int32)), .val (.int (Int32.ofNat 0)), .val (.ref o), .val (.double (FP.ddiv (FP.l2d q1) (4742290407621132288 : UInt64))), .second, .val (.long q1), .second, .val (.long (q1 >>> ((30 : Int32).toInt64 &&& 63))), .second, .val (.long (q1 &&& (1073741823 : Int64))), .second, .val (.double (FP.ddiv (FP.l2d q1) (4742290407621132288 : UInt64))), .second]) rfl kz) ?_
      show own_Go p.tables e below _ T7 (mkF m 127 #[.val (.long q1), .second, .val (.long q2), .second, .val (.int p3), .val (.int p4), .val (.ref wa), .val (.int (0 : Int32)), .val (.int (Int32.ofNat 0)), .val (.ref o), .val (.double (FP.ddiv (FP.l2d q1) (4742290407621132288 : UInt64))), .second, .val (.long q1), .second, .val (.long (q1 >>> ((30 : Int32).toInt64 &&& 63))), .second, .val (.long (q1 &&& (1073741823 : Int64))), .second, .val (.double (FP.ddiv (FP.l2d q1) (4742290407621132288 : UInt64))), .second] [])
      refine own_go (fun tz kz => XS.dload X7.here hx rfl (hb hby at_127) rfl kz) ?_
      show own_Go p.tables e below _ T7 (mkF m 129 #[.val (.long q1), .second, .val (.long q2), .second, .val (.int p3), .val (.int p4), .val (.ref wa), .val (.int (0 : Int32)), .val (.int (Int32.ofNat 0)), .val (.ref o), .val (.double (FP.ddiv (FP.l2d q1) (4742290407621132288 : UInt64))), .second, .val (.long q1), .second, .val (.long (q1 >>> ((30 : Int32).toInt64 &&& 63))), .second, .val (.long (q1 &&& (1073741823 : Int64))), .second, .val (.double (FP.ddiv (FP.l2d q1) (4742290407621132288 : UInt64))), .second] [(.double (FP.ddiv (FP.l2d q1) (4742290407621132288 : UInt64)))])
      refine own_go (fun tz kz => XS.dload X7.here hx rfl (hb hby at_129) rfl kz) ?_
      show own_Go p.tables e below _ T7 (mkF m 131 #[.val (.long q1), .second, .val (.long q2), .second, .val (.int p3), .val (.int p4), .val (.ref wa), .val (.int (0 : Int32)), .val (.int (Int32.ofNat 0)), .val (.ref o), .val (.double (FP.ddiv (FP.l2d q1) (4742290407621132288 : UInt64))), .second, .val (.long q1), .second, .val (.long (q1 >>> ((30 : Int32).toInt64 &&& 63))), .second, .val (.long (q1 &&& (1073741823 : Int64))), .second, .val (.double (FP.ddiv (FP.l2d q1) (4742290407621132288 : UInt64))), .second] [(.double (FP.ddiv (FP.l2d q1) (4742290407621132288 : UInt64))), (.double (FP.ddiv (FP.l2d q1) (4742290407621132288 : UInt64)))])
      refine own_go (fun tz kz => XS.dcmpS X7.here hx rfl (hb hby at_131) rfl (dcmpV_self (own_nd _) _) kz) ?_
      show own_Go p.tables e below _ T7 (mkF m 132 #[.val (.long q1), .second, .val (.long q2), .second, .val (.int p3), .val (.int p4), .val (.ref wa), .val (.int (0 : Int32)), .val (.int (Int32.ofNat 0)), .val (.ref o), .val (.double (FP.ddiv (FP.l2d q1) (4742290407621132288 : UInt64))), .second, .val (.long q1), .second, .val (.long (q1 >>> ((30 : Int32).toInt64 &&& 63))), .second, .val (.long (q1 &&& (1073741823 : Int64))), .second, .val (.double (FP.ddiv (FP.l2d q1) (4742290407621132288 : UInt64))), .second] [(.int (0 : Int32))])
      refine own_go (fun tz kz => XS.ifNo X7.here hx rfl (hb hby at_132) rfl (XT.i0_ne_f rfl) kz) ?_
      show own_Go p.tables e below _ T7 (mkF m 135 #[.val (.long q1), .second, .val (.long q2), .second, .val (.int p3), .val (.int p4), .val (.ref wa), .val (.int (0 : Int32)), .val (.int (Int32.ofNat 0)), .val (.ref o), .val (.double (FP.ddiv (FP.l2d q1) (4742290407621132288 : UInt64))), .second, .val (.long q1), .second, .val (.long (q1 >>> ((30 : Int32).toInt64 &&& 63))), .second, .val (.long (q1 &&& (1073741823 : Int64))), .second, .val (.double (FP.ddiv (FP.l2d q1) (4742290407621132288 : UInt64))), .second] [])
      refine own_go (fun tz kz => XS.iconst X7.here hx rfl (hb hby at_135) kz) ?_
      show own_Go p.tables e below _ T7 (mkF m 136 #[.val (.long q1), .second, .val (.long q2), .second, .val (.int p3), .val (.int p4), .val (.ref wa), .val (.int (0 : Int32)), .val (.int (Int32.ofNat 0)), .val (.ref o), .val (.double (FP.ddiv (FP.l2d q1) (4742290407621132288 : UInt64))), .second, .val (.long q1), .second, .val (.long (q1 >>> ((30 : Int32).toInt64 &&& 63))), .second, .val (.long (q1 &&& (1073741823 : Int64))), .second, .val (.double (FP.ddiv (FP.l2d q1) (4742290407621132288 : UInt64))), .second] [(.int (1 : Int32))])
      refine own_go (fun tz kz => XS.goto X7.here hx rfl (pc0 := 136) (pc' := 140) rfl (hb hby at_136) (by decide) (by decide) kz) ?_
      show own_Go p.tables e below _ T7 (mkF m 140 #[.val (.long q1), .second, .val (.long q2), .second, .val (.int p3), .val (.int p4), .val (.ref wa), .val (.int (0 : Int32)), .val (.int (Int32.ofNat 0)), .val (.ref o), .val (.double (FP.ddiv (FP.l2d q1) (4742290407621132288 : UInt64))), .second, .val (.long q1), .second, .val (.long (q1 >>> ((30 : Int32).toInt64 &&& 63))), .second, .val (.long (q1 &&& (1073741823 : Int64))), .second, .val (.double (FP.ddiv (FP.l2d q1) (4742290407621132288 : UInt64))), .second] [(.int (1 : Int32))])
      obtain ⟨fs, hr, hrun, hended, hW, hsame⟩ := X7.leave (v := some (.int (1 : Int32))) (fun h => by rw [Bd.returns] at h; cases h) (BodyLoose.notSynchronized Bd)
      refine ⟨_, _, ?_, hrun, hended, _, _, rfl, ?_, ⟨_, rfl⟩, hW, hsame.mono (by decide) (by decide)⟩
      · exact retN X7 hx (t := .boolean) Bd.returns (by simp) (hb hby at_140) hr
      · show Q0 Z q1 q2 p3 p4 h0 n0 _ T7.heap _
        rw [e7]
        exact ⟨rfl, N7⟩
    ·
      show own_Go p.tables e below _ T7 (mkF m 89 #[.val (.long q1), .second, .val (.long q2), .second, .val (.int p3), .val (.int p4), .val (.ref wa), .val (.int (0 : Int32)), .val (.int (Int32.ofNat 1)), .val (.ref o), .val (.double (FP.ddiv (FP.l2d q2) (4742290407621132288 : UInt64))), .second, .unset, .unset, .unset, .unset, .unset, .unset, .unset, .unset] [(.int (Int32.ofNat 1))])
      refine own_go (fun tz kz => XS.ifYes X7.here hx rfl (pc0 := 89) (pc' := 96) rfl (hb hby at_89) rfl (XT.i0_ne_t (by decide)) (by decide) (by decide) kz) ?_
      show own_Go p.tables e below _ T7 (mkF m 96 #[.val (.long q1), .second, .val (.long q2), .second, .val (.int p3), .val (.int p4), .val (.ref wa), .val (.int (0 : Int32)), .val (.int (Int32.ofNat 1)), .val (.ref o), .val (.double (FP.ddiv (FP.l2d q2) (4742290407621132288 : UInt64))), .second, .unset, .unset, .unset, .unset, .unset, .unset, .unset, .unset] [])
      refine own_go (fun tz kz => XT.lloadN X7.here hx rfl (hb hby at_96) rfl kz) ?_
      show own_Go p.tables e below _ T7 (mkF m 97 #[.val (.long q1), .second, .val (.long q2), .second, .val (.int p3), .val (.int p4), .val (.ref wa), .val (.int (0 : Int32)), .val (.int (Int32.ofNat 1)), .val (.ref o), .val (.double (FP.ddiv (FP.l2d q2) (4742290407621132288 : UInt64))), .second, .unset, .unset, .unset, .unset, .unset, .unset, .unset, .unset] [(.long q2)])
      refine own_go (fun tz kz => XT.lstore X7.here hx rfl (hb hby at_97) rfl (l' := #[.val (.long q1), .second, .val (.long q2), .second, .val (.int p3), .val (.int p4), .val (.ref wa), .val (.int (0 : Int32)), .val (.int (Int32.ofNat 1)), .val (.ref o), .val (.double (FP.ddiv (FP.l2d q2) (4742290407621132288 : UInt64))), .second, .val (.long q2), .second, .unset, .unset, .unset, .unset, .unset, .unset]) rfl kz) ?_
      show own_Go p.tables e below _ T7 (mkF m 99 #[.val (.long q1), .second, .val (.long q2), .second, .val (.int p3), .val (.int p4), .val (.ref wa), .val (.int (0 : Int32)), .val (.int (Int32.ofNat 1)), .val (.ref o), .val (.double (FP.ddiv (FP.l2d q2) (4742290407621132288 : UInt64))), .second, .val (.long q2), .second, .unset, .unset, .unset, .unset, .unset, .unset] [])
      refine own_go (fun tz kz => XT.lload X7.here hx rfl (hb hby at_99) rfl kz) ?_
      show own_Go p.tables e below _ T7 (mkF m 101 #[.val (.long q1), .second, .val (.long q2), .second, .val (.int p3), .val (.int p4), .val (.ref wa), .val (.int (0 : Int32)), .val (.int (Int32.ofNat 1)), .val (.ref o), .val (.double (FP.ddiv (FP.l2d q2) (4742290407621132288 : UInt64))), .second, .val (.long q2), .second, .unset, .unset, .unset, .unset, .unset, .unset] [(.long q2)])
      refine own_go (fun tz kz => XS.bipush X7.here hx rfl (hb hby at_101) kz) ?_
      show own_Go p.tables e below _ T7 (mkF m 103 #[.val (.long q1), .second, .val (.long q2), .second, .val (.int p3), .val (.int p4), .val (.ref wa), .val (.int (0 : Int32)), .val (.int (Int32.ofNat 1)), .val (.ref o), .val (.double (FP.ddiv (FP.l2d q2) (4742290407621132288 : UInt64))), .second, .val (.long q2), .second, .unset, .unset, .unset, .unset, .unset, .unset] [(.int (30 : Int32)), (.long q2)])
      refine own_go (fun tz kz => XT.lshr X7.here hx rfl (hb hby at_103) rfl kz) ?_
      show own_Go p.tables e below _ T7 (mkF m 104 #[.val (.long q1), .second, .val (.long q2), .second, .val (.int p3), .val (.int p4), .val (.ref wa), .val (.int (0 : Int32)), .val (.int (Int32.ofNat 1)), .val (.ref o), .val (.double (FP.ddiv (FP.l2d q2) (4742290407621132288 : UInt64))), .second, .val (.long q2), .second, .unset, .unset, .unset, .unset, .unset, .unset] [(.long (q2 >>> ((30 : Int32).toInt64 &&& 63)))])
      refine own_go (fun tz kz => XT.lstore X7.here hx rfl (hb hby at_104) rfl (l' := #[.val (.long q1), .second, .val (.long q2), .second, .val (.int p3), .val (.int p4), .val (.ref wa), .val (.int (0 : Int32)), .val (.int (Int32.ofNat 1)), .val (.ref o), .val (.double (FP.ddiv (FP.l2d q2) (4742290407621132288 : UInt64))), .second, .val (.long q2), .second, .val (.long (q2 >>> ((30 : Int32).toInt64 &&& 63))), .second, .unset, .unset, .unset, .unset]) rfl kz) ?_
      show own_Go p.tables e below _ T7 (mkF m 106 #[.val (.long q1), .second, .val (.long q2), .second, .val (.int p3), .val (.int p4), .val (.ref wa), .val (.int (0 : Int32)), .val (.int (Int32.ofNat 1)), .val (.ref o), .val (.double (FP.ddiv (FP.l2d q2) (4742290407621132288 : UInt64))), .second, .val (.long q2), .second, .val (.long (q2 >>> ((30 : Int32).toInt64 &&& 63))), .second, .unset, .unset, .unset, .unset] [])
      refine own_go (fun tz kz => XT.lload X7.here hx rfl (hb hby at_106) rfl kz) ?_
      show own_Go p.tables e below _ T7 (mkF m 108 #[.val (.long q1), .second, .val (.long q2), .second, .val (.int p3), .val (.int p4), .val (.ref wa), .val (.int (0 : Int32)), .val (.int (Int32.ofNat 1)), .val (.ref o), .val (.double (FP.ddiv (FP.l2d q2) (4742290407621132288 : UInt64))), .second, .val (.long q2), .second, .val (.long (q2 >>> ((30 : Int32).toInt64 &&& 63))), .second, .unset, .unset, .unset, .unset] [(.long q2)])
      refine own_go (fun tz kz => X7.ldc2J hx hown (mvT hZ (hw _ (List.mem_of_getElem? (i := 29) rfl))) rfl (hb hby at_108) kz) ?_
      show own_Go p.tables e below _ T7 (mkF m 111 #[.val (.long q1), .second, .val (.long q2), .second, .val (.int p3), .val (.int p4), .val (.ref wa), .val (.int (0 : Int32)), .val (.int (Int32.ofNat 1)), .val (.ref o), .val (.double (FP.ddiv (FP.l2d q2) (4742290407621132288 : UInt64))), .second, .val (.long q2), .second, .val (.long (q2 >>> ((30 : Int32).toInt64 &&& 63))), .second, .unset, .unset, .unset, .unset] [(.long (1073741823 : Int64)), (.long q2)])
      refine own_go (fun tz kz => XT.land X7.here hx rfl (hb hby at_111) rfl kz) ?_
      show own_Go p.tables e below _ T7 (mkF m 112 #[.val (.long q1), .second, .val (.long q2), .second, .val (.int p3), .val (.int p4), .val (.ref wa), .val (.int (0 : Int32)), .val (.int (Int32.ofNat 1)), .val (.ref o), .val (.double (FP.ddiv (FP.l2d q2) (4742290407621132288 : UInt64))), .second, .val (.long q2), .second, .val (.long (q2 >>> ((30 : Int32).toInt64 &&& 63))), .second, .unset, .unset, .unset, .unset] [(.long (q2 &&& (1073741823 : Int64)))])
      refine own_go (fun tz kz => XT.lstore X7.here hx rfl (hb hby at_112) rfl (l' := #[.val (.long q1), .second, .val (.long q2), .second, .val (.int p3), .val (.int p4), .val (.ref wa), .val (.int (0 : Int32)), .val (.int (Int32.ofNat 1)), .val (.ref o), .val (.double (FP.ddiv (FP.l2d q2) (4742290407621132288 : UInt64))), .second, .val (.long q2), .second, .val (.long (q2 >>> ((30 : Int32).toInt64 &&& 63))), .second, .val (.long (q2 &&& (1073741823 : Int64))), .second, .unset, .unset]) rfl kz) ?_
      show own_Go p.tables e below _ T7 (mkF m 114 #[.val (.long q1), .second, .val (.long q2), .second, .val (.int p3), .val (.int p4), .val (.ref wa), .val (.int (0 : Int32)), .val (.int (Int32.ofNat 1)), .val (.ref o), .val (.double (FP.ddiv (FP.l2d q2) (4742290407621132288 : UInt64))), .second, .val (.long q2), .second, .val (.long (q2 >>> ((30 : Int32).toInt64 &&& 63))), .second, .val (.long (q2 &&& (1073741823 : Int64))), .second, .unset, .unset] [])
      refine own_go (fun tz kz => XT.lload X7.here hx rfl (hb hby at_114) rfl kz) ?_
      show own_Go p.tables e below _ T7 (mkF m 116 #[.val (.long q1), .second, .val (.long q2), .second, .val (.int p3), .val (.int p4), .val (.ref wa), .val (.int (0 : Int32)), .val (.int (Int32.ofNat 1)), .val (.ref o), .val (.double (FP.ddiv (FP.l2d q2) (4742290407621132288 : UInt64))), .second, .val (.long q2), .second, .val (.long (q2 >>> ((30 : Int32).toInt64 &&& 63))), .second, .val (.long (q2 &&& (1073741823 : Int64))), .second, .unset, .unset] [(.long (q2 >>> ((30 : Int32).toInt64 &&& 63)))])
      refine own_go (fun tz kz => XS.l2dS X7.here hx rfl (hb hby at_116) rfl rfl kz) ?_
      show own_Go p.tables e below _ T7 (mkF m 117 #[.val (.long q1), .second, .val (.long q2), .second, .val (.int p3), .val (.int p4), .val (.ref wa), .val (.int (0 : Int32)), .val (.int (Int32.ofNat 1)), .val (.ref o), .val (.double (FP.ddiv (FP.l2d q2) (4742290407621132288 : UInt64))), .second, .val (.long q2), .second, .val (.long (q2 >>> ((30 : Int32).toInt64 &&& 63))), .second, .val (.long (q2 &&& (1073741823 : Int64))), .second, .unset, .unset] [(.double (FP.l2d (q2 >>> ((30 : Int32).toInt64 &&& 63))))])
      refine own_go (fun tz kz => XT.lload X7.here hx rfl (hb hby at_117) rfl kz) ?_
      show own_Go p.tables e below _ T7 (mkF m 119 #[.val (.long q1), .second, .val (.long q2), .second, .val (.int p3), .val (.int p4), .val (.ref wa), .val (.int (0 : Int32)), .val (.int (Int32.ofNat 1)), .val (.ref o), .val (.double (FP.ddiv (FP.l2d q2) (4742290407621132288 : UInt64))), .second, .val (.long q2), .second, .val (.long (q2 >>> ((30 : Int32).toInt64 &&& 63))), .second, .val (.long (q2 &&& (1073741823 : Int64))), .second, .unset, .unset] [(.long (q2 &&& (1073741823 : Int64))), (.double (FP.l2d (q2 >>> ((30 : Int32).toInt64 &&& 63))))])
      refine own_go (fun tz kz => XS.l2dS X7.here hx rfl (hb hby at_119) rfl rfl kz) ?_
      show own_Go p.tables e below _ T7 (mkF m 120 #[.val (.long q1), .second, .val (.long q2), .second, .val (.int p3), .val (.int p4), .val (.ref wa), .val (.int (0 : Int32)), .val (.int (Int32.ofNat 1)), .val (.ref o), .val (.double (FP.ddiv (FP.l2d q2) (4742290407621132288 : UInt64))), .second, .val (.long q2), .second, .val (.long (q2 >>> ((30 : Int32).toInt64 &&& 63))), .second, .val (.long (q2 &&& (1073741823 : Int64))), .second, .unset, .unset] [(.double (FP.l2d (q2 &&& (1073741823 : Int64)))), (.double (FP.l2d (q2 >>> ((30 : Int32).toInt64 &&& 63))))])
      refine own_go (fun tz kz => own_ldc2D X7 hx hown (mvT hZ (hw _ (List.mem_of_getElem? (i := 30) rfl))) rfl (hb hby at_120) kz) ?_
      show own_Go p.tables e below _ T7 (mkF m 123 #[.val (.long q1), .second, .val (.long q2), .second, .val (.int p3), .val (.int p4), .val (.ref wa), .val (.int (0 : Int32)), .val (.int (Int32.ofNat 1)), .val (.ref o), .val (.double (FP.ddiv (FP.l2d q2) (4742290407621132288 : UInt64))), .second, .val (.long q2), .second, .val (.long (q2 >>> ((30 : Int32).toInt64 &&& 63))), .second, .val (.long (q2 &&& (1073741823 : Int64))), .second, .unset, .unset] [(.double (4742290407621132288 : UInt64)), (.double (FP.l2d (q2 &&& (1073741823 : Int64)))), (.double (FP.l2d (q2 >>> ((30 : Int32).toInt64 &&& 63))))])
      refine own_go (fun tz kz => XS.ddivS X7.here hx rfl (hb hby at_123) rfl (own_nd _) rfl kz) ?_
      show own_Go p.tables e below _ T7 (mkF m 124 #[.val (.long q1), .second, .val (.long q2), .second, .val (.int p3), .val (.int p4), .val (.ref wa), .val (.int (0 : Int32)), .val (.int (Int32.ofNat 1)), .val (.ref o), .val (.double (FP.ddiv (FP.l2d q2) (4742290407621132288 : UInt64))), .second, .val (.long q2), .second, .val (.long (q2 >>> ((30 : Int32).toInt64 &&& 63))), .second, .val (.long (q2 &&& (1073741823 : Int64))), .second, .unset, .unset] [(.double (FP.ddiv (FP.l2d (q2 &&& (1073741823 : Int64))) (4742290407621132288 : UInt64))), (.double (FP.l2d (q2 >>> ((30 : Int32).toInt64 &&& 63))))])
      refine own_go (fun tz kz => XS.daddS X7.here hx rfl (hb hby at_124) rfl (own_ns _ _) rfl kz) ?_
      show own_Go p.tables e below _ T7 (mkF m 125 #[.val (.long q1), .second, .val (.long q2), .second, .val (.int p3), .val (.int p4), .val (.ref wa), .val (.int (0 : Int32)), .val (.int (Int32.ofNat 1)), .val (.ref o), .val (.double (FP.ddiv (FP.l2d q2) (4742290407621132288 : UInt64))), .second, .val (.long q2), .second, .val (.long (q2 >>> ((30 : Int32).toInt64 &&& 63))), .second, .val (.long (q2 &&& (1073741823 : Int64))), .second, .unset, .unset] [(.double (FP.dadd (FP.l2d (q2 >>> ((30 : Int32).toInt64 &&& 63))) (FP.ddiv (FP.l2d (q2 &&& (1073741823 : Int64))) (4742290407621132288 : UInt64))))])
      rw [show (FP.dadd (FP.l2d (q2 >>> ((30 : Int32).toInt64 &&& 63))) (FP.ddiv (FP.l2d (q2 &&& (1073741823 : Int64))) (4742290407621132288 : UInt64))) = (FP.ddiv (FP.l2d q2) (4742290407621132288 : UInt64)) from own_round q2]
      show own_Go p.tables e below _ T7 (mkF m 125 #[.val (.long q1), .second, .val (.long q2), .second, .val (.int p3), .val (.int p4), .val (.ref wa), .val (.int (0 : Int32)), .val (.int (Int32.ofNat 1)), .val (.ref o), .val (.double (FP.ddiv (FP.l2d q2) (4742290407621132288 : UInt64))), .second, .val (.long q2), .second, .val (.long (q2 >>> ((30 : Int32).toInt64 &&& 63))), .second, .val (.long (q2 &&& (1073741823 : Int64))), .second, .unset, .unset] [(.double (FP.ddiv (FP.l2d q2) (4742290407621132288 : UInt64)))])
      refine own_go (fun tz kz => XS.dstore X7.here hx rfl (hb hby at_125) rfl (l' := #[.val (.long q1), .second, .val (.long q2), .second, .val (.int p3), .val (.int p4), .val (.ref wa), .val (.int (0 : Int32)), .val (.int (Int32.ofNat 1)), .val (.ref o), .val (.double (FP.ddiv (FP.l2d q2) (4742290407621132288 : UInt64))), .second, .val (.long q2), .second, .val (.long (q2 >>> ((30 : Int32).toInt64 &&& 63))), .second, .val (.long (q2 &&& (1073741823 : Int64))), .second, .val (.double (FP.ddiv (FP.l2d q2) (4742290407621132288 : UInt64))), .second]) rfl kz) ?_
      show own_Go p.tables e below _ T7 (mkF m 127 #[.val (.long q1), .second, .val (.long q2), .second, .val (.int p3), .val (.int p4), .val (.ref wa), .val (.int (0 : Int32)), .val (.int (Int32.ofNat 1)), .val (.ref o), .val (.double (FP.ddiv (FP.l2d q2) (4742290407621132288 : UInt64))), .second, .val (.long q2), .second, .val (.long (q2 >>> ((30 : Int32).toInt64 &&& 63))), .second, .val (.long (q2 &&& (1073741823 : Int64))), .second, .val (.double (FP.ddiv (FP.l2d q2) (4742290407621132288 : UInt64))), .second] [])
      refine own_go (fun tz kz => XS.dload X7.here hx rfl (hb hby at_127) rfl kz) ?_
      show own_Go p.tables e below _ T7 (mkF m 129 #[.val (.long q1), .second, .val (.long q2), .second, .val (.int p3), .val (.int p4), .val (.ref wa), .val (.int (0 : Int32)), .val (.int (Int32.ofNat 1)), .val (.ref o), .val (.double (FP.ddiv (FP.l2d q2) (4742290407621132288 : UInt64))), .second, .val (.long q2), .second, .val (.long (q2 >>> ((30 : Int32).toInt64 &&& 63))), .second, .val (.long (q2 &&& (1073741823 : Int64))), .second, .val (.double (FP.ddiv (FP.l2d q2) (4742290407621132288 : UInt64))), .second] [(.double (FP.ddiv (FP.l2d q2) (4742290407621132288 : UInt64)))])
      refine own_go (fun tz kz => XS.dload X7.here hx rfl (hb hby at_129) rfl kz) ?_
      show own_Go p.tables e below _ T7 (mkF m 131 #[.val (.long q1), .second, .val (.long q2), .second, .val (.int p3), .val (.int p4), .val (.ref wa), .val (.int (0 : Int32)), .val (.int (Int32.ofNat 1)), .val (.ref o), .val (.double (FP.ddiv (FP.l2d q2) (4742290407621132288 : UInt64))), .second, .val (.long q2), .second, .val (.long (q2 >>> ((30 : Int32).toInt64 &&& 63))), .second, .val (.long (q2 &&& (1073741823 : Int64))), .second, .val (.double (FP.ddiv (FP.l2d q2) (4742290407621132288 : UInt64))), .second] [(.double (FP.ddiv (FP.l2d q2) (4742290407621132288 : UInt64))), (.double (FP.ddiv (FP.l2d q2) (4742290407621132288 : UInt64)))])
      refine own_go (fun tz kz => XS.dcmpS X7.here hx rfl (hb hby at_131) rfl (dcmpV_self (own_nd _) _) kz) ?_
      show own_Go p.tables e below _ T7 (mkF m 132 #[.val (.long q1), .second, .val (.long q2), .second, .val (.int p3), .val (.int p4), .val (.ref wa), .val (.int (0 : Int32)), .val (.int (Int32.ofNat 1)), .val (.ref o), .val (.double (FP.ddiv (FP.l2d q2) (4742290407621132288 : UInt64))), .second, .val (.long q2), .second, .val (.long (q2 >>> ((30 : Int32).toInt64 &&& 63))), .second, .val (.long (q2 &&& (1073741823 : Int64))), .second, .val (.double (FP.ddiv (FP.l2d q2) (4742290407621132288 : UInt64))), .second] [(.int (0 : Int32))])
      refine own_go (fun tz kz => XS.ifNo X7.here hx rfl (hb hby at_132) rfl (XT.i0_ne_f rfl) kz) ?_
      show own_Go p.tables e below _ T7 (mkF m 135 #[.val (.long q1), .second, .val (.long q2), .second, .val (.int p3), .val (.int p4), .val (.ref wa), .val (.int (0 : Int32)), .val (.int (Int32.ofNat 1)), .val (.ref o), .val (.double (FP.ddiv (FP.l2d q2) (4742290407621132288 : UInt64))), .second, .val (.long q2), .second, .val (.long (q2 >>> ((30 : Int32).toInt64 &&& 63))), .second, .val (.long (q2 &&& (1073741823 : Int64))), .second, .val (.double (FP.ddiv (FP.l2d q2) (4742290407621132288 : UInt64))), .second] [])
      refine own_go (fun tz kz => XS.iconst X7.here hx rfl (hb hby at_135) kz) ?_
      show own_Go p.tables e below _ T7 (mkF m 136 #[.val (.long q1), .second, .val (.long q2), .second, .val (.int p3), .val (.int p4), .val (.ref wa), .val (.int (0 : Int32)), .val (.int (Int32.ofNat 1)), .val (.ref o), .val (.double (FP.ddiv (FP.l2d q2) (4742290407621132288 : UInt64))), .second, .val (.long q2), .second, .val (.long (q2 >>> ((30 : Int32).toInt64 &&& 63))), .second, .val (.long (q2 &&& (1073741823 : Int64))), .second, .val (.double (FP.ddiv (FP.l2d q2) (4742290407621132288 : UInt64))), .second] [(.int (1 : Int32))])
      refine own_go (fun tz kz => XS.goto X7.here hx rfl (pc0 := 136) (pc' := 140) rfl (hb hby at_136) (by decide) (by decide) kz) ?_
      show own_Go p.tables e below _ T7 (mkF m 140 #[.val (.long q1), .second, .val (.long q2), .second, .val (.int p3), .val (.int p4), .val (.ref wa), .val (.int (0 : Int32)), .val (.int (Int32.ofNat 1)), .val (.ref o), .val (.double (FP.ddiv (FP.l2d q2) (4742290407621132288 : UInt64))), .second, .val (.long q2), .second, .val (.long (q2 >>> ((30 : Int32).toInt64 &&& 63))), .second, .val (.long (q2 &&& (1073741823 : Int64))), .second, .val (.double (FP.ddiv (FP.l2d q2) (4742290407621132288 : UInt64))), .second] [(.int (1 : Int32))])
      obtain ⟨fs, hr, hrun, hended, hW, hsame⟩ := X7.leave (v := some (.int (1 : Int32))) (fun h => by rw [Bd.returns] at h; cases h) (BodyLoose.notSynchronized Bd)
      refine ⟨_, _, ?_, hrun, hended, _, _, rfl, ?_, ⟨_, rfl⟩, hW, hsame.mono (by decide) (by decide)⟩
      · exact retN X7 hx (t := .boolean) Bd.returns (by simp) (hb hby at_140) hr
      · show Q0 Z q1 q2 p3 p4 h0 n0 _ T7.heap _
        rw [e7]
        exact ⟨rfl, N7⟩
  ·
    refine own_go (fun tz kz => XS.ifNo X3.here hx rfl (hb hby at_17) rfl (XT.i0_eq_f hc) kz) ?_
    show own_Go p.tables e below _ T3 (mkF m 20 #[.val (.long q1), .second, .val (.long q2), .second, .val (.int p3), .val (.int p4), .val (.ref wa), .unset, .unset, .unset, .unset, .unset, .unset, .unset, .unset, .unset, .unset, .unset, .unset, .unset] [])
    refine own_go (fun tz kz => XS.iconst X3.here hx rfl (hb hby at_20) kz) ?_
    show own_Go p.tables e below _ T3 (mkF m 21 #[.val (.long q1), .second, .val (.long q2), .second, .val (.int p3), .val (.int p4), .val (.ref wa), .unset, .unset, .unset, .unset, .unset, .unset, .unset, .unset, .unset, .unset, .unset, .unset, .unset] [(.int (1 : Int32))])
    refine own_go (fun tz kz => XS.goto X3.here hx rfl (pc0 := 21) (pc' := 25) rfl (hb hby at_21) (by decide) (by decide) kz) ?_
    show own_Go p.tables e below _ T3 (mkF m 25 #[.val (.long q1), .second, .val (.long q2), .second, .val (.int p3), .val (.int p4), .val (.ref wa), .unset, .unset, .unset, .unset, .unset, .unset, .unset, .unset, .unset, .unset, .unset, .unset, .unset] [(.int (1 : Int32))])
    refine own_go (fun tz kz => XS.istore X3.here hx rfl (hb hby at_25) rfl (l' := #[.val (.long q1), .second, .val (.long q2), .second, .val (.int p3), .val (.int p4), .val (.ref wa), .val (.int (1 : Int32)), .unset, .unset, .unset, .unset, .unset, .unset, .unset, .unset, .unset, .unset, .unset, .unset]) rfl kz) ?_
    show own_Go p.tables e below _ T3 (mkF m 27 #[.val (.long q1), .second, .val (.long q2), .second, .val (.int p3), .val (.int p4), .val (.ref wa), .val (.int (1 : Int32)), .unset, .unset, .unset, .unset, .unset, .unset, .unset, .unset, .unset, .unset, .unset, .unset] [])
    refine own_go (fun tz kz => XS.iload X3.here hx rfl (hb hby at_27) rfl kz) ?_
    show own_Go p.tables e below _ T3 (mkF m 29 #[.val (.long q1), .second, .val (.long q2), .second, .val (.int p3), .val (.int p4), .val (.ref wa), .val (.int (1 : Int32)), .unset, .unset, .unset, .unset, .unset, .unset, .unset, .unset, .unset, .unset, .unset, .unset] [(.int p3)])
    refine own_go (fun tz kz => XS.iconst X3.here hx rfl (hb hby at_29) kz) ?_
    show own_Go p.tables e below _ T3 (mkF m 30 #[.val (.long q1), .second, .val (.long q2), .second, .val (.int p3), .val (.int p4), .val (.ref wa), .val (.int (1 : Int32)), .unset, .unset, .unset, .unset, .unset, .unset, .unset, .unset, .unset, .unset, .unset, .unset] [(.int (1 : Int32)), (.int p3)])
    refine own_go (fun tz kz => XS.iand X3.here hx rfl (hb hby at_30) rfl kz) ?_
    show own_Go p.tables e below _ T3 (mkF m 31 #[.val (.long q1), .second, .val (.long q2), .second, .val (.int p3), .val (.int p4), .val (.ref wa), .val (.int (1 : Int32)), .unset, .unset, .unset, .unset, .unset, .unset, .unset, .unset, .unset, .unset, .unset, .unset] [(.int (p3 &&& (1 : Int32)))])
    rw [show (p3 &&& (1 : Int32)) = (Int32.ofNat i) from ei]
    show own_Go p.tables e below _ T3 (mkF m 31 #[.val (.long q1), .second, .val (.long q2), .second, .val (.int p3), .val (.int p4), .val (.ref wa), .val (.int (1 : Int32)), .unset, .unset, .unset, .unset, .unset, .unset, .unset, .unset, .unset, .unset, .unset, .unset] [(.int (Int32.ofNat i))])
    refine own_go (fun tz kz => XS.istore X3.here hx rfl (hb hby at_31) rfl (l' := #[.val (.long q1), .second, .val (.long q2), .second, .val (.int p3), .val (.int p4), .val (.ref wa), .val (.int (1 : Int32)), .val (.int (Int32.ofNat i)), .unset, .unset, .unset, .unset, .unset, .unset, .unset, .unset, .unset, .unset, .unset]) rfl kz) ?_
    show own_Go p.tables e below _ T3 (mkF m 33 #[.val (.long q1), .second, .val (.long q2), .second, .val (.int p3), .val (.int p4), .val (.ref wa), .val (.int (1 : Int32)), .val (.int (Int32.ofNat i)), .unset, .unset, .unset, .unset, .unset, .unset, .unset, .unset, .unset, .unset, .unset] [])
    obtain ⟨T8, h8, X8, e8, E8, A8, D8, -, st8⟩ := newO X3 hx hZ hown (hw _ (List.mem_of_getElem? (i := 1) rfl)) (hw _ (List.mem_of_getElem? (i := 2) rfl)) (hw _ (List.mem_of_getElem? (i := 3) rfl)) e3 (g := (mkF m 33 #[.val (.long q1), .second, .val (.long q2), .second, .val (.int p3), .val (.int p4), .val (.ref wa), .val (.int (1 : Int32)), .val (.int (Int32.ofNat i)), .unset, .unset, .unset, .unset, .unset, .unset, .unset, .unset, .unset, .unset, .unset] [])) rfl (hb hby at_33) (by decide) (by decide)
    obtain ⟨o, eq_o⟩ : ∃ z, z = (h3).size := ⟨_, rfl⟩
    rw [← eq_o] at A8 D8 st8
    have g_o : n0 ≤ o := Nat.le_trans (Nat.le_trans (Nat.le_trans (Nat.le_trans Z0 E1.1) (Keep.of_wr W2).1) (Keep.of_wr W3).1) (Nat.le_of_eq eq_o.symm)
    have F_bound_o : Fld Z h8 o "dexterous/transform/LinearRelaxation$Bound" "bound" "J" (.long (0 : Int64)) := D8 (Or.inr (hw _ (List.mem_of_getElem? (i := 12) rfl))) (ty := .long) (by decide)
    have F_shares_o : Fld Z h8 o "dexterous/transform/LinearRelaxation$Bound" "shares" "[D" .null := D8 (Or.inr (hw _ (List.mem_of_getElem? (i := 14) rfl))) (ty := (.array .double)) (by decide)
    have F_price_o : Fld Z h8 o "dexterous/transform/LinearRelaxation$Bound" "price" "D" (.double (0 : UInt64)) := D8 (Or.inr (hw _ (List.mem_of_getElem? (i := 16) rfl))) (ty := .double) (by decide)
    have F_work_o : Fld Z h8 o "dexterous/transform/LinearRelaxation$Bound" "work" "J" (.long (0 : Int64)) := D8 (Or.inr (hw _ (List.mem_of_getElem? (i := 18) rfl))) (ty := .long) (by decide)
    have F_total_o : Fld Z h8 o "dexterous/transform/LinearRelaxation$Bound" "total" "J" (.long (0 : Int64)) := D8 (Or.inr (hw _ (List.mem_of_getElem? (i := 20) rfl))) (ty := .long) (by decide)
    have F_worth_o : Fld Z h8 o "dexterous/transform/LinearRelaxation$Bound" "worth" "[J" .null := D8 (Or.inr (hw _ (List.mem_of_getElem? (i := 22) rfl))) (ty := (.array .long)) (by decide)
    refine own_go st8 ?_
    show own_Go p.tables e below _ T8 (mkF m 36 #[.val (.long q1), .second, .val (.long q2), .second, .val (.int p3), .val (.int p4), .val (.ref wa), .val (.int (1 : Int32)), .val (.int (Int32.ofNat i)), .unset, .unset, .unset, .unset, .unset, .unset, .unset, .unset, .unset, .unset, .unset] [(.ref o)])
    refine own_go (fun tz kz => XS.dup X8.here hx rfl (hb hby at_36) rfl rfl kz) ?_
    show own_Go p.tables e below _ T8 (mkF m 37 #[.val (.long q1), .second, .val (.long q2), .second, .val (.int p3), .val (.int p4), .val (.ref wa), .val (.int (1 : Int32)), .val (.int (Int32.ofNat i)), .unset, .unset, .unset, .unset, .unset, .unset, .unset, .unset, .unset, .unset, .unset] [(.ref o), (.ref o)])
    refine own_go (fun tz kz => XT.lconst X8.here hx rfl (hb hby at_37) kz) ?_
    show own_Go p.tables e below _ T8 (mkF m 38 #[.val (.long q1), .second, .val (.long q2), .second, .val (.int p3), .val (.int p4), .val (.ref wa), .val (.int (1 : Int32)), .val (.int (Int32.ofNat i)), .unset, .unset, .unset, .unset, .unset, .unset, .unset, .unset, .unset, .unset, .unset] [(.long (0 : Int64)), (.ref o), (.ref o)])
    refine own_go (fun tz kz => XS.iconst X8.here hx rfl (hb hby at_38) kz) ?_
    show own_Go p.tables e below _ T8 (mkF m 39 #[.val (.long q1), .second, .val (.long q2), .second, .val (.int p3), .val (.int p4), .val (.ref wa), .val (.int (1 : Int32)), .val (.int (Int32.ofNat i)), .unset, .unset, .unset, .unset, .unset, .unset, .unset, .unset, .unset, .unset, .unset] [(.int (0 : Int32)), (.long (0 : Int64)), (.ref o), (.ref o)])
    obtain ⟨T9, h9, k9, X9, e9, E9, A9, st9⟩ := newP X8 hx hZ (hw _ (List.mem_of_getElem? (i := 4) rfl)) e8 (g := (mkF m 39 #[.val (.long q1), .second, .val (.long q2), .second, .val (.int p3), .val (.int p4), .val (.ref wa), .val (.int (1 : Int32)), .val (.int (Int32.ofNat i)), .unset, .unset, .unset, .unset, .unset, .unset, .unset, .unset, .unset, .unset, .unset] [(.int (0 : Int32)), (.long (0 : Int64)), (.ref o), (.ref o)])) rfl (hb hby at_39) rfl (by decide) (cap := 0) (by decide) (by decide) (by decide) (by decide)
    obtain ⟨sh, eq_sh⟩ : ∃ z, z = (h8).size := ⟨_, rfl⟩
    rw [← eq_sh] at A9 st9
    have g_sh : n0 ≤ sh := Nat.le_trans (Nat.le_trans (Nat.le_trans (Nat.le_trans (Nat.le_trans Z0 E1.1) (Keep.of_wr W2).1) (Keep.of_wr W3).1) E8.1) (Nat.le_of_eq eq_sh.symm)
    have V_sh : own_Av Z h9 sh .double 0 (fun _ => .double 0) := own_Av.new A9 (by decide)
    refine own_go st9 ?_
    show own_Go p.tables e below _ T9 (mkF m 41 #[.val (.long q1), .second, .val (.long q2), .second, .val (.int p3), .val (.int p4), .val (.ref wa), .val (.int (1 : Int32)), .val (.int (Int32.ofNat i)), .unset, .unset, .unset, .unset, .unset, .unset, .unset, .unset, .unset, .unset, .unset] [(.ref sh), (.long (0 : Int64)), (.ref o), (.ref o)])
    refine own_go (fun tz kz => XS.dconst0 X9.here hx rfl (hb hby at_41) rfl kz) ?_
    show own_Go p.tables e below _ T9 (mkF m 42 #[.val (.long q1), .second, .val (.long q2), .second, .val (.int p3), .val (.int p4), .val (.ref wa), .val (.int (1 : Int32)), .val (.int (Int32.ofNat i)), .unset, .unset, .unset, .unset, .unset, .unset, .unset, .unset, .unset, .unset, .unset] [(.double FP.dconst0), (.ref sh), (.long (0 : Int64)), (.ref o), (.ref o)])
    refine own_go (fun tz kz => XT.lconst X9.here hx rfl (hb hby at_42) kz) ?_
    show own_Go p.tables e below _ T9 (mkF m 43 #[.val (.long q1), .second, .val (.long q2), .second, .val (.int p3), .val (.int p4), .val (.ref wa), .val (.int (1 : Int32)), .val (.int (Int32.ofNat i)), .unset, .unset, .unset, .unset, .unset, .unset, .unset, .unset, .unset, .unset, .unset] [(.long (0 : Int64)), (.double FP.dconst0), (.ref sh), (.long (0 : Int64)), (.ref o), (.ref o)])
    refine own_go (fun tz kz => XT.lconst X9.here hx rfl (hb hby at_43) kz) ?_
    show own_Go p.tables e below _ T9 (mkF m 44 #[.val (.long q1), .second, .val (.long q2), .second, .val (.int p3), .val (.int p4), .val (.ref wa), .val (.int (1 : Int32)), .val (.int (Int32.ofNat i)), .unset, .unset, .unset, .unset, .unset, .unset, .unset, .unset, .unset, .unset, .unset] [(.long (0 : Int64)), (.long (0 : Int64)), (.double FP.dconst0), (.ref sh), (.long (0 : Int64)), (.ref o), (.ref o)])
    refine own_go (fun tz kz => XS.iload X9.here hx rfl (hb hby at_44) rfl kz) ?_
    show own_Go p.tables e below _ T9 (mkF m 46 #[.val (.long q1), .second, .val (.long q2), .second, .val (.int p3), .val (.int p4), .val (.ref wa), .val (.int (1 : Int32)), .val (.int (Int32.ofNat i)), .unset, .unset, .unset, .unset, .unset, .unset, .unset, .unset, .unset, .unset, .unset] [(.int (1 : Int32)), (.long (0 : Int64)), (.long (0 : Int64)), (.double FP.dconst0), (.ref sh), (.long (0 : Int64)), (.ref o), (.ref o)])
    refine own_go (fun tz kz => XS.ifNo X9.here hx rfl (hb hby at_46) rfl (XT.i0_eq_f (by decide)) kz) ?_
    show own_Go p.tables e below _ T9 (mkF m 49 #[.val (.long q1), .second, .val (.long q2), .second, .val (.int p3), .val (.int p4), .val (.ref wa), .val (.int (1 : Int32)), .val (.int (Int32.ofNat i)), .unset, .unset, .unset, .unset, .unset, .unset, .unset, .unset, .unset, .unset, .unset] [(.long (0 : Int64)), (.long (0 : Int64)), (.double FP.dconst0), (.ref sh), (.long (0 : Int64)), (.ref o), (.ref o)])
    refine own_go (fun tz kz => XS.aconstNull X9.here hx rfl (hb hby at_49) kz) ?_
    show own_Go p.tables e below _ T9 (mkF m 50 #[.val (.long q1), .second, .val (.long q2), .second, .val (.int p3), .val (.int p4), .val (.ref wa), .val (.int (1 : Int32)), .val (.int (Int32.ofNat i)), .unset, .unset, .unset, .unset, .unset, .unset, .unset, .unset, .unset, .unset, .unset] [.null, (.long (0 : Int64)), (.long (0 : Int64)), (.double FP.dconst0), (.ref sh), (.long (0 : Int64)), (.ref o), (.ref o)])
    refine own_go (fun tz kz => XS.goto X9.here hx rfl (pc0 := 50) (pc' := 55) rfl (hb hby at_50) (by decide) (by decide) kz) ?_
    show own_Go p.tables e below _ T9 (mkF m 55 #[.val (.long q1), .second, .val (.long q2), .second, .val (.int p3), .val (.int p4), .val (.ref wa), .val (.int (1 : Int32)), .val (.int (Int32.ofNat i)), .unset, .unset, .unset, .unset, .unset, .unset, .unset, .unset, .unset, .unset, .unset] [.null, (.long (0 : Int64)), (.long (0 : Int64)), (.double FP.dconst0), (.ref sh), (.long (0 : Int64)), (.ref o), (.ref o)])
    obtain ⟨_, _, ⟨T10, L10, k10, n10⟩, -, X10, ⟨Lc10, hQ10, l10, y10, z10⟩, st10⟩ := X9.specialBack hx (y := (⟨"dexterous/transform/LinearRelaxation$Bound", "<init>", "(J[DDJJ[J)V"⟩ : MethodName)) rfl hown (mvT hZ (hw _ (List.mem_of_getElem? (i := 5) rfl))) (mvT hZ (hw _ (List.mem_of_getElem? (i := 6) rfl))) (mvT hZ (hw _ (List.mem_of_getElem? (i := 7) rfl))) (by decide) (backOf (W := 1) (rm1n l Z a0 hw [] o (0 : Int64) sh FP.dconst0 (0 : Int64) (0 : Int64)  _ _ _ _ _ _ h9 n0 (Nat.le_trans (Nat.le_trans (Nat.le_trans (Nat.le_trans (Nat.le_trans Z0 E1.1) (Keep.of_wr W2).1) (Keep.of_wr W3).1) E8.1) E9.1) (F_bound_o.ext E9) (F_shares_o.ext E9) (F_price_o.ext E9) (F_work_o.ext E9) (F_total_o.ext E9) (F_worth_o.ext E9) (A8.ext E9) g_o) hZ (hw _ (List.mem_of_getElem? (i := 7) rfl)) (hw _ (List.mem_of_getElem? (i := 3) rfl)) (by decide) (by decide)) (g := (mkF m 55 #[.val (.long q1), .second, .val (.long q2), .second, .val (.int p3), .val (.int p4), .val (.ref wa), .val (.int (1 : Int32)), .val (.int (Int32.ofNat i)), .unset, .unset, .unset, .unset, .unset, .unset, .unset, .unset, .unset, .unset, .unset] [.null, (.long (0 : Int64)), (.long (0 : Int64)), (.double FP.dconst0), (.ref sh), (.long (0 : Int64)), (.ref o), (.ref o)])) rfl (by rw [hml]; rfl) (Steps.refl _) (a := o) (argsL := [(.long (0 : Int64)), (.ref sh), (.double FP.dconst0), (.long (0 : Int64)), (.long (0 : Int64)), .null]) (rest := [(.ref o)]) (lenOf pd_0 rfl) rfl (by show 2 * 0 + _ ≤ _; exact Nat.le_of_eq rfl) (hb hby at_55) (fun _ _ => ⟨rfl, e9, (by decide : 3 + 0 ≤ _), (by decide : 8 + 0 ≤ _)⟩)
    dsimp only [Pt.U, Pt.locs, Pt.cells, Pt.slots] at X10 l10 y10 z10 st10 hQ10
    subst l10 y10 z10
    obtain ⟨rfl, N10q, K10, Ex, F1, F2, F3, F4, F5, F6⟩ := hQ10
    have N10 := Fr.app N3 N10q
    refine own_go (fun tz kz => st10.trans kz) ?_
    show own_Go p.tables e below _ T10 (mkF m 58 #[.val (.long q1), .second, .val (.long q2), .second, .val (.int p3), .val (.int p4), .val (.ref wa), .val (.int (1 : Int32)), .val (.int (Int32.ofNat i)), .unset, .unset, .unset, .unset, .unset, .unset, .unset, .unset, .unset, .unset, .unset] [(.ref o)])
    refine own_go (fun tz kz => XS.astore X10.here hx rfl (hb hby at_58) rfl rfl (l' := #[.val (.long q1), .second, .val (.long q2), .second, .val (.int p3), .val (.int p4), .val (.ref wa), .val (.int (1 : Int32)), .val (.int (Int32.ofNat i)), .val (.ref o), .unset, .unset, .unset, .unset, .unset, .unset, .unset, .unset, .unset, .unset]) rfl kz) ?_
    show own_Go p.tables e below _ T10 (mkF m 60 #[.val (.long q1), .second, .val (.long q2), .second, .val (.int p3), .val (.int p4), .val (.ref wa), .val (.int (1 : Int32)), .val (.int (Int32.ofNat i)), .val (.ref o), .unset, .unset, .unset, .unset, .unset, .unset, .unset, .unset, .unset, .unset] [])
    refine own_go (fun tz kz => XS.aload X10.here hx rfl (hb hby at_60) rfl rfl kz) ?_
    show own_Go p.tables e below _ T10 (mkF m 62 #[.val (.long q1), .second, .val (.long q2), .second, .val (.int p3), .val (.int p4), .val (.ref wa), .val (.int (1 : Int32)), .val (.int (Int32.ofNat i)), .val (.ref o), .unset, .unset, .unset, .unset, .unset, .unset, .unset, .unset, .unset, .unset] [(.ref o)])
    refine own_go (fun tz kz => XS.iload X10.here hx rfl (hb hby at_62) rfl kz) ?_
    show own_Go p.tables e below _ T10 (mkF m 64 #[.val (.long q1), .second, .val (.long q2), .second, .val (.int p3), .val (.int p4), .val (.ref wa), .val (.int (1 : Int32)), .val (.int (Int32.ofNat i)), .val (.ref o), .unset, .unset, .unset, .unset, .unset, .unset, .unset, .unset, .unset, .unset] [(.int (Int32.ofNat i)), (.ref o)])
    obtain ⟨cq11, kq11, q11a, q11b, q11c⟩ := isOf hZ rfl Ex
    obtain ⟨_, _, ⟨T11, L11, k11, n11⟩, -, X11, ⟨Lc11, hQ11, l11, y11, z11⟩, st11⟩ := X10.virtualBack hx (y := (⟨"dexterous/transform/LinearRelaxation$Bound", "worth", "(I)D"⟩ : MethodName)) (z := (⟨"dexterous/transform/LinearRelaxation$Bound", "worth", "(I)D"⟩ : MethodName)) hown (mvT hZ (hw _ (List.mem_of_getElem? (i := 23) rfl))) (mvT hZ (hw _ (List.mem_of_getElem? (i := 24) rfl))) (notFace_of_selects (args := #[]) (mvT hZ (hw _ (List.mem_of_getElem? (i := 26) rfl)))) (mvT hZ (hw _ (List.mem_of_getElem? (i := 26) rfl))) (mvT hZ (hw _ (List.mem_of_getElem? (i := 25) rfl))) (by decide) (backOf (W := 0) (rm3n l Z a0 hw [] o (Int32.ofNat i) T10.heap n0 (Nat.le_trans (Nat.le_trans (Nat.le_trans (Nat.le_trans (Nat.le_trans (Nat.le_trans Z0 E1.1) (Keep.of_wr W2).1) (Keep.of_wr W3).1) E8.1) E9.1) K10.1) F6) hZ (hw _ (List.mem_of_getElem? (i := 27) rfl)) (hw _ (List.mem_of_getElem? (i := 3) rfl)) (by decide) (by decide)) q11a q11c (g := (mkF m 64 #[.val (.long q1), .second, .val (.long q2), .second, .val (.int p3), .val (.int p4), .val (.ref wa), .val (.int (1 : Int32)), .val (.int (Int32.ofNat i)), .val (.ref o), .unset, .unset, .unset, .unset, .unset, .unset, .unset, .unset, .unset, .unset] [(.int (Int32.ofNat i)), (.ref o)])) rfl (by rw [hml]; rfl) (Steps.refl _) (argsL := [(.int (Int32.ofNat i))]) (rest := []) (lenOf pd_1 rfl) rfl (by show 2 * 0 + _ ≤ _; exact Nat.le_of_eq rfl) (hb hby at_64) (fun _ _ => ⟨rfl, rfl, (by decide : 3 + 0 ≤ _), (by decide : 8 + 0 ≤ _)⟩)
    dsimp only [Pt.U, Pt.locs, Pt.cells, Pt.slots] at X11 l11 y11 z11 st11 hQ11
    subst l11 y11 z11
    obtain ⟨rfl, N11q, e11⟩ := hQ11
    have N11 := Fr.app N10 N11q
    refine own_go (fun tz kz => st11.trans kz) ?_
    show own_Go p.tables e below _ T11 (mkF m 67 #[.val (.long q1), .second, .val (.long q2), .second, .val (.int p3), .val (.int p4), .val (.ref wa), .val (.int (1 : Int32)), .val (.int (Int32.ofNat i)), .val (.ref o), .unset, .unset, .unset, .unset, .unset, .unset, .unset, .unset, .unset, .unset] [(.double FP.dconst0)])
    refine own_go (fun tz kz => XS.dstore X11.here hx rfl (hb hby at_67) rfl (l' := #[.val (.long q1), .second, .val (.long q2), .second, .val (.int p3), .val (.int p4), .val (.ref wa), .val (.int (1 : Int32)), .val (.int (Int32.ofNat i)), .val (.ref o), .val (.double FP.dconst0), .second, .unset, .unset, .unset, .unset, .unset, .unset, .unset, .unset]) rfl kz) ?_
    show own_Go p.tables e below _ T11 (mkF m 69 #[.val (.long q1), .second, .val (.long q2), .second, .val (.int p3), .val (.int p4), .val (.ref wa), .val (.int (1 : Int32)), .val (.int (Int32.ofNat i)), .val (.ref o), .val (.double FP.dconst0), .second, .unset, .unset, .unset, .unset, .unset, .unset, .unset, .unset] [])
    refine own_go (fun tz kz => XS.iload X11.here hx rfl (hb hby at_69) rfl kz) ?_
    show own_Go p.tables e below _ T11 (mkF m 71 #[.val (.long q1), .second, .val (.long q2), .second, .val (.int p3), .val (.int p4), .val (.ref wa), .val (.int (1 : Int32)), .val (.int (Int32.ofNat i)), .val (.ref o), .val (.double FP.dconst0), .second, .unset, .unset, .unset, .unset, .unset, .unset, .unset, .unset] [(.int (1 : Int32))])
    refine own_go (fun tz kz => XS.ifNo X11.here hx rfl (hb hby at_71) rfl (XT.i0_eq_f (by decide)) kz) ?_
    show own_Go p.tables e below _ T11 (mkF m 74 #[.val (.long q1), .second, .val (.long q2), .second, .val (.int p3), .val (.int p4), .val (.ref wa), .val (.int (1 : Int32)), .val (.int (Int32.ofNat i)), .val (.ref o), .val (.double FP.dconst0), .second, .unset, .unset, .unset, .unset, .unset, .unset, .unset, .unset] [])
    refine own_go (fun tz kz => XS.dload X11.here hx rfl (hb hby at_74) rfl kz) ?_
    show own_Go p.tables e below _ T11 (mkF m 76 #[.val (.long q1), .second, .val (.long q2), .second, .val (.int p3), .val (.int p4), .val (.ref wa), .val (.int (1 : Int32)), .val (.int (Int32.ofNat i)), .val (.ref o), .val (.double FP.dconst0), .second, .unset, .unset, .unset, .unset, .unset, .unset, .unset, .unset] [(.double FP.dconst0)])
    refine own_go (fun tz kz => XS.dconst0 X11.here hx rfl (hb hby at_76) rfl kz) ?_
    show own_Go p.tables e below _ T11 (mkF m 77 #[.val (.long q1), .second, .val (.long q2), .second, .val (.int p3), .val (.int p4), .val (.ref wa), .val (.int (1 : Int32)), .val (.int (Int32.ofNat i)), .val (.ref o), .val (.double FP.dconst0), .second, .unset, .unset, .unset, .unset, .unset, .unset, .unset, .unset] [(.double FP.dconst0), (.double FP.dconst0)])
    refine own_go (fun tz kz => XS.dcmpS X11.here hx rfl (hb hby at_77) rfl (show cmpValue (FP.dcmp FP.dconst0 FP.dconst0) CmpOp.l = (0 : Int32) from by decide +kernel) kz) ?_
    show own_Go p.tables e below _ T11 (mkF m 78 #[.val (.long q1), .second, .val (.long q2), .second, .val (.int p3), .val (.int p4), .val (.ref wa), .val (.int (1 : Int32)), .val (.int (Int32.ofNat i)), .val (.ref o), .val (.double FP.dconst0), .second, .unset, .unset, .unset, .unset, .unset, .unset, .unset, .unset] [(.int (0 : Int32))])
    refine own_go (fun tz kz => XS.ifNo X11.here hx rfl (hb hby at_78) rfl (XT.i0_ne_f rfl) kz) ?_
    show own_Go p.tables e below _ T11 (mkF m 81 #[.val (.long q1), .second, .val (.long q2), .second, .val (.int p3), .val (.int p4), .val (.ref wa), .val (.int (1 : Int32)), .val (.int (Int32.ofNat i)), .val (.ref o), .val (.double FP.dconst0), .second, .unset, .unset, .unset, .unset, .unset, .unset, .unset, .unset] [])
    refine own_go (fun tz kz => XS.iconst X11.here hx rfl (hb hby at_81) kz) ?_
    show own_Go p.tables e below _ T11 (mkF m 82 #[.val (.long q1), .second, .val (.long q2), .second, .val (.int p3), .val (.int p4), .val (.ref wa), .val (.int (1 : Int32)), .val (.int (Int32.ofNat i)), .val (.ref o), .val (.double FP.dconst0), .second, .unset, .unset, .unset, .unset, .unset, .unset, .unset, .unset] [(.int (1 : Int32))])
    refine own_go (fun tz kz => XS.goto X11.here hx rfl (pc0 := 82) (pc' := 86) rfl (hb hby at_82) (by decide) (by decide) kz) ?_
    show own_Go p.tables e below _ T11 (mkF m 86 #[.val (.long q1), .second, .val (.long q2), .second, .val (.int p3), .val (.int p4), .val (.ref wa), .val (.int (1 : Int32)), .val (.int (Int32.ofNat i)), .val (.ref o), .val (.double FP.dconst0), .second, .unset, .unset, .unset, .unset, .unset, .unset, .unset, .unset] [(.int (1 : Int32))])
    obtain ⟨fs, hr, hrun, hended, hW, hsame⟩ := X11.leave (v := some (.int (1 : Int32))) (fun h => by rw [Bd.returns] at h; cases h) (BodyLoose.notSynchronized Bd)
    refine ⟨_, _, ?_, hrun, hended, _, _, rfl, ?_, ⟨_, rfl⟩, hW, hsame.mono (by decide) (by decide)⟩
    · exact retN X11 hx (t := .boolean) Bd.returns (by simp) (hb hby at_86) hr
    · show Q0 Z q1 q2 p3 p4 h0 n0 _ T11.heap _
      rw [e11]
      exact ⟨rfl, N11⟩
set_option maxRecDepth 65536 in
set_option maxHeartbeats 40000000 in
theorem comes_1 {Post : Tables → Env → Array Value → State → Outcome → State → Prop} (hpost : ∀ tb e args s v u, (limb_1_1.after args s (.returned v) u = true ∧ limb_1_2.after args s (.returned v) u = true ∧ True) → FrameEnd s (.returned v) u (Jvm.fieldLocs frame_1_writes args s ++ Jvm.arrayLocs frame_1_arrays args s ++ Jvm.staticLocs frame_1_statics s) 16 128 → Post tb e args s (.returned v) u) :
    ArmFor flags0 classFile x code maxLocals ret World_1 tables_1 room_1 Calls_1 rest_1 Pre_1 Post := by
  intro l hfl _ _ p e ha hc hk s m args below hf hA hF happ hP
  obtain ⟨hcalls, hrest, hpre⟩ := hP
  obtain ⟨-, -, -, hnamed, -, -, -, hat⟩ := (Spec.applies_iff hf).mp happ
  obtain ⟨hg, hn⟩ := and_e (Cond.before_iff.mp (show (Jvm.Cond.and given_1 narrow_1).before args s = true from hpre))
  obtain ⟨gc, ga0⟩ := and_e hg
  obtain ⟨gv0, ga1⟩ := and_e ga0
  obtain ⟨gv1, ga2⟩ := and_e ga1
  obtain ⟨gv2, ga3⟩ := and_e ga2
  have gv3 := ga3
  obtain ⟨w0, w1, w2, w3, rfl⟩ : ∃ w0 w1 w2 w3 : Value, args = #[w0, w1, w2, w3] := by
    have hs : args.size = 4 := by simpa [Cond.value, given_1] using gc
    obtain ⟨L⟩ := args
    match L, hs with
    | [w0, w1, w2, w3], _ => exact ⟨w0, w1, w2, w3, rfl⟩
  have hw := fun d (hd : d ∈ tables_1) => atoms_spec (ws := Jvm.Cond.code x code maxLocals ret :: tables_1) hat d (List.mem_cons_of_mem _ hd)
  have hfit : Fit s := fun {y c} hc i hi => by
    obtain ⟨ha, rfl⟩ := Array.getElem?_eq_some_iff.mp hc
    have q := List.all_eq_true.mp ((Array.all_eq_true_iff_forall_mem.mp hF) _ (Array.getElem_mem ha)) i (List.mem_range.mpr hi)
    simpa [Array.getElem?_eq_getElem hi] using q
  obtain ⟨i0, ei0⟩ := isL_v gv0
  obtain rfl : w0 = (.long i0) := Option.some.inj ei0
  obtain ⟨i1, ei1⟩ := isL_v gv1
  obtain rfl : w1 = (.long i1) := Option.some.inj ei1
  obtain ⟨i2, ei2⟩ := is_v gv2
  obtain rfl : w2 = (.int i2) := Option.some.inj ei2
  obtain ⟨i3, ei3⟩ := is_v gv3
  obtain rfl : w3 = (.int i3) := Option.some.inj ei3
  obtain ⟨n, o, h1, h2, h3, _, L, rfl, ⟨rfl, N⟩, hq⟩ := rm0 l s _ hw tables_1 i0 i1 i2 i3  s.heap s.heap.size (Nat.le_refl _)  p e ha hc hk s m _ below hf ((Spec.applies_iff_loose hf).mp happ).1 ⟨rfl, State.Warmed39.refl s, rfl⟩ trivial
  exact ⟨n, _, h1, h2, h3, hpost _ _ _ _ _ _ ⟨Cond.after_iff.mpr rfl, Cond.after_iff.mpr (eq_i res_at (Term.int_eval (1)) rfl), trivial⟩ ⟨hq.1, hq.2.1, (hq.2.2.sift fun y hy => Or.inr (N y hy)).mono (by decide) (by decide)⟩⟩
theorem main_1_1 : Claimed_1_1 := comes_1 fun _ _ _ _ _ _ h hF => ⟨h.1, hF⟩
theorem main_1_2 : Claimed_1_2 := comes_1 fun _ _ _ _ _ _ h hF => ⟨h.2.1, hF⟩
end Jvm.Pilot.@@N@@
namespace Jvm.Pilot.@@N@@
open Jvm Jvm.ClassFile Sem Op Lib Jvm.Free Jvm.Stand Jvm.Pilot.@@N@@.Jvm.D
/-! MADE BY PROGRAM (witnessworld.py) out of the Statement's table words and the real class files: 13 classes; the members and pool entries that the words name. The judged class is class 1, her method 1. -/
namespace start1
open Jvm.ClassFile
def u (s : String) : CpInfo := .utf8 (stringToUtf16 s)
/-- a pool by its gaps: so many unusable entries, then the entry; so many at the end -/
def gap : Nat → List CpInfo → List CpInfo
  | 0, r => r
  | n + 1, r => .unusable :: gap n r
def poolList (es : List (Nat × CpInfo)) (last : Nat) : List CpInfo := es.foldr (fun e r => gap e.1 (e.2 :: r)) (gap last [])
def pool (es : List (Nat × CpInfo)) (last : Nat) : Array CpInfo := ⟨poolList es last⟩
def fileOf (pool : Array CpInfo) (this : Nat) (attrs : Array Attribute := #[]) (ms : Array MethodInfo := #[]) (fl : Nat := 33) (sup : Nat := 0) (ifs : Array Nat := #[]) (fds : Array FieldInfo := #[]) : ClassFile where
  minorVersion := 0
  majorVersion := 65
  constantPool := pool
  accessFlags := fl
  thisClass := this
  superClass := sup
  interfaces := ifs
  fields := fds
  methods := ms
  attributes := attrs
def plain (name : String) (sup : Option ClassId) : Class where
  name := name
  kind := .ordinary
  loader := none
  accessFlags := 33
  super := sup
  interfaces := #[]
  cf := none
  fields := #[]
  methods := #[]
  instanceTypes := #[]
  staticTypes := #[]
  resolved := #[]
  callSites := []
  init := .initialized
  statics := none
  mirror := none

def pool0 : Array CpInfo := pool [(5, u "<init>"), (0, u "()V"), (1, .class_ 10), (1, u "java/lang/Object")] 113

def k0c0 : Code := { maxStack := 0, maxLocals := 1, code := object_method_1_code, exceptionTable := #[], attributes := #[] }
def k0m0 : Method := { name := "<init>", desc := "()V", sig := { parameters := [], returnType := none }, accessFlags := 1, code := some k0c0 }
/-- java/lang/Object -/
def k0 : Class := { plain "java/lang/Object" none with
  accessFlags := 33
  interfaces := #[]
  cf := some (fileOf pool0 8 #[] #[{ accessFlags := 1, nameIndex := 5, descriptorIndex := 6, attributes := #[] }] 33 0 #[] #[])
  fields := #[]
  methods := #[k0m0]
  instanceTypes := #[]
  staticTypes := #[]
  resolved := Array.replicate 124 none
  statics := none }

def pool1 : Array CpInfo := pool [(2, .class_ 4), (1, u "java/lang/Object"), (0, u "<init>"), (0, u "()V"), (0, .class_ 8), (0, u "dexterous/transform/LinearRelaxation$Bound"), (0, .methodref 7 10), (0, .nameAndType 5 11), (0, u "(J[DDJJ[J)V"), (0, .methodref 7 13), (0, .nameAndType 14 15), (0, u "worth"), (0, u "(I)D"), (0, .long 1073741823), (1, .double 4742290407621132288), (1, .class_ 21), (0, u "dexterous/transform/BoundWorthPinLaw"), (2, u "law"), (0, u "(JJII)Z")] 11

def k1m0 : Method := { name := "<init>", desc := "()V", sig := { parameters := [], returnType := none }, accessFlags := 1, code := none }
def k1c1 : Code := { maxStack := 12, maxLocals := 20, code := code, exceptionTable := #[], attributes := #[] }
def k1m1 : Method := { name := "law", desc := "(JJII)Z", sig := { parameters := [.long, .long, .int, .int], returnType := some .boolean }, accessFlags := 9, code := some k1c1 }
/-- dexterous/transform/BoundWorthPinLaw -/
def k1 : Class := { plain "dexterous/transform/BoundWorthPinLaw" (some 0) with
  accessFlags := 49
  interfaces := #[]
  cf := some (fileOf pool1 20 #[] #[{ accessFlags := 1, nameIndex := 5, descriptorIndex := 6, attributes := #[] }, { accessFlags := 9, nameIndex := 24, descriptorIndex := 25, attributes := #[] }] 49 2 #[] #[])
  fields := #[]
  methods := #[k1m0, k1m1]
  instanceTypes := #[]
  staticTypes := #[]
  resolved := Array.replicate 37 none
  statics := none }

def pool2 : Array CpInfo := pool [(1, .class_ 2), (0, u "dexterous/transform/LinearRelaxation"), (0, .methodref 4 5), (0, .class_ 6), (0, .nameAndType 7 8), (0, u "java/lang/Object"), (0, u "<init>"), (0, u "()V"), (0, .fieldref 10 11), (0, .class_ 12), (0, .nameAndType 13 14), (0, u "dexterous/transform/LinearRelaxation$Bound"), (0, u "bound"), (0, u "J"), (0, .fieldref 10 16), (0, .nameAndType 17 18), (0, u "shares"), (0, u "[D"), (0, .fieldref 10 20), (0, .nameAndType 21 22), (0, u "price"), (0, u "D"), (0, .fieldref 10 24), (0, .nameAndType 25 14), (0, u "work"), (0, .fieldref 10 27), (0, .nameAndType 28 14), (0, u "total"), (0, .fieldref 10 30), (0, .nameAndType 31 32), (0, u "worth"), (0, u "[J"), (0, .double 4742290407621132288), (13, u "(J[DDJJ[J)V"), (4, u "(I)D")] 11

def k2c0 : Code := { maxStack := 3, maxLocals := 11, code := prog_52_method_1_code, exceptionTable := #[], attributes := #[] }
def k2m0 : Method := { name := "<init>", desc := "(J[DDJJ[J)V", sig := { parameters := [.long, (.array .double), .double, .long, .long, (.array .long)], returnType := none }, accessFlags := 0, code := some k2c0 }
def k2c1 : Code := { maxStack := 4, maxLocals := 2, code := prog_52_method_4_code, exceptionTable := #[], attributes := #[] }
def k2m1 : Method := { name := "worth", desc := "(I)D", sig := { parameters := [.int], returnType := some .double }, accessFlags := 0, code := some k2c1 }
/-- dexterous/transform/LinearRelaxation$Bound -/
def k2 : Class := { plain "dexterous/transform/LinearRelaxation$Bound" (some 0) with
  accessFlags := 48
  interfaces := #[]
  cf := some (fileOf pool2 10 #[.nestHost 1] #[{ accessFlags := 0, nameIndex := 7, descriptorIndex := 47, attributes := #[] }, { accessFlags := 0, nameIndex := 31, descriptorIndex := 52, attributes := #[] }] 48 4 #[] #[{ accessFlags := 18, nameIndex := 13, descriptorIndex := 14, attributes := #[] }, { accessFlags := 18, nameIndex := 17, descriptorIndex := 18, attributes := #[] }, { accessFlags := 18, nameIndex := 21, descriptorIndex := 22, attributes := #[] }, { accessFlags := 18, nameIndex := 25, descriptorIndex := 14, attributes := #[] }, { accessFlags := 18, nameIndex := 28, descriptorIndex := 14, attributes := #[] }, { accessFlags := 18, nameIndex := 31, descriptorIndex := 32, attributes := #[] }])
  fields := #[{ name := "bound", type := .long, accessFlags := 18, slot := 0, constantValue := 0 }, { name := "shares", type := (.array .double), accessFlags := 18, slot := 1, constantValue := 0 }, { name := "price", type := .double, accessFlags := 18, slot := 2, constantValue := 0 }, { name := "work", type := .long, accessFlags := 18, slot := 3, constantValue := 0 }, { name := "total", type := .long, accessFlags := 18, slot := 4, constantValue := 0 }, { name := "worth", type := (.array .long), accessFlags := 18, slot := 5, constantValue := 0 }]
  methods := #[k2m0, k2m1]
  instanceTypes := #[.long, (.array .double), .double, .long, .long, (.array .long)]
  staticTypes := #[]
  resolved := Array.replicate 64 none
  statics := none }

def pool3 : Array CpInfo := pool [(1, u "java/lang/Cloneable"), (0, .class_ 1), (0, u "java/lang/Object"), (0, .class_ 3)] 3

/-- java/lang/Cloneable -/
def k3 : Class := { plain "java/lang/Cloneable" (some 0) with
  accessFlags := 1537
  interfaces := #[]
  cf := some (fileOf pool3 2 #[] #[] 1537 4 #[] #[])
  fields := #[]
  methods := #[]
  instanceTypes := #[]
  staticTypes := #[]
  resolved := Array.replicate 8 none
  statics := none }

def pool4 : Array CpInfo := pool [(1, u "java/io/Serializable"), (0, .class_ 1), (0, u "java/lang/Object"), (0, .class_ 3)] 3

/-- java/io/Serializable -/
def k4 : Class := { plain "java/io/Serializable" (some 0) with
  accessFlags := 1537
  interfaces := #[]
  cf := some (fileOf pool4 2 #[] #[] 1537 4 #[] #[])
  fields := #[]
  methods := #[]
  instanceTypes := #[]
  staticTypes := #[]
  resolved := Array.replicate 8 none
  statics := none }

/-- the primitive byte -/
def k5 : Class := { plain "byte" none with kind := .primitive 'B', accessFlags := 0x411 }
/-- [B -/
def k6 : Class := { plain "[B" (some 0) with kind := .array 5 .byte, interfaces := #[3, 4], accessFlags := 1041 }

/-- the primitive double -/
def k7 : Class := { plain "double" none with kind := .primitive 'D', accessFlags := 0x411 }
/-- [D -/
def k8 : Class := { plain "[D" (some 0) with kind := .array 7 .double, interfaces := #[3, 4], accessFlags := 1041 }

/-- the primitive int -/
def k9 : Class := { plain "int" none with kind := .primitive 'I', accessFlags := 0x411 }
/-- [I -/
def k10 : Class := { plain "[I" (some 0) with kind := .array 9 .int, interfaces := #[3, 4], accessFlags := 1041 }

/-- the primitive long -/
def k11 : Class := { plain "long" none with kind := .primitive 'J', accessFlags := 0x411 }
/-- [J -/
def k12 : Class := { plain "[J" (some 0) with kind := .array 11 .long, interfaces := #[3, 4], accessFlags := 1041 }

def heap : Heap := #[]
def classes : Array Class := #[k0, k1, k2, k3, k4, k5, k6, k7, k8, k9, k10, k11, k12]
def interned : List (Array UInt16 × Addr) := []
def slotsUsed : Nat := 0
def theMethod : MethodId := ⟨1, 1⟩
def args0 : Array Value := #[.long 5, .long 300, .int 7, .int 1]
def aboutOver (below : List Frame) : State where
  vm := { classes := classes, interned := interned.toArray }
  heap := heap
  slotsUsed := slotsUsed
  threads := #[{ frames := .invoking theMethod args0 :: below }]
def below0 : List Frame := [.native { method := ⟨0, 0⟩, args := #[] }]
def about1 : State := aboutOver below0
def p0 : Program := .bare "" "" ""
def e0 : Env := launch0.env 0 0 0
theorem w_frames : about1.frames = Frame.invoking theMethod args0 :: below0 := rfl
set_option maxRecDepth 65536 in
theorem w_args : argsFit about1.vm theMethod args0 = true := by decide +kernel
set_option maxRecDepth 65536 in
theorem w_heap : heapFits about1 = true := by decide +kernel
set_option maxRecDepth 65536 in
theorem w_runnable : about1.curStatus? = some .runnable := by decide +kernel
set_option maxRecDepth 65536 in
theorem w_alone : about1.alone = true := by decide +kernel
set_option maxRecDepth 65536 in
theorem w_named : about1.methodNamed? x = some theMethod := by decide +kernel
set_option maxRecDepth 65536 in
theorem w_hears : about1.hears theMethod below0 = true := by decide +kernel
set_option maxRecDepth 65536 in
theorem w_ripe : about1.ripe theMethod args0 below0 = true := by decide +kernel
theorem w_running : about1.status = .running := rfl
set_option maxRecDepth 65536 in
theorem w_room : about1.hasRoom e0.platform room_1 = true :=
  launch0.hasRoom_least _ room_1 (by decide +kernel) (by decide +kernel) (by decide +kernel) (by decide +kernel) (by decide +kernel) (by decide +kernel)
theorem allAtoms_all (ts : List Jvm.Cond) (a : Array Jvm.Value) (st : Jvm.State) : (allAtoms ts).before a st = ts.all (fun c => c.before a st) := by
  induction ts with
  | nil => rfl
  | cons c t ih =>
    show (Jvm.Cond.and c (allAtoms t)).before a st = _
    rw [Jvm.Cond.before_and, ih, List.all_cons]
def words1 : List Jvm.Cond := Jvm.Cond.code x code maxLocals ret :: tables_1
/-- a 'code' word, met by the world's own term for the bytes: nothing is compared byte by byte -/
theorem code_word {y : MethodName} {bytes : ByteArray} {mx : Nat} {rt : Option FieldType} {a : Array Value} {s : State} {m : MethodId} {meth : Method} {c : Code} (h1 : s.methodNamed? y = some m) (h2 : s.vm.method? m = some meth) (h3 : meth.code = some c) (h4 : c.code = bytes)
    (h5 : (c.maxLocals == mx && c.exceptionTable.isEmpty && decide (c.maxStack ≤ mostOperands) && decide (meth.sig.returnType = rt) && !meth.locks && decide (parseMethodDescriptor y.desc = some meth.sig)) = true) : (Jvm.Cond.code y bytes mx rt).before a s = true := by
  simp only [Bool.and_eq_true, beq_iff_eq, Bool.not_eq_true', decide_eq_true_eq] at h5
  obtain ⟨⟨⟨⟨⟨g1, g2⟩, g3⟩, g4⟩, g5⟩, g6⟩ := h5
  simp [Cond.before, Cond.holds, Cond.value, h1, h2, h3, h4, g1, g2, g3, g4, g5, g6]
def isCode : Jvm.Cond → Bool
  | .code _ _ _ _ => true
  | _ => false
theorem all_split {L : List Jvm.Cond} {P : Jvm.Cond → Bool} (h1 : L.all (fun c => isCode c || P c) = true) (h2 : ∀ c ∈ L.filter isCode, P c = true) : L.all P = true := by
  refine List.all_eq_true.mpr fun c hc => ?_
  have h := List.all_eq_true.mp h1 c hc
  rcases Bool.eq_false_or_eq_true (isCode c) with hi | hi
  · exact h2 c (List.mem_filter.mpr ⟨hc, hi⟩)
  · simpa [hi] using h
set_option maxRecDepth 65536 in
theorem w_c0 : (Jvm.Cond.code x code maxLocals ret).before args0 about1 = true := code_word (m := ⟨1, 1⟩) (meth := k1m1) (c := k1c1) (by decide +kernel) rfl rfl rfl (by decide +kernel)
set_option maxRecDepth 65536 in
theorem w_c1 : (Jvm.Cond.code ({ cls := "dexterous/transform/LinearRelaxation$Bound", name := "<init>", desc := "(J[DDJJ[J)V" } : Jvm.MethodName) prog_52_method_1_code (11 : Nat) (Option.none : Option Jvm.ClassFile.FieldType)).before args0 about1 = true := code_word (m := ⟨2, 0⟩) (meth := k2m0) (c := k2c0) (by decide +kernel) rfl rfl rfl (by decide +kernel)
set_option maxRecDepth 65536 in
theorem w_c2 : (Jvm.Cond.code ({ cls := "java/lang/Object", name := "<init>", desc := "()V" } : Jvm.MethodName) object_method_1_code (1 : Nat) (Option.none : Option Jvm.ClassFile.FieldType)).before args0 about1 = true := code_word (m := ⟨0, 0⟩) (meth := k0m0) (c := k0c0) (by decide +kernel) rfl rfl rfl (by decide +kernel)
set_option maxRecDepth 65536 in
theorem w_c3 : (Jvm.Cond.code ({ cls := "dexterous/transform/LinearRelaxation$Bound", name := "worth", desc := "(I)D" } : Jvm.MethodName) prog_52_method_4_code (2 : Nat) (Option.some Jvm.ClassFile.FieldType.double)).before args0 about1 = true := code_word (m := ⟨2, 1⟩) (meth := k2m1) (c := k2c1) (by decide +kernel) rfl rfl rfl (by decide +kernel)
def codes1 : List Jvm.Cond := [Jvm.Cond.code x code maxLocals ret, Jvm.Cond.code ({ cls := "dexterous/transform/LinearRelaxation$Bound", name := "<init>", desc := "(J[DDJJ[J)V" } : Jvm.MethodName) prog_52_method_1_code (11 : Nat) (Option.none : Option Jvm.ClassFile.FieldType), Jvm.Cond.code ({ cls := "java/lang/Object", name := "<init>", desc := "()V" } : Jvm.MethodName) object_method_1_code (1 : Nat) (Option.none : Option Jvm.ClassFile.FieldType), Jvm.Cond.code ({ cls := "dexterous/transform/LinearRelaxation$Bound", name := "worth", desc := "(I)D" } : Jvm.MethodName) prog_52_method_4_code (2 : Nat) (Option.some Jvm.ClassFile.FieldType.double)]
set_option maxRecDepth 65536 in
theorem codes_eq : words1.filter isCode = codes1 := rfl
theorem w_codes : ∀ c ∈ words1.filter isCode, c.before args0 about1 = true := by
  rw [codes_eq]
  intro c hc
  simp only [codes1, List.mem_cons, List.not_mem_nil, or_false] at hc
  rcases hc with rfl | rfl | rfl | rfl
  · exact w_c0
  · exact w_c1
  · exact w_c2
  · exact w_c3
set_option maxRecDepth 65536 in
theorem w_t1 : (words1.take 24).all (fun c => isCode c || c.before args0 about1) = true := by decide +kernel
set_option maxRecDepth 65536 in
theorem w_t2 : (words1.drop 24).all (fun c => isCode c || c.before args0 about1) = true := by decide +kernel
theorem w_tables : (allAtoms (Jvm.Cond.code x code maxLocals ret :: tables_1)).before args0 about1 = true := by
  rw [allAtoms_all]
  show words1.all (fun c => c.before args0 about1) = true
  refine all_split ?_ w_codes
  rw [← List.take_append_drop 24 words1, List.all_append, w_t1, w_t2]
  rfl
set_option maxRecDepth 65536 in
theorem w_case : (Jvm.Cond.and given_1 narrow_1).before args0 about1 = true := by decide +kernel
theorem w_applies : (headSpec (Jvm.Cond.code x code maxLocals ret :: tables_1) room_1).applies x e0.platform about1 = true :=
  (Spec.applies_iff w_frames).mpr ⟨w_running, w_runnable, w_alone, w_named, w_hears, w_ripe, w_room, w_tables⟩
theorem atStart : AtStart classFile x code maxLocals ret World_1 tables_1 room_1 Calls_1 rest_1 Pre_1 launch0 p0 e0 about1 theMethod args0 below0 :=
  ⟨lists_1, trivial, launch0.admits_env _ _ _, launch0.least_env, fairChoices_fair.cas, fairChoices_fair.clock, w_frames, w_args, w_heap, w_applies, trivial, trivial, w_case⟩
end start1
theorem witness_1 : WitnessClaimed_1 := ⟨start1.p0, start1.e0, start1.about1, start1.theMethod, start1.args0, start1.below0, start1.atStart⟩
end Jvm.Pilot.@@N@@
