import JvmDerived
import JvmDerived.Pilot.@@N@@Statement
import JvmDerived.Pilot.@@N@@Code
set_option linter.unusedVariables false
set_option linter.unusedSimpArgs false
namespace Jvm.RoadKit
open Sem ClassFile Op Lib Jvm.Stand Jvm.Free Jvm.LawKit
section New
variable {p : Program} {l : Launch} {e : Env} {R : Room} {s : State} {m : MethodId} {args : Array Value} {below : List Frame} {meth : Method} {c : Code} {T : State} {locs : List Loc} {cells slots : Nat}
theorem retI (X : Stand p l e R s m args below meth c T locs cells slots) (hx : p.tables.exec = Jvm.exec) {pc : Nat} {Ls : Array Slot} {z : Int32} {rest : List Value} (hret : meth.sig.returnType = some .int) (hd : decode c.code pc = .ok (.ireturn, 1)) {fs : List Frame}
    (hl : ∀ (f : JFrame) (acts : List Action), f.method = m → f.locked = none → f.entered = [] → (doReturn e (T.setTop f) acts (some (.int z))).1 = T.setFrames fs) : Steps p.tables e below (T.setTop (mkF m pc Ls (.int z :: rest))) (T.setFrames fs) := by
  have hm' : T.vm.method? m = some meth := X.method'
  have hn : narrow .int (.int z) = .int z := rfl
  show Steps p.tables e below (T.setTop { method := m, pc := pc, locals := Ls, stack := _ :: rest, locked := none }) _
  jvm_step X.here [X.here.top, hx, hd, hm', hret, hn]
  first | (intro acts; rw [hl _ acts rfl rfl rfl]) | rw [hl _ _ rfl rfl rfl]
  exact Steps.refl _
end New
end Jvm.RoadKit
namespace Jvm.Pilot.@@N@@
open Jvm Jvm.ClassFile Sem Op Lib Jvm.Free Jvm.Stand Jvm.LawKit Jvm.RoadKit Bundle Jvm.Pilot.@@N@@.Jvm.D
/-- the run from here ends well -/
def own_Go (tb : Tables) (e : Env) (below : List Frame) (P : Outcome → State → Prop) (T : State) (f : JFrame) : Prop := ∃ s₂ o, Steps tb e below (T.setTop f) s₂ ∧ s₂.status = .running ∧ Ended s₂ below o ∧ P o s₂
theorem own_go {tb : Tables} {e : Env} {below : List Frame} {P : Outcome → State → Prop} {T T' : State} {f f' : JFrame} (k : ∀ t, Steps tb e below (T'.setTop f') t → Steps tb e below (T.setTop f) t) (h : own_Go tb e below P T' f') : own_Go tb e below P T f := by
  obtain ⟨s₂, o, h1, h2⟩ := h
  exact ⟨s₂, o, k _ h1, h2⟩
theorem own_keep1 {h0 h h' : Heap} {ws : List Addr} {b : Addr} (K : Keep h0 h ws) (K' : Keep h h' [b]) (q : h0.size ≤ b) : Keep h0 h' ws := K.trans K' fun x hx => Or.inr (by cases List.mem_singleton.mp hx; exact q)
theorem own_eqi {a b : Term} {args : Array Value} {first s : State} {o : Option Outcome} {idx : List Nat} {y : Int32} (h : (Jvm.Cond.eq a b).value args first o s idx = some true) (hb : b.eval args first o idx s = some (.int y)) : a.eval args first o idx s = some (.int y) := by
  cases ha : a.eval args first o idx s with
  | none => simp [Cond.value, ha] at h
  | some x => cases x <;> simp [Cond.value, ha, hb] at h; subst h; rfl
theorem own_not1 {a b : Addr} (q : a ≠ b) : a ∉ [b] := fun h => q (List.mem_singleton.mp h)
def own_PW (s : State) (Q : Option Value → Heap → List Loc → Prop) (k n : Nat) (o : Outcome) (U : State) : Prop := ∃ v L, o = .returned v ∧ Q v U.heap L ∧ ReturnedEndW s o U L k n
def own_P (s : State) (Q : Option Value → Heap → List Loc → Prop) (k n : Nat) (o : Outcome) (U : State) : Prop := ∃ v L, o = .returned v ∧ Q v U.heap L ∧ FrameEnd s o U L k n
/-- the array at a has n places; place k holds f k -/
def own_Av (Z : State) (h : Heap) (a : Addr) (ty : FieldType) (n : Nat) (f : Nat → Value) : Prop := ∃ c : Cell, Arr Z h a c ty ∧ c.slots.size = n ∧ ∀ k, k < n → c.slots[k]? = some (f k)
theorem own_Av.lt {Z : State} {h : Heap} {a : Addr} {ty : FieldType} {n : Nat} {f : Nat → Value} (F : own_Av Z h a ty n f) : a < h.size := by obtain ⟨c, A, -⟩ := F; exact A.lt
theorem own_Av.ext {Z : State} {h h' : Heap} {a : Addr} {ty : FieldType} {n : Nat} {f : Nat → Value} (F : own_Av Z h a ty n f) (E : Ext h h') : own_Av Z h' a ty n f := by obtain ⟨c, A, r⟩ := F; exact ⟨c, A.ext E, r⟩
theorem own_Av.other {Z : State} {h h' : Heap} {a b : Addr} {ty : FieldType} {n sl : Nat} {v : Value} {f : Nat → Value} (F : own_Av Z h b ty n f) (W : Wr h h' a sl v) (q : b ≠ a) : own_Av Z h' b ty n f := by obtain ⟨c, A, r⟩ := F; exact ⟨c, A.other W q, r⟩
theorem own_Av.keep {Z : State} {h h' : Heap} {a : Addr} {ty : FieldType} {n : Nat} {ws : List Addr} {f : Nat → Value} (F : own_Av Z h a ty n f) (K : Keep h h' ws) (q : a ∉ ws) : own_Av Z h' a ty n f := by obtain ⟨c, A, r⟩ := F; exact ⟨c, ⟨K.2.1 a c A.1 q, A.2⟩, r⟩
theorem own_Av.new {Z : State} {h : Heap} {a : Addr} {ty : FieldType} {k : ClassId} {z : Int32} {n : Nat} (A : Arr Z h a (newA k ty z) ty) (hz : z.toNatClampNeg = n) : own_Av Z h a ty n (fun _ => defaultValue ty) := by
  refine ⟨_, A, (sz_new _ _ _).trans hz, fun i hi => ?_⟩
  subst hz
  simp [newA, hi]
theorem own_Av.set {Z : State} {h h' : Heap} {a : Addr} {ty : FieldType} {n i j : Nat} {v : Value} {f : Nat → Value} (F : own_Av Z h a ty n f) (W : Wr h h' a j v) (hj : j = i) : own_Av Z h' a ty n (fun k => if k = i then v else f k) := by
  subst hj
  obtain ⟨c, A, S, G⟩ := F
  have hlt : j < c.slots.size := by
    obtain ⟨cell, h1, h2, h3, -⟩ := W
    cases A.1.symm.trans h1; exact h3
  refine ⟨_, A.same W, (sz_set _ _ _).trans S, fun k hk => ?_⟩
  by_cases q : k = j
  · subst q; simp [Cell.setSlot, hlt]
  · show (c.setSlot j v).slots[k]? = some (if k = j then v else f k)
    rw [if_neg q, ← G k hk]; simp [Cell.setSlot, Array.getElem?_setIfInBounds, Ne.symm q]
theorem own_Av.eq {Z : State} {h : Heap} {a : Addr} {ty : FieldType} {n : Nat} {f g : Nat → Value} (F : own_Av Z h a ty n f) (q : ∀ k, k < n → f k = g k) : own_Av Z h a ty n g := by
  obtain ⟨c, A, S, G⟩ := F
  exact ⟨c, A, S, fun k hk => by rw [G k hk, q k hk]⟩
theorem own_inb {c : Cell} {n i : Nat} {j : Int32} (S : c.slots.size = n) (hj : ¬ j < 0 ∧ j.toNatClampNeg = i) (hi : i < n) : ¬ (j < 0 ∨ c.slots.size ≤ j.toNatClampNeg) := by
  rw [S, hj.2]
  exact fun q => q.elim hj.1 (Nat.not_le.mpr hi)
theorem own_at {c : Cell} {n i : Nat} {j : Int32} {f : Nat → Value} {v : Value} (G : ∀ k, k < n → c.slots[k]? = some (f k)) (hj : ¬ j < 0 ∧ j.toNatClampNeg = i) (hi : i < n) (hv : f i = v) : c.slots[j.toNatClampNeg]? = some v := by
  rw [hj.2, G i hi, hv]
theorem own_nat {i : Nat} (h : i < 2 ^ 31) : ¬ Int32.ofNat i < 0 ∧ (Int32.ofNat i).toNatClampNeg = i := by
  have e : (Int32.ofNat i).toInt = i := Int32.toInt_ofNat_of_lt h
  refine ⟨?_, ?_⟩
  · rw [Int32.lt_iff_toInt_lt, e, Int32.toInt_zero]; omega
  · show (Int32.ofNat i).toInt.toNat = i
    rw [e]; rfl
theorem own_low (x : Int32) : ∃ j, j < 16 ∧ x &&& 15 = Int32.ofNat j := by
  refine ⟨(x &&& 15).toBitVec.toNat, ?_, ?_⟩
  · rw [Int32.toBitVec_and, BitVec.toNat_and]
    exact Nat.lt_of_le_of_lt Nat.and_le_right (by decide)
  · apply Int32.toBitVec_inj.mp
    show _ = BitVec.ofNat 32 _
    rw [BitVec.ofNat_toNat, BitVec.setWidth_eq]
theorem own_ltn {i j : Nat} (hi : i < 2 ^ 31) (hj : j < 2 ^ 31) : Int32.ofNat i < Int32.ofNat j ↔ i < j := by
  rw [Int32.lt_iff_toInt_lt, Int32.toInt_ofNat_of_lt hi, Int32.toInt_ofNat_of_lt hj]; omega
theorem own_pred {j : Nat} (h : 0 < j) (hj : j < 2 ^ 31) : Int32.ofNat j - 1 = Int32.ofNat (j - 1) := by
  apply Int32.toInt_inj.mp
  rw [Int32.toInt_sub, Int32.toInt_ofNat_of_lt hj, Int32.toInt_ofNat_of_lt (by omega), show (1 : Int32).toInt = 1 from by decide, Int.bmod_eq_of_le] <;> omega
theorem own_succ (i : Nat) : Int32.ofNat i + 1 = Int32.ofNat (i + 1) := by
  apply Int32.toBitVec_inj.mp
  show BitVec.ofNat 32 i + BitVec.ofNat 32 1 = BitVec.ofNat 32 (i + 1)
  rw [BitVec.ofNat_add_ofNat]
theorem own_ofNat_inj {i j : Nat} (hi : i < 2 ^ 31) (hj : j < 2 ^ 31) : Int32.ofNat i = Int32.ofNat j ↔ i = j := by
  rw [← Int32.toInt_inj, Int32.toInt_ofNat_of_lt hi, Int32.toInt_ofNat_of_lt hj]; omega
theorem own_b8 (x : Int32) : x.toInt8.toInt32.toInt8.toInt32 = x.toInt8.toInt32 := by simp
def own_fnd (g : Nat → Int32) (d : Int32) : Nat → Nat → Nat
  | 0, i => i
  | k + 1, i => if d < g i then i else own_fnd g d k (i + 1)
def own_g (r1 r2 r3 : Int32) (k : Nat) : Int32 := if k = 0 then r1 else if k = 1 then r2 else r3
def own_blk (x : Int32) (n : Nat) (k d r : Int32) : Int32 := if Int32.ofNat n < k then x else if d < r then x else x + 1
theorem own_low3 (x : Int32) : ∃ j, j < 4 ∧ x &&& 3 = Int32.ofNat j := by
  refine ⟨(x &&& 3).toBitVec.toNat, ?_, ?_⟩
  · rw [Int32.toBitVec_and, BitVec.toNat_and]
    exact Nat.lt_of_le_of_lt Nat.and_le_right (by decide)
  · apply Int32.toBitVec_inj.mp
    show _ = BitVec.ofNat 32 _
    rw [BitVec.ofNat_toNat, BitVec.setWidth_eq]
theorem own_mask (x m : Int32) (hm : m.toBitVec.toNat < 2 ^ 31) : 0 ≤ (x &&& m).toInt ∧ (x &&& m).toInt ≤ m.toInt := by
  have h1 : (x &&& m).toBitVec.toNat ≤ m.toBitVec.toNat := by rw [Int32.toBitVec_and, BitVec.toNat_and]; exact Nat.and_le_right
  have e1 : (x &&& m).toInt = (x &&& m).toBitVec.toNat := BitVec.toInt_eq_toNat_of_lt (by omega)
  have e2 : m.toInt = m.toBitVec.toNat := BitVec.toInt_eq_toNat_of_lt (by omega)
  rw [e1, e2]; omega
theorem own_add {x y : Int32} (h1 : -2147483648 ≤ x.toInt + y.toInt) (h2 : x.toInt + y.toInt < 2147483648) : (x + y).toInt = x.toInt + y.toInt := by
  rw [Int32.toInt_add, Int.bmod_eq_of_le] <;> omega
theorem own_one32 : (1 : Int32).toInt = 1 := by decide
theorem own_ranks (a b c m1 m2 m3 : Int32) (h1 : m1.toBitVec.toNat < 2 ^ 30) (h2 : m2.toBitVec.toNat < 2 ^ 29) (h3 : m3.toBitVec.toNat < 2 ^ 28) :
    0 < ((1 : Int32) + (a &&& m1)).toInt ∧ ((1 : Int32) + (a &&& m1)) < (((1 : Int32) + (a &&& m1)) + 1) + (b &&& m2) ∧ (((1 : Int32) + (a &&& m1)) + 1) + (b &&& m2) < ((((1 : Int32) + (a &&& m1)) + 1) + (b &&& m2) + 1) + (c &&& m3) := by
  have q1 := own_mask a m1 (by omega); have q2 := own_mask b m2 (by omega); have q3 := own_mask c m3 (by omega)
  have e1 : m1.toInt = m1.toBitVec.toNat := BitVec.toInt_eq_toNat_of_lt (by omega)
  have e2 : m2.toInt = m2.toBitVec.toNat := BitVec.toInt_eq_toNat_of_lt (by omega)
  have e3 : m3.toInt = m3.toBitVec.toNat := BitVec.toInt_eq_toNat_of_lt (by omega)
  have o := own_one32
  have a1 : ((1 : Int32) + (a &&& m1)).toInt = 1 + (a &&& m1).toInt := by rw [own_add] <;> omega
  generalize ((1 : Int32) + (a &&& m1)) = r1 at *
  have a2 : (r1 + 1).toInt = r1.toInt + 1 := by rw [own_add] <;> omega
  have a3 : (r1 + 1 + (b &&& m2)).toInt = r1.toInt + 1 + (b &&& m2).toInt := by rw [own_add] <;> omega
  generalize (r1 + 1 + (b &&& m2)) = r2 at *
  have a4 : (r2 + 1).toInt = r2.toInt + 1 := by rw [own_add] <;> omega
  have a5 : (r2 + 1 + (c &&& m3)).toInt = r2.toInt + 1 + (c &&& m3).toInt := by rw [own_add] <;> omega
  refine ⟨by omega, ?_, ?_⟩ <;> rw [Int32.lt_iff_toInt_lt] <;> omega
theorem own_found_eq {r1 r2 r3 d : Int32} (h12 : r1 < r2) (h23 : r2 < r3) : ∀ n, n < 4 → Int32.ofNat (own_fnd (own_g r1 r2 r3) d n 0) = own_blk (own_blk (own_blk 0 n 1 d r1) n 2 d r2) n 3 d r3 := by
  intro n hn
  rw [Int32.lt_iff_toInt_lt] at h12 h23
  have t1 : d < r1 → d < r2 := fun h => by rw [Int32.lt_iff_toInt_lt] at *; omega
  have t2 : d < r2 → d < r3 := fun h => by rw [Int32.lt_iff_toInt_lt] at *; omega
  rcases (by omega : n = 0 ∨ n = 1 ∨ n = 2 ∨ n = 3) with rfl | rfl | rfl | rfl
  · simp [own_fnd, own_blk]
  · by_cases a : d < r1 <;> simp [own_fnd, own_blk, own_g, a]
  · by_cases a : d < r1
    · simp [own_fnd, own_blk, own_g, a, t1 a]
    · by_cases b : d < r2 <;> simp [own_fnd, own_blk, own_g, a, b]
  · by_cases a : d < r1
    · simp [own_fnd, own_blk, own_g, a, t1 a, t2 (t1 a)]
    · by_cases b : d < r2
      · simp [own_fnd, own_blk, own_g, a, b, t2 b]
      · by_cases c : d < r3 <;> simp [own_fnd, own_blk, own_g, a, b, c]
theorem own_ldc2D {p : Program} {l : Launch} {e : Env} {R : Room} {s : State} {m : MethodId} {args : Array Value} {below : List Frame} {meth : Method} {c : Code} {T : State} {locs : List Loc} {cells slots : Nat} {g : JFrame} {target : State} (X : Stand p l e R s m args below meth c T locs cells slots) (hexec : p.tables.exec = Jvm.exec) {own : String} {index : Nat} {v : UInt64} (hown : s.vm.findClass own = some m.cls) (hconst : (Jvm.Cond.constantDouble own index v).before args s = true) (hg : g.method = m) (hdg : decode c.code g.pc = .ok (.ldc2_w index, 3))
    (hr : Steps p.tables e below (T.setTop { g with pc := g.pc + 3, stack := .double v :: g.stack }) target) : Steps p.tables e below (T.setTop g) target := X.ldc2DoubleC hexec hown hconst hg hdg target hr
section Dbl
open Jvm.Free.Fl
def own_s (g : Nat → Int32) : Nat → UInt64
  | 0 => FP.dconst0
  | k + 1 => FP.dadd (own_s g k) (FP.ddiv (FP.i2d (Int32.ofNat k + 1)) (FP.i2d (g k)))
theorem own_big {b : Int32} (hb : b ≠ 0) : Big64 1023 (FP.i2d b) := by
  rw [i2d_w]
  exact l2d_big fun q => hb (by have := congrArg Int64.toInt32 q; simpa using this)
theorem own_q (a b : Int32) (hb : b ≠ 0) : Mag64 1057 (FP.ddiv (FP.i2d a) (FP.i2d b)) := by
  have q := ddiv_mag (K := 1056) (L := 1023) (i2d_mag a) (own_big hb) (by decide) (by decide)
  exact Mag64.mono q (by decide)
theorem own_sm {g : Nat → Int32} {n : Nat} (hg : ∀ k, k < n → g k ≠ 0) : ∀ k, k ≤ n → k ≤ 3 → Mag64 (1057 + 2 * k) (own_s g k)
  | 0, _, _ => by show FP.dconst0.toNat % 9223372036854775808 < _; decide +kernel
  | k + 1, hk, h3 => by
    have q := dadd_mag (K := 1057 + 2 * k) (own_sm hg k (by omega) (by omega)) (Mag64.mono (own_q (Int32.ofNat k + 1) (g k) (hg k (by omega))) (by omega)) (by omega)
    exact Mag64.mono q (by omega)
theorem own_nq {g : Nat → Int32} {k : Nat} (a : Int32) (hg : g k ≠ 0) : NoNaN64 (FP.ddiv (FP.i2d a) (FP.i2d (g k))) := ((own_q a _ hg).fin (by decide)).noNaN
theorem own_ns {g : Nat → Int32} {n : Nat} (hg : ∀ k, k < n → g k ≠ 0) {k : Nat} (hk : k ≤ n) (h3 : k ≤ 3) : NoNaN64 (own_s g k) := ((own_sm hg k hk h3).fin (by omega)).noNaN
theorem own_nr {g : Nat → Int32} {n : Nat} (hg : ∀ k, k < n → g k ≠ 0) {k : Nat} (hk : k ≤ n) (h3 : k ≤ 3) {r : Int32} (hr : r ≠ 0) : NoNaN64 (FP.ddiv (own_s g k) (FP.i2d r)) :=
  (Mag64.fin (ddiv_mag (K := 1057 + 2 * k) (L := 1023) (own_sm hg k hk h3) (own_big hr) (by omega) (by decide)) (by omega)).noNaN
def own_ap (g : Nat → Int32) (F : Nat) (r : Int32) : UInt64 := if r = 0 then FP.dconst0 else FP.ddiv (own_s g F) (FP.i2d r)
theorem own_nap {g : Nat → Int32} {n : Nat} (hg : ∀ k, k < n → g k ≠ 0) {k : Nat} (hk : k ≤ n) (h3 : k ≤ 3) (r : Int32) : NoNaN64 (own_ap g k r) := by
  unfold own_ap
  by_cases h : r = 0
  · rw [if_pos h]; exact own_ns (g := g) (n := n) (k := 0) hg (by omega) (by omega)
  · rw [if_neg h]; exact own_nr hg hk h3 h
theorem own_d1 : FP.i2d (Int32.ofNat 0 + 1) = FP.dconst1 := by decide +kernel
theorem own_d2 : FP.i2d (Int32.ofNat 1 + 1) = (4611686018427387904 : UInt64) := by decide +kernel
theorem own_d3 : FP.i2d (Int32.ofNat 2 + 1) = (4613937818241073152 : UInt64) := by decide +kernel
end Dbl
theorem own_fnd_le (g : Nat → Int32) (d : Int32) : ∀ k i, own_fnd g d k i ≤ i + k
  | 0, i => Nat.le_refl _
  | k + 1, i => by
    rw [own_fnd]; split
    · omega
    · have := own_fnd_le g d k (i + 1); omega
def own_kk (n : Nat) (d r1 r2 r3 : Int32) : Int32 := if Int32.ofNat n < 1 then 0 else if d < r1 then 0 else if Int32.ofNat n < 2 then 1 else if d < r2 then 1 else if Int32.ofNat n < 3 then 2 else if d < r3 then 2 else 3
theorem own_kk_eq {r1 r2 r3 d : Int32} : ∀ n, n < 4 → own_kk n d r1 r2 r3 = Int32.ofNat (own_fnd (own_g r1 r2 r3) d n 0) := by
  intro n hn
  rcases (by omega : n = 0 ∨ n = 1 ∨ n = 2 ∨ n = 3) with rfl | rfl | rfl | rfl
  · simp [own_fnd, own_kk]
  · by_cases a : d < r1 <;> simp [own_fnd, own_kk, own_g, a]
  · by_cases a : d < r1 <;> by_cases b : d < r2 <;> simp [own_fnd, own_kk, own_g, a, b]
  · by_cases a : d < r1 <;> by_cases b : d < r2 <;> by_cases c : d < r3 <;> simp [own_fnd, own_kk, own_g, a, b, c]
theorem own_g_nz {r1 r2 r3 : Int32} (h1 : 0 < r1.toInt) (h12 : r1 < r2) (h23 : r2 < r3) (n : Nat) : ∀ k, k < n → own_g r1 r2 r3 k ≠ 0 := by
  intro k _ q
  rw [Int32.lt_iff_toInt_lt] at h12 h23
  unfold own_g at q
  have := congrArg Int32.toInt q
  rw [Int32.toInt_zero] at this
  split at this
  · omega
  · split at this <;> omega
theorem d2_0 : decode jdk_30_method_1_code 0 = .ok (.aload_n 0, 1) := by decide +kernel
theorem d2_1 : decode jdk_30_method_1_code 1 = .ok (.invokespecial 1, 3) := by decide +kernel
theorem d2_4 : decode jdk_30_method_1_code 4 = .ok (.return_, 1) := by decide +kernel
theorem pn_0 : plainName "java/lang/Record" = true := by first | (simp [plainName, overriddenIn]; done) | decide +kernel
theorem ef_2 (m : MethodId) {a1 : Addr} : entryFrame m #[(.ref a1)] 1 = mkF m 0 #[.val (.ref a1)] [] := by first | (simp [entryFrame, mkF, argsToLocals, Value.category]; done) | rfl
def Q2 (Z : State) (a1 : Addr) (h0 : Heap) (n0 : Nat) (v : Option Value) (h : Heap) (L : List Loc) : Prop := v = none ∧ Fr n0 L ∧ h = h0
set_option maxRecDepth 65536 in
set_option maxHeartbeats 40000000 in
theorem rm2 (l : Launch) (Z : State) (a0 : Array Value) (hw : ∀ d ∈ tables_1, d.before a0 Z = true) (ws : List Jvm.Cond) (a1 : Addr) (h0 : Heap) (n0 : Nat) (Z0 : n0 ≤ h0.size) :
    MetFree l (⟨"java/lang/Record", "<init>", "()V"⟩ : MethodName) (head1 (Jvm.Cond.code (⟨"java/lang/Record", "<init>", "()V"⟩ : MethodName) jdk_30_method_1_code 1 none :: ws) ({ frames := 1, cells := 0, slots := 0, locals := 12 } : Room)) (fun a U => a = #[(.ref a1)] ∧ Z.Warmed39 U.vm ∧ U.heap = h0) (fun _ _ _ _ _ => True) (fun _ U oz U' => ∃ v L, oz = .returned v ∧ Q2 Z a1 h0 n0 v U'.heap L ∧ FrameEnd U oz U' L (({ frames := 1, cells := 0, slots := 0, locals := 12 } : Room)).cells (({ frames := 1, cells := 0, slots := 0, locals := 12 } : Room)).slots) := by
  refine MetFree.of_bodySF (plainFor_of_name pn_0) hisR ?_
  intro p e s m args below meth c s₁ Bd hml0 hP hK
  obtain ⟨rfl, hZ, hh⟩ := hP
  have hx := Bd.exec
  have hby := Bd.bytes
  have hml : c.maxLocals = 1 := hml0
  have hown : s.vm.findClass "java/lang/Record" = some m.cls := findClass_of_methodNamed Bd.named
  have hnm := (name_of_methodNamed Bd.named Bd.method).1
  have X0 : Stand p l e ({ frames := 1, cells := 0, slots := 0, locals := 12 } : Room) s m #[(.ref a1)] below meth c s₁ [] 0 0 := Stand.of_body Bd
  have e0 : s₁.heap = h0 := by rw [← hh, Bd.state]; rfl
  have N0 := Fr.nil n0
  show own_Go p.tables e below (own_P s (Q2 Z a1 h0 n0) ({ frames := 1, cells := 0, slots := 0, locals := 12 } : Room).cells ({ frames := 1, cells := 0, slots := 0, locals := 12 } : Room).slots) s₁ _
  rw [ef_2]
  show own_Go p.tables e below _ s₁ (mkF m 0 #[.val (.ref a1)] [])
  refine own_go (fun tz kz => XS.aloadN X0.here hx rfl (hb hby d2_0) rfl rfl kz) ?_
  show own_Go p.tables e below _ s₁ (mkF m 1 #[.val (.ref a1)] [(.ref a1)])
  obtain ⟨T1, X1, e1, st1⟩ := initO X0 hx hZ hown (hw _ (List.mem_of_getElem? (i := 13) rfl)) (hw _ (List.mem_of_getElem? (i := 14) rfl)) (hw _ (List.mem_of_getElem? (i := 15) rfl)) e0 (g := (mkF m 1 #[.val (.ref a1)] [(.ref a1)])) rfl (by rw [hml]; rfl) rfl (hb hby d2_1) (by decide) (W := 0) (by show 2 * 0 + _ ≤ _; exact Nat.le_of_eq rfl) (by decide)
  refine own_go st1 ?_
  show own_Go p.tables e below _ T1 (mkF m 4 #[.val (.ref a1)] [])
  obtain ⟨fs, hr, hrun, hended, hW, hsame⟩ := X1.leave (v := none) (fun _ => rfl) (BodyLoose.notSynchronized Bd)
  refine ⟨_, _, ?_, hrun, hended, _, _, rfl, ?_, ⟨_, rfl⟩, hW, hsame.mono (by decide) (by decide)⟩
  · exact X1.returnOut hx Bd.returns (hb hby d2_4) hr
  · show Q2 Z a1 h0 n0 _ T1.heap _
    rw [e1]
    exact ⟨rfl, N0, rfl⟩
theorem d1_0 : decode prog_11_method_1_code 0 = .ok (.aload_n 0, 1) := by decide +kernel
theorem d1_1 : decode prog_11_method_1_code 1 = .ok (.invokespecial 3, 3) := by decide +kernel
theorem d1_4 : decode prog_11_method_1_code 4 = .ok (.aload_n 0, 1) := by decide +kernel
theorem d1_5 : decode prog_11_method_1_code 5 = .ok (.aload_n 1, 1) := by decide +kernel
theorem d1_6 : decode prog_11_method_1_code 6 = .ok (.putfield 9, 3) := by decide +kernel
theorem d1_9 : decode prog_11_method_1_code 9 = .ok (.aload_n 0, 1) := by decide +kernel
theorem d1_10 : decode prog_11_method_1_code 10 = .ok (.iload_n 2, 1) := by decide +kernel
theorem d1_11 : decode prog_11_method_1_code 11 = .ok (.putfield 15, 3) := by decide +kernel
theorem d1_14 : decode prog_11_method_1_code 14 = .ok (.return_, 1) := by decide +kernel
theorem pd_0 : parseMethodDescriptor "()V" = some ⟨[], none⟩ := by decide +kernel
theorem pn_1 : plainName "com/example/chalk_outline/chalkoutline/Placement" = true := by first | (simp [plainName, overriddenIn]; done) | decide +kernel
theorem ef_1 (m : MethodId) {a1 : Addr} {a2 : Addr} {p3 : Int32} : entryFrame m #[(.ref a1), (.ref a2), (.int p3)] 3 = mkF m 0 #[.val (.ref a1), .val (.ref a2), .val (.int p3)] [] := by first | (simp [entryFrame, mkF, argsToLocals, Value.category]; done) | rfl
def Q1 (Z : State) (a1 : Addr) (a2 : Addr) (p3 : Int32) (u_ranks : Value) (u_relevant : Value) (h0 : Heap) (n0 : Nat) (v : Option Value) (h : Heap) (L : List Loc) : Prop := v = none ∧ Fr n0 L ∧ Keep h0 h [a1] ∧ Exa Z h a1 "com/example/chalk_outline/chalkoutline/Placement" ∧ Fld Z h a1 "com/example/chalk_outline/chalkoutline/Placement" "ranks" "[I" (.ref a2) ∧ Fld Z h a1 "com/example/chalk_outline/chalkoutline/Placement" "relevant" "I" (.int p3)
set_option maxRecDepth 65536 in
set_option maxHeartbeats 40000000 in
theorem rm1 (l : Launch) (Z : State) (a0 : Array Value) (hw : ∀ d ∈ tables_1, d.before a0 Z = true) (ws : List Jvm.Cond) (a1 : Addr) (a2 : Addr) (p3 : Int32) (u_ranks : Value) (u_relevant : Value) (h0 : Heap) (n0 : Nat) (Z0 : n0 ≤ h0.size) (F_ranks : Fld Z h0 a1 "com/example/chalk_outline/chalkoutline/Placement" "ranks" "[I" u_ranks) (F_relevant : Fld Z h0 a1 "com/example/chalk_outline/chalkoutline/Placement" "relevant" "I" u_relevant) (Ex : Exa Z h0 a1 "com/example/chalk_outline/chalkoutline/Placement") (g : n0 ≤ a1) :
    MetFree l (⟨"com/example/chalk_outline/chalkoutline/Placement", "<init>", "([II)V"⟩ : MethodName) (head1 (Jvm.Cond.code (⟨"com/example/chalk_outline/chalkoutline/Placement", "<init>", "([II)V"⟩ : MethodName) prog_11_method_1_code 3 none :: ws) ({ frames := 2, cells := 0, slots := 0, locals := 24 } : Room)) (fun a U => a = #[(.ref a1), (.ref a2), (.int p3)] ∧ Z.Warmed39 U.vm ∧ U.heap = h0) (fun _ _ _ _ _ => True) (fun _ U oz U' => ∃ v L, oz = .returned v ∧ Q1 Z a1 a2 p3 u_ranks u_relevant h0 n0 v U'.heap L ∧ FrameEnd U oz U' L (({ frames := 2, cells := 0, slots := 0, locals := 24 } : Room)).cells (({ frames := 2, cells := 0, slots := 0, locals := 24 } : Room)).slots) := by
  refine MetFree.of_bodySF (plainFor_of_name pn_1) hisR ?_
  intro p e s m args below meth c s₁ Bd hml0 hP hK
  obtain ⟨rfl, hZ, hh⟩ := hP
  have hx := Bd.exec
  have hby := Bd.bytes
  have hml : c.maxLocals = 3 := hml0
  have hown : s.vm.findClass "com/example/chalk_outline/chalkoutline/Placement" = some m.cls := findClass_of_methodNamed Bd.named
  have hnm := (name_of_methodNamed Bd.named Bd.method).1
  have X0 : Stand p l e ({ frames := 2, cells := 0, slots := 0, locals := 24 } : Room) s m #[(.ref a1), (.ref a2), (.int p3)] below meth c s₁ [] 0 0 := Stand.of_body Bd
  have e0 : s₁.heap = h0 := by rw [← hh, Bd.state]; rfl
  have N0 := Fr.nil n0
  show own_Go p.tables e below (own_P s (Q1 Z a1 a2 p3 u_ranks u_relevant h0 n0) ({ frames := 2, cells := 0, slots := 0, locals := 24 } : Room).cells ({ frames := 2, cells := 0, slots := 0, locals := 24 } : Room).slots) s₁ _
  rw [ef_1]
  show own_Go p.tables e below _ s₁ (mkF m 0 #[.val (.ref a1), .val (.ref a2), .val (.int p3)] [])
  refine own_go (fun tz kz => XS.aloadN X0.here hx rfl (hb hby d1_0) rfl rfl kz) ?_
  show own_Go p.tables e below _ s₁ (mkF m 1 #[.val (.ref a1), .val (.ref a2), .val (.int p3)] [(.ref a1)])
  obtain ⟨_, _, ⟨T1, L1, k1, n1⟩, -, X1, ⟨Lc1, hQ1, l1, y1, z1⟩, st1⟩ := X0.specialBack hx (y := (⟨"java/lang/Record", "<init>", "()V"⟩ : MethodName)) rfl hown (mvT hZ (hw _ (List.mem_of_getElem? (i := 8) rfl))) (mvT hZ (hw _ (List.mem_of_getElem? (i := 9) rfl))) (mvT hZ (hw _ (List.mem_of_getElem? (i := 12) rfl))) (by decide) (backOf (W := 0) (rm2 l Z a0 hw [] a1 h0 n0 Z0) hZ (hw _ (List.mem_of_getElem? (i := 12) rfl)) (hw _ (List.mem_of_getElem? (i := 11) rfl)) (by decide) (by decide)) (g := (mkF m 1 #[.val (.ref a1), .val (.ref a2), .val (.int p3)] [(.ref a1)])) rfl (by rw [hml]; rfl) (Steps.refl _) (a := a1) (argsL := []) (rest := []) (lenOf pd_0 rfl) rfl (by show 2 * 0 + _ ≤ _; exact Nat.le_of_eq rfl) (hb hby d1_1) (fun _ _ => ⟨rfl, e0, (by decide : 0 + 0 ≤ _), (by decide : 0 + 0 ≤ _)⟩)
  dsimp only [Pt.U, Pt.locs, Pt.cells, Pt.slots] at X1 l1 y1 z1 st1 hQ1
  subst l1 y1 z1
  obtain ⟨rfl, N1q, e1⟩ := hQ1
  have N1 := Fr.app N0 N1q
  refine own_go (fun tz kz => st1.trans kz) ?_
  show own_Go p.tables e below _ T1 (mkF m 4 #[.val (.ref a1), .val (.ref a2), .val (.int p3)] [])
  refine own_go (fun tz kz => XS.aloadN X1.here hx rfl (hb hby d1_4) rfl rfl kz) ?_
  show own_Go p.tables e below _ T1 (mkF m 5 #[.val (.ref a1), .val (.ref a2), .val (.int p3)] [(.ref a1)])
  refine own_go (fun tz kz => XS.aloadN X1.here hx rfl (hb hby d1_5) rfl rfl kz) ?_
  show own_Go p.tables e below _ T1 (mkF m 6 #[.val (.ref a1), .val (.ref a2), .val (.int p3)] [(.ref a2), (.ref a1)])
  obtain ⟨T2, h2, X2, e2, W2, st2⟩ := putF X1 hx hZ hown (host := "") (Or.inl (hw _ (List.mem_of_getElem? (i := 16) rfl))) Via.refl e1 F_ranks Ex (Or.inr ⟨(hw _ (List.mem_of_getElem? (i := 17) rfl)), rfl, hnm⟩) (hw _ (List.mem_of_getElem? (i := 3) rfl)) (ty := (.array .int)) (by decide) rfl rfl (g := (mkF m 6 #[.val (.ref a1), .val (.ref a2), .val (.int p3)] [(.ref a2), (.ref a1)])) rfl rfl (hb hby d1_6)
  have Fw2 := F_ranks.same W2
  have N2 := Fr.snoc X2 N1 g
  refine own_go st2 ?_
  show own_Go p.tables e below _ T2 (mkF m 9 #[.val (.ref a1), .val (.ref a2), .val (.int p3)] [])
  refine own_go (fun tz kz => XS.aloadN X2.here hx rfl (hb hby d1_9) rfl rfl kz) ?_
  show own_Go p.tables e below _ T2 (mkF m 10 #[.val (.ref a1), .val (.ref a2), .val (.int p3)] [(.ref a1)])
  refine own_go (fun tz kz => XS.iloadN X2.here hx rfl (hb hby d1_10) rfl kz) ?_
  show own_Go p.tables e below _ T2 (mkF m 11 #[.val (.ref a1), .val (.ref a2), .val (.int p3)] [(.int p3), (.ref a1)])
  obtain ⟨T3, h3, X3, e3, W3, st3⟩ := putF X2 hx hZ hown (host := "") (Or.inl (hw _ (List.mem_of_getElem? (i := 18) rfl))) Via.refl e2 (F_relevant.other W2 (Or.inr (slot_ne (Or.inr (hw _ (List.mem_of_getElem? (i := 19) rfl))) (Or.inr (hw _ (List.mem_of_getElem? (i := 17) rfl))) (by decide) (t := .int) (t' := (.array .int)) (by decide) (by decide)))) (Ex.wr W2) (Or.inr ⟨(hw _ (List.mem_of_getElem? (i := 19) rfl)), rfl, hnm⟩) (hw _ (List.mem_of_getElem? (i := 3) rfl)) (ty := .int) (by decide) rfl rfl (g := (mkF m 11 #[.val (.ref a1), .val (.ref a2), .val (.int p3)] [(.int p3), (.ref a1)])) rfl rfl (hb hby d1_11)
  have Fw3 := (F_relevant.other W2 (Or.inr (slot_ne (Or.inr (hw _ (List.mem_of_getElem? (i := 19) rfl))) (Or.inr (hw _ (List.mem_of_getElem? (i := 17) rfl))) (by decide) (t := .int) (t' := (.array .int)) (by decide) (by decide)))).same W3
  have N3 := Fr.snoc X3 N2 g
  refine own_go st3 ?_
  show own_Go p.tables e below _ T3 (mkF m 14 #[.val (.ref a1), .val (.ref a2), .val (.int p3)] [])
  obtain ⟨fs, hr, hrun, hended, hW, hsame⟩ := X3.leave (v := none) (fun _ => rfl) (BodyLoose.notSynchronized Bd)
  refine ⟨_, _, ?_, hrun, hended, _, _, rfl, ?_, ⟨_, rfl⟩, hW, hsame.mono (by decide) (by decide)⟩
  · exact X3.returnOut hx Bd.returns (hb hby d1_14) hr
  · show Q1 Z a1 a2 p3 u_ranks u_relevant h0 n0 _ T3.heap _
    rw [e3]
    exact ⟨rfl, N3, (((Keep.refl _ _).wr W2 (Or.inl (List.mem_of_getElem? (i := 0) rfl))).wr W3 (Or.inl (List.mem_of_getElem? (i := 0) rfl))), ((Ex.wr W2).wr W3), (Fw2.other W3 (Or.inr (slot_ne (Or.inr (hw _ (List.mem_of_getElem? (i := 17) rfl))) (Or.inr (hw _ (List.mem_of_getElem? (i := 19) rfl))) (by decide) (t := (.array .int)) (t' := .int) (by decide) (by decide)))), Fw3⟩
theorem d5_0 : decode prog_11_method_4_code 0 = .ok (.iconst 0, 1) := by decide +kernel
theorem d5_1 : decode prog_11_method_4_code 1 = .ok (.istore_n 2, 1) := by decide +kernel
theorem d5_2 : decode prog_11_method_4_code 2 = .ok (.iload_n 2, 1) := by decide +kernel
theorem d5_3 : decode prog_11_method_4_code 3 = .ok (.aload_n 0, 1) := by decide +kernel
theorem d5_4 : decode prog_11_method_4_code 4 = .ok (.getfield 9, 3) := by decide +kernel
theorem d5_7 : decode prog_11_method_4_code 7 = .ok (.arraylength, 1) := by decide +kernel
theorem d5_8 : decode prog_11_method_4_code 8 = .ok (.if_icmp .ge 19, 3) := by decide +kernel
theorem d5_11 : decode prog_11_method_4_code 11 = .ok (.aload_n 0, 1) := by decide +kernel
theorem d5_12 : decode prog_11_method_4_code 12 = .ok (.getfield 9, 3) := by decide +kernel
theorem d5_15 : decode prog_11_method_4_code 15 = .ok (.iload_n 2, 1) := by decide +kernel
theorem d5_16 : decode prog_11_method_4_code 16 = .ok (.iaload, 1) := by decide +kernel
theorem d5_17 : decode prog_11_method_4_code 17 = .ok (.iload_n 1, 1) := by decide +kernel
theorem d5_18 : decode prog_11_method_4_code 18 = .ok (.if_icmp .gt 9, 3) := by decide +kernel
theorem d5_21 : decode prog_11_method_4_code 21 = .ok (.iinc 2 1, 3) := by decide +kernel
theorem d5_24 : decode prog_11_method_4_code 24 = .ok (.goto (-22), 3) := by decide +kernel
theorem d5_27 : decode prog_11_method_4_code 27 = .ok (.iload_n 2, 1) := by decide +kernel
theorem d5_28 : decode prog_11_method_4_code 28 = .ok (.ireturn, 1) := by decide +kernel
theorem ef_5 (m : MethodId) {a1 : Addr} {p2 : Int32} : entryFrame m #[(.ref a1), (.int p2)] 3 = mkF m 0 #[.val (.ref a1), .val (.int p2), .unset] [] := by first | (simp [entryFrame, mkF, argsToLocals, Value.category]; done) | rfl
def Q5 (Z : State) (a1 : Addr) (p2 : Int32) (r : Addr) (n : Nat) (g : Nat → Int32) (h0 : Heap) (n0 : Nat) (v : Option Value) (h : Heap) (L : List Loc) : Prop := v = some (.int (Int32.ofNat (own_fnd g p2 n 0))) ∧ Fr n0 L ∧ h = h0
set_option maxRecDepth 65536 in
set_option maxHeartbeats 40000000 in
theorem rm5 (l : Launch) (Z : State) (a0 : Array Value) (hw : ∀ d ∈ tables_1, d.before a0 Z = true) (ws : List Jvm.Cond) (a1 : Addr) (p2 : Int32) (r : Addr) (n : Nat) (g : Nat → Int32) (h0 : Heap) (n0 : Nat) (Z0 : n0 ≤ h0.size) (F : Fld Z h0 a1 "com/example/chalk_outline/chalkoutline/Placement" "ranks" "[I" (.ref r)) (Va : own_Av Z h0 r .int n (fun k => .int (g k))) (hn : n < 2 ^ 31) :
    MetFree l (⟨"com/example/chalk_outline/chalkoutline/Placement", "found", "(I)I"⟩ : MethodName) (head1 (Jvm.Cond.code (⟨"com/example/chalk_outline/chalkoutline/Placement", "found", "(I)I"⟩ : MethodName) prog_11_method_4_code 3 (some .int) :: ws) ({ frames := 0, cells := 0, slots := 0, locals := 0 } : Room)) (fun a U => a = #[(.ref a1), (.int p2)] ∧ Z.Warmed39 U.vm ∧ U.heap = h0) (fun _ _ _ _ _ => True) (fun _ U oz U' => ∃ v L, oz = .returned v ∧ Q5 Z a1 p2 r n g h0 n0 v U'.heap L ∧ FrameEnd U oz U' L (({ frames := 0, cells := 0, slots := 0, locals := 0 } : Room)).cells (({ frames := 0, cells := 0, slots := 0, locals := 0 } : Room)).slots) := by
  refine MetFree.of_bodySF (plainFor_of_name pn_1) hisR ?_
  intro p e s m args below meth c s₁ Bd hml0 hP hK
  obtain ⟨rfl, hZ, hh⟩ := hP
  have hx := Bd.exec
  have hby := Bd.bytes
  have hml : c.maxLocals = 3 := hml0
  have hown : s.vm.findClass "com/example/chalk_outline/chalkoutline/Placement" = some m.cls := findClass_of_methodNamed Bd.named
  have hnm := (name_of_methodNamed Bd.named Bd.method).1
  have X0 : Stand p l e ({ frames := 0, cells := 0, slots := 0, locals := 0 } : Room) s m #[(.ref a1), (.int p2)] below meth c s₁ [] 0 0 := Stand.of_body Bd
  have e0 : s₁.heap = h0 := by rw [← hh, Bd.state]; rfl
  have N0 := Fr.nil n0
  show own_Go p.tables e below (own_P s (Q5 Z a1 p2 r n g h0 n0) ({ frames := 0, cells := 0, slots := 0, locals := 0 } : Room).cells ({ frames := 0, cells := 0, slots := 0, locals := 0 } : Room).slots) s₁ _
  rw [ef_5]
  show own_Go p.tables e below _ s₁ (mkF m 0 #[.val (.ref a1), .val (.int p2), .unset] [])
  refine own_go (fun tz kz => XS.iconst X0.here hx rfl (hb hby d5_0) kz) ?_
  show own_Go p.tables e below _ s₁ (mkF m 1 #[.val (.ref a1), .val (.int p2), .unset] [(.int (0 : Int32))])
  refine own_go (fun tz kz => XS.istoreN X0.here hx rfl (hb hby d5_1) rfl (l' := #[.val (.ref a1), .val (.int p2), .val (.int (0 : Int32))]) rfl kz) ?_
  show own_Go p.tables e below _ s₁ (mkF m 2 #[.val (.ref a1), .val (.int p2), .val (.int (0 : Int32))] [])
  have loop : ∀ (k i : Nat) (Tqq : State), i + k = n → own_fnd g p2 k i = own_fnd g p2 n 0 → Stand p l e ({ frames := 0, cells := 0, slots := 0, locals := 0 } : Room) s m #[(.ref a1), (.int p2)] below meth c Tqq [] 0 0 → Tqq.heap = h0 → own_Go p.tables e below (own_P s (Q5 Z a1 p2 r n g h0 n0) ({ frames := 0, cells := 0, slots := 0, locals := 0 } : Room).cells ({ frames := 0, cells := 0, slots := 0, locals := 0 } : Room).slots) Tqq (mkF m 2 #[.val (.ref a1), .val (.int p2), .val (.int (Int32.ofNat i))] []) := by
    intro k
    induction k with
    | zero =>
      intro i Tqq hi hf Xqq eqq
      obtain rfl : n = i := by omega
      show own_Go p.tables e below _ Tqq (mkF m 2 #[.val (.ref a1), .val (.int p2), .val (.int (Int32.ofNat n))] [])
      refine own_go (fun tz kz => XS.iloadN Xqq.here hx rfl (hb hby d5_2) rfl kz) ?_
      show own_Go p.tables e below _ Tqq (mkF m 3 #[.val (.ref a1), .val (.int p2), .val (.int (Int32.ofNat n))] [(.int (Int32.ofNat n))])
      refine own_go (fun tz kz => XS.aloadN Xqq.here hx rfl (hb hby d5_3) rfl rfl kz) ?_
      show own_Go p.tables e below _ Tqq (mkF m 4 #[.val (.ref a1), .val (.int p2), .val (.int (Int32.ofNat n))] [(.ref a1), (.int (Int32.ofNat n))])
      obtain ⟨T1, X1, e1, st1⟩ := getF Xqq hx hZ hown (host := "") (Or.inl (hw _ (List.mem_of_getElem? (i := 16) rfl))) Via.refl eqq F (g := (mkF m 4 #[.val (.ref a1), .val (.int p2), .val (.int (Int32.ofNat n))] [(.ref a1), (.int (Int32.ofNat n))])) rfl rfl (hb hby d5_4)
      refine own_go st1 ?_
      show own_Go p.tables e below _ T1 (mkF m 7 #[.val (.ref a1), .val (.int p2), .val (.int (Int32.ofNat n))] [(.ref r), (.int (Int32.ofNat n))])
      obtain ⟨c2, Ar2, Sz2, Ge2⟩ := id (Va)
      refine own_go (fun tz kz => X1.arraylength hx (by rw [e1]; exact Ar2.1) (State.isArrayOf_alike hZ.alike Ar2.2.1) (g := (mkF m 7 #[.val (.ref a1), .val (.int p2), .val (.int (Int32.ofNat n))] [(.ref r), (.int (Int32.ofNat n))])) rfl rfl (hb hby d5_7) tz kz) ?_
      rw [Sz2]
      show own_Go p.tables e below _ T1 (mkF m 8 #[.val (.ref a1), .val (.int p2), .val (.int (Int32.ofNat n))] [(.int (Int32.ofNat n)), (.int (Int32.ofNat n))])
      refine own_go (fun tz kz => XS.icmpYes X1.here hx rfl (pc0 := 8) (pc' := 27) rfl (hb hby d5_8) rfl (XT.ii_ge_t (fun q => absurd ((own_ltn hn hn).mp q) (Nat.lt_irrefl _))) (by decide) (by decide) kz) ?_
      show own_Go p.tables e below _ T1 (mkF m 27 #[.val (.ref a1), .val (.int p2), .val (.int (Int32.ofNat n))] [])
      refine own_go (fun tz kz => XS.iloadN X1.here hx rfl (hb hby d5_27) rfl kz) ?_
      show own_Go p.tables e below _ T1 (mkF m 28 #[.val (.ref a1), .val (.int p2), .val (.int (Int32.ofNat n))] [(.int (Int32.ofNat n))])
      obtain ⟨fs, hr, hrun, hended, hW, hsame⟩ := X1.leave (v := some (.int (Int32.ofNat n))) (fun h => by rw [Bd.returns] at h; cases h) (BodyLoose.notSynchronized Bd)
      refine ⟨_, _, ?_, hrun, hended, _, _, rfl, ?_, ⟨_, rfl⟩, hW, hsame.mono (by decide) (by decide)⟩
      · exact retI X1 hx Bd.returns (hb hby d5_28) hr
      · show Q5 Z a1 p2 r n g h0 n0 _ T1.heap _
        rw [e1]
        exact ⟨congrArg (fun z => some (Value.int (Int32.ofNat z))) (hf), N0, rfl⟩
    | succ k ih =>
      intro i Tqq hi hf Xqq eqq
      show own_Go p.tables e below _ Tqq (mkF m 2 #[.val (.ref a1), .val (.int p2), .val (.int (Int32.ofNat i))] [])
      refine own_go (fun tz kz => XS.iloadN Xqq.here hx rfl (hb hby d5_2) rfl kz) ?_
      show own_Go p.tables e below _ Tqq (mkF m 3 #[.val (.ref a1), .val (.int p2), .val (.int (Int32.ofNat i))] [(.int (Int32.ofNat i))])
      refine own_go (fun tz kz => XS.aloadN Xqq.here hx rfl (hb hby d5_3) rfl rfl kz) ?_
      show own_Go p.tables e below _ Tqq (mkF m 4 #[.val (.ref a1), .val (.int p2), .val (.int (Int32.ofNat i))] [(.ref a1), (.int (Int32.ofNat i))])
      obtain ⟨T3, X3, e3, st3⟩ := getF Xqq hx hZ hown (host := "") (Or.inl (hw _ (List.mem_of_getElem? (i := 16) rfl))) Via.refl eqq F (g := (mkF m 4 #[.val (.ref a1), .val (.int p2), .val (.int (Int32.ofNat i))] [(.ref a1), (.int (Int32.ofNat i))])) rfl rfl (hb hby d5_4)
      refine own_go st3 ?_
      show own_Go p.tables e below _ T3 (mkF m 7 #[.val (.ref a1), .val (.int p2), .val (.int (Int32.ofNat i))] [(.ref r), (.int (Int32.ofNat i))])
      obtain ⟨c4, Ar4, Sz4, Ge4⟩ := id (Va)
      refine own_go (fun tz kz => X3.arraylength hx (by rw [e3]; exact Ar4.1) (State.isArrayOf_alike hZ.alike Ar4.2.1) (g := (mkF m 7 #[.val (.ref a1), .val (.int p2), .val (.int (Int32.ofNat i))] [(.ref r), (.int (Int32.ofNat i))])) rfl rfl (hb hby d5_7) tz kz) ?_
      rw [Sz4]
      show own_Go p.tables e below _ T3 (mkF m 8 #[.val (.ref a1), .val (.int p2), .val (.int (Int32.ofNat i))] [(.int (Int32.ofNat n)), (.int (Int32.ofNat i))])
      refine own_go (fun tz kz => XS.icmpNo X3.here hx rfl (hb hby d5_8) rfl (XT.ii_ge_f ((own_ltn (by omega) hn).mpr (by omega))) kz) ?_
      show own_Go p.tables e below _ T3 (mkF m 11 #[.val (.ref a1), .val (.int p2), .val (.int (Int32.ofNat i))] [])
      refine own_go (fun tz kz => XS.aloadN X3.here hx rfl (hb hby d5_11) rfl rfl kz) ?_
      show own_Go p.tables e below _ T3 (mkF m 12 #[.val (.ref a1), .val (.int p2), .val (.int (Int32.ofNat i))] [(.ref a1)])
      obtain ⟨T5, X5, e5, st5⟩ := getF X3 hx hZ hown (host := "") (Or.inl (hw _ (List.mem_of_getElem? (i := 16) rfl))) Via.refl e3 F (g := (mkF m 12 #[.val (.ref a1), .val (.int p2), .val (.int (Int32.ofNat i))] [(.ref a1)])) rfl rfl (hb hby d5_12)
      refine own_go st5 ?_
      show own_Go p.tables e below _ T5 (mkF m 15 #[.val (.ref a1), .val (.int p2), .val (.int (Int32.ofNat i))] [(.ref r)])
      refine own_go (fun tz kz => XS.iloadN X5.here hx rfl (hb hby d5_15) rfl kz) ?_
      show own_Go p.tables e below _ T5 (mkF m 16 #[.val (.ref a1), .val (.int p2), .val (.int (Int32.ofNat i))] [(.int (Int32.ofNat i)), (.ref r)])
      obtain ⟨c6, Ar6, Sz6, Ge6⟩ := id (Va)
      refine own_go (fun tz kz => X5.iaload hx (j := (Int32.ofNat i)) (v := (.int (g i))) (by rw [e5]; exact Ar6.1) (State.isArrayOf_alike hZ.alike Ar6.2.1) Ar6.2.2 (own_inb Sz6 (own_nat (i := i) (by omega)) (by omega)) (own_at Ge6 (own_nat (i := i) (by omega)) (by omega) rfl) (g := (mkF m 16 #[.val (.ref a1), .val (.int p2), .val (.int (Int32.ofNat i))] [(.int (Int32.ofNat i)), (.ref r)])) rfl rfl (hb hby d5_16) tz kz) ?_
      show own_Go p.tables e below _ T5 (mkF m 17 #[.val (.ref a1), .val (.int p2), .val (.int (Int32.ofNat i))] [(.int (g i))])
      refine own_go (fun tz kz => XS.iloadN X5.here hx rfl (hb hby d5_17) rfl kz) ?_
      show own_Go p.tables e below _ T5 (mkF m 18 #[.val (.ref a1), .val (.int p2), .val (.int (Int32.ofNat i))] [(.int p2), (.int (g i))])
      by_cases hc : p2 < (g i)
      ·
        refine own_go (fun tz kz => XS.icmpYes X5.here hx rfl (pc0 := 18) (pc' := 27) rfl (hb hby d5_18) rfl (XT.ii_gt_t hc) (by decide) (by decide) kz) ?_
        show own_Go p.tables e below _ T5 (mkF m 27 #[.val (.ref a1), .val (.int p2), .val (.int (Int32.ofNat i))] [])
        refine own_go (fun tz kz => XS.iloadN X5.here hx rfl (hb hby d5_27) rfl kz) ?_
        show own_Go p.tables e below _ T5 (mkF m 28 #[.val (.ref a1), .val (.int p2), .val (.int (Int32.ofNat i))] [(.int (Int32.ofNat i))])
        obtain ⟨fs, hr, hrun, hended, hW, hsame⟩ := X5.leave (v := some (.int (Int32.ofNat i))) (fun h => by rw [Bd.returns] at h; cases h) (BodyLoose.notSynchronized Bd)
        refine ⟨_, _, ?_, hrun, hended, _, _, rfl, ?_, ⟨_, rfl⟩, hW, hsame.mono (by decide) (by decide)⟩
        · exact retI X5 hx Bd.returns (hb hby d5_28) hr
        · show Q5 Z a1 p2 r n g h0 n0 _ T5.heap _
          rw [e5]
          exact ⟨congrArg (fun z => some (Value.int (Int32.ofNat z))) ((if_pos hc).symm.trans hf), N0, rfl⟩
      ·
        refine own_go (fun tz kz => XS.icmpNo X5.here hx rfl (hb hby d5_18) rfl (XT.ii_gt_f hc) kz) ?_
        show own_Go p.tables e below _ T5 (mkF m 21 #[.val (.ref a1), .val (.int p2), .val (.int (Int32.ofNat i))] [])
        refine own_go (fun tz kz => XS.iinc X5.here hx rfl (hb hby d5_21) rfl (l' := #[.val (.ref a1), .val (.int p2), .val (.int ((Int32.ofNat i) + (1 : Int32)))]) rfl kz) ?_
        show own_Go p.tables e below _ T5 (mkF m 24 #[.val (.ref a1), .val (.int p2), .val (.int ((Int32.ofNat i) + (1 : Int32)))] [])
        rw [show ((Int32.ofNat i) + (1 : Int32)) = (Int32.ofNat (i + 1)) from own_succ i]
        show own_Go p.tables e below _ T5 (mkF m 24 #[.val (.ref a1), .val (.int p2), .val (.int (Int32.ofNat (i + 1)))] [])
        refine own_go (fun tz kz => XS.goto X5.here hx rfl (pc0 := 24) (pc' := 2) rfl (hb hby d5_24) (by decide) (by decide) kz) ?_
        show own_Go p.tables e below _ T5 (mkF m 2 #[.val (.ref a1), .val (.int p2), .val (.int (Int32.ofNat (i + 1)))] [])
        exact ih (i + 1) _ (by omega) ((if_neg hc).symm.trans hf) X5 e5
  exact loop n 0 _ (by omega) rfl X0 e0
theorem d4_0 : decode prog_11_method_5_code 0 = .ok (.dconst 0, 1) := by decide +kernel
theorem d4_1 : decode prog_11_method_5_code 1 = .ok (.dstore_n 2, 1) := by decide +kernel
theorem d4_2 : decode prog_11_method_5_code 2 = .ok (.aload_n 0, 1) := by decide +kernel
theorem d4_3 : decode prog_11_method_5_code 3 = .ok (.iload_n 1, 1) := by decide +kernel
theorem d4_4 : decode prog_11_method_5_code 4 = .ok (.invokevirtual 45, 3) := by decide +kernel
theorem d4_7 : decode prog_11_method_5_code 7 = .ok (.istore 4, 2) := by decide +kernel
theorem d4_9 : decode prog_11_method_5_code 9 = .ok (.iconst 0, 1) := by decide +kernel
theorem d4_10 : decode prog_11_method_5_code 10 = .ok (.istore 5, 2) := by decide +kernel
theorem d4_12 : decode prog_11_method_5_code 12 = .ok (.iload 5, 2) := by decide +kernel
theorem d4_14 : decode prog_11_method_5_code 14 = .ok (.iload 4, 2) := by decide +kernel
theorem d4_16 : decode prog_11_method_5_code 16 = .ok (.if_icmp .ge 26, 3) := by decide +kernel
theorem d4_19 : decode prog_11_method_5_code 19 = .ok (.dload_n 2, 1) := by decide +kernel
theorem d4_20 : decode prog_11_method_5_code 20 = .ok (.iload 5, 2) := by decide +kernel
theorem d4_22 : decode prog_11_method_5_code 22 = .ok (.iconst 1, 1) := by decide +kernel
theorem d4_23 : decode prog_11_method_5_code 23 = .ok (.iadd, 1) := by decide +kernel
theorem d4_24 : decode prog_11_method_5_code 24 = .ok (.i2d, 1) := by decide +kernel
theorem d4_25 : decode prog_11_method_5_code 25 = .ok (.aload_n 0, 1) := by decide +kernel
theorem d4_26 : decode prog_11_method_5_code 26 = .ok (.getfield 9, 3) := by decide +kernel
theorem d4_29 : decode prog_11_method_5_code 29 = .ok (.iload 5, 2) := by decide +kernel
theorem d4_31 : decode prog_11_method_5_code 31 = .ok (.iaload, 1) := by decide +kernel
theorem d4_32 : decode prog_11_method_5_code 32 = .ok (.i2d, 1) := by decide +kernel
theorem d4_33 : decode prog_11_method_5_code 33 = .ok (.ddiv, 1) := by decide +kernel
theorem d4_34 : decode prog_11_method_5_code 34 = .ok (.dadd, 1) := by decide +kernel
theorem d4_35 : decode prog_11_method_5_code 35 = .ok (.dstore_n 2, 1) := by decide +kernel
theorem d4_36 : decode prog_11_method_5_code 36 = .ok (.iinc 5 1, 3) := by decide +kernel
theorem d4_39 : decode prog_11_method_5_code 39 = .ok (.goto (-27), 3) := by decide +kernel
theorem d4_42 : decode prog_11_method_5_code 42 = .ok (.aload_n 0, 1) := by decide +kernel
theorem d4_43 : decode prog_11_method_5_code 43 = .ok (.getfield 15, 3) := by decide +kernel
theorem d4_46 : decode prog_11_method_5_code 46 = .ok (.ifCond .ne 7, 3) := by decide +kernel
theorem d4_49 : decode prog_11_method_5_code 49 = .ok (.dconst 0, 1) := by decide +kernel
theorem d4_50 : decode prog_11_method_5_code 50 = .ok (.goto 10, 3) := by decide +kernel
theorem d4_53 : decode prog_11_method_5_code 53 = .ok (.dload_n 2, 1) := by decide +kernel
theorem d4_54 : decode prog_11_method_5_code 54 = .ok (.aload_n 0, 1) := by decide +kernel
theorem d4_55 : decode prog_11_method_5_code 55 = .ok (.getfield 15, 3) := by decide +kernel
theorem d4_58 : decode prog_11_method_5_code 58 = .ok (.i2d, 1) := by decide +kernel
theorem d4_59 : decode prog_11_method_5_code 59 = .ok (.ddiv, 1) := by decide +kernel
theorem d4_60 : decode prog_11_method_5_code 60 = .ok (.dreturn, 1) := by decide +kernel
theorem pd_1 : parseMethodDescriptor "(I)I" = some ⟨[.int], some .int⟩ := by decide +kernel
theorem ef_4 (m : MethodId) {a1 : Addr} {p2 : Int32} : entryFrame m #[(.ref a1), (.int p2)] 6 = mkF m 0 #[.val (.ref a1), .val (.int p2), .unset, .unset, .unset, .unset] [] := by first | (simp [entryFrame, mkF, argsToLocals, Value.category]; done) | rfl
def Q4 (Z : State) (a1 : Addr) (p2 : Int32) (r : Addr) (n : Nat) (g : Nat → Int32) (rel : Int32) (h0 : Heap) (n0 : Nat) (v : Option Value) (h : Heap) (L : List Loc) : Prop := v = some (.double (own_ap g (own_fnd g p2 n 0) rel)) ∧ Fr n0 L ∧ h = h0
set_option maxRecDepth 65536 in
set_option maxHeartbeats 40000000 in
theorem rm4 (l : Launch) (Z : State) (a0 : Array Value) (hw : ∀ d ∈ tables_1, d.before a0 Z = true) (ws : List Jvm.Cond) (a1 : Addr) (p2 : Int32) (r : Addr) (n : Nat) (g : Nat → Int32) (rel : Int32) (h0 : Heap) (n0 : Nat) (Z0 : n0 ≤ h0.size) (F : Fld Z h0 a1 "com/example/chalk_outline/chalkoutline/Placement" "ranks" "[I" (.ref r)) (Fe : Fld Z h0 a1 "com/example/chalk_outline/chalkoutline/Placement" "relevant" "I" (.int rel)) (Ex : Exa Z h0 a1 "com/example/chalk_outline/chalkoutline/Placement") (Va : own_Av Z h0 r .int n (fun k => .int (g k))) (hn : n < 4) (hg : ∀ k, k < n → g k ≠ 0) :
    MetFree l (⟨"com/example/chalk_outline/chalkoutline/Placement", "averagePrecision", "(I)D"⟩ : MethodName) (head1 (Jvm.Cond.code (⟨"com/example/chalk_outline/chalkoutline/Placement", "averagePrecision", "(I)D"⟩ : MethodName) prog_11_method_5_code 6 (some .double) :: ws) ({ frames := 1, cells := 0, slots := 0, locals := 14 } : Room)) (fun a U => a = #[(.ref a1), (.int p2)] ∧ Z.Warmed39 U.vm ∧ U.heap = h0) (fun _ _ _ _ _ => True) (fun _ U oz U' => ∃ v L, oz = .returned v ∧ Q4 Z a1 p2 r n g rel h0 n0 v U'.heap L ∧ FrameEnd U oz U' L (({ frames := 1, cells := 0, slots := 0, locals := 14 } : Room)).cells (({ frames := 1, cells := 0, slots := 0, locals := 14 } : Room)).slots) := by
  refine MetFree.of_bodySF (plainFor_of_name pn_1) hisR ?_
  intro p e s m args below meth c s₁ Bd hml0 hP hK
  obtain ⟨rfl, hZ, hh⟩ := hP
  have hx := Bd.exec
  have hby := Bd.bytes
  have hml : c.maxLocals = 6 := hml0
  have hown : s.vm.findClass "com/example/chalk_outline/chalkoutline/Placement" = some m.cls := findClass_of_methodNamed Bd.named
  have hnm := (name_of_methodNamed Bd.named Bd.method).1
  have X0 : Stand p l e ({ frames := 1, cells := 0, slots := 0, locals := 14 } : Room) s m #[(.ref a1), (.int p2)] below meth c s₁ [] 0 0 := Stand.of_body Bd
  have e0 : s₁.heap = h0 := by rw [← hh, Bd.state]; rfl
  have N0 := Fr.nil n0
  show own_Go p.tables e below (own_P s (Q4 Z a1 p2 r n g rel h0 n0) ({ frames := 1, cells := 0, slots := 0, locals := 14 } : Room).cells ({ frames := 1, cells := 0, slots := 0, locals := 14 } : Room).slots) s₁ _
  rw [ef_4]
  show own_Go p.tables e below _ s₁ (mkF m 0 #[.val (.ref a1), .val (.int p2), .unset, .unset, .unset, .unset] [])
  refine own_go (fun tz kz => XS.dconst0 X0.here hx rfl (hb hby d4_0) rfl kz) ?_
  show own_Go p.tables e below _ s₁ (mkF m 1 #[.val (.ref a1), .val (.int p2), .unset, .unset, .unset, .unset] [(.double FP.dconst0)])
  refine own_go (fun tz kz => XS.dstoreN X0.here hx rfl (hb hby d4_1) rfl (l' := #[.val (.ref a1), .val (.int p2), .val (.double FP.dconst0), .second, .unset, .unset]) rfl kz) ?_
  show own_Go p.tables e below _ s₁ (mkF m 2 #[.val (.ref a1), .val (.int p2), .val (.double FP.dconst0), .second, .unset, .unset] [])
  refine own_go (fun tz kz => XS.aloadN X0.here hx rfl (hb hby d4_2) rfl rfl kz) ?_
  show own_Go p.tables e below _ s₁ (mkF m 3 #[.val (.ref a1), .val (.int p2), .val (.double FP.dconst0), .second, .unset, .unset] [(.ref a1)])
  refine own_go (fun tz kz => XS.iloadN X0.here hx rfl (hb hby d4_3) rfl kz) ?_
  show own_Go p.tables e below _ s₁ (mkF m 4 #[.val (.ref a1), .val (.int p2), .val (.double FP.dconst0), .second, .unset, .unset] [(.int p2), (.ref a1)])
  obtain ⟨cq1, kq1, q1a, q1b, q1c⟩ := isOf hZ e0 Ex
  obtain ⟨_, _, ⟨T1, L1, k1, n1⟩, -, X1, ⟨Lc1, hQ1, l1, y1, z1⟩, st1⟩ := X0.virtualBack hx (y := (⟨"com/example/chalk_outline/chalkoutline/Placement", "found", "(I)I"⟩ : MethodName)) (z := (⟨"com/example/chalk_outline/chalkoutline/Placement", "found", "(I)I"⟩ : MethodName)) hown (mvT hZ (hw _ (List.mem_of_getElem? (i := 25) rfl))) (mvT hZ (hw _ (List.mem_of_getElem? (i := 26) rfl))) (notFace_of_selects (args := #[]) (mvT hZ (hw _ (List.mem_of_getElem? (i := 28) rfl)))) (mvT hZ (hw _ (List.mem_of_getElem? (i := 28) rfl))) (mvT hZ (hw _ (List.mem_of_getElem? (i := 27) rfl))) (by decide) (backOf (W := 0) (rm5 l Z a0 hw [] a1 p2 r n g h0 n0 Z0 F Va (by omega)) hZ (hw _ (List.mem_of_getElem? (i := 29) rfl)) (hw _ (List.mem_of_getElem? (i := 4) rfl)) (by decide) (by decide)) q1a q1c (g := (mkF m 4 #[.val (.ref a1), .val (.int p2), .val (.double FP.dconst0), .second, .unset, .unset] [(.int p2), (.ref a1)])) rfl (by rw [hml]; rfl) (Steps.refl _) (argsL := [(.int p2)]) (rest := []) (lenOf pd_1 rfl) rfl (by show 2 * 0 + _ ≤ _; exact Nat.le_of_eq rfl) (hb hby d4_4) (fun _ _ => ⟨rfl, e0, (by decide : 0 + 0 ≤ _), (by decide : 0 + 0 ≤ _)⟩)
  dsimp only [Pt.U, Pt.locs, Pt.cells, Pt.slots] at X1 l1 y1 z1 st1 hQ1
  subst l1 y1 z1
  obtain ⟨rfl, N1q, e1⟩ := hQ1
  have N1 := Fr.app N0 N1q
  refine own_go (fun tz kz => st1.trans kz) ?_
  show own_Go p.tables e below _ T1 (mkF m 7 #[.val (.ref a1), .val (.int p2), .val (.double FP.dconst0), .second, .unset, .unset] [(.int (Int32.ofNat (own_fnd g p2 n 0)))])
  have hF : own_fnd g p2 n 0 ≤ n := Nat.le_trans (own_fnd_le g p2 n 0) (by omega)
  obtain ⟨F0, eF⟩ : ∃ z, z = own_fnd g p2 n 0 := ⟨_, rfl⟩
  rw [← eF] at hF ⊢
  show own_Go p.tables e below _ T1 (mkF m 7 #[.val (.ref a1), .val (.int p2), .val (.double FP.dconst0), .second, .unset, .unset] [(.int (Int32.ofNat F0))])
  refine own_go (fun tz kz => XS.istore X1.here hx rfl (hb hby d4_7) rfl (l' := #[.val (.ref a1), .val (.int p2), .val (.double FP.dconst0), .second, .val (.int (Int32.ofNat F0)), .unset]) rfl kz) ?_
  show own_Go p.tables e below _ T1 (mkF m 9 #[.val (.ref a1), .val (.int p2), .val (.double FP.dconst0), .second, .val (.int (Int32.ofNat F0)), .unset] [])
  refine own_go (fun tz kz => XS.iconst X1.here hx rfl (hb hby d4_9) kz) ?_
  show own_Go p.tables e below _ T1 (mkF m 10 #[.val (.ref a1), .val (.int p2), .val (.double FP.dconst0), .second, .val (.int (Int32.ofNat F0)), .unset] [(.int (0 : Int32))])
  refine own_go (fun tz kz => XS.istore X1.here hx rfl (hb hby d4_10) rfl (l' := #[.val (.ref a1), .val (.int p2), .val (.double FP.dconst0), .second, .val (.int (Int32.ofNat F0)), .val (.int (0 : Int32))]) rfl kz) ?_
  show own_Go p.tables e below _ T1 (mkF m 12 #[.val (.ref a1), .val (.int p2), .val (.double FP.dconst0), .second, .val (.int (Int32.ofNat F0)), .val (.int (0 : Int32))] [])
  have loop : ∀ (k i : Nat) (Tqq : State) (lqq : List Loc), i + k = F0 → Stand p l e ({ frames := 1, cells := 0, slots := 0, locals := 14 } : Room) s m #[(.ref a1), (.int p2)] below meth c Tqq lqq 0 0 → Tqq.heap = h0 → Fr n0 lqq → own_Go p.tables e below (own_P s (Q4 Z a1 p2 r n g rel h0 n0) ({ frames := 1, cells := 0, slots := 0, locals := 14 } : Room).cells ({ frames := 1, cells := 0, slots := 0, locals := 14 } : Room).slots) Tqq (mkF m 12 #[.val (.ref a1), .val (.int p2), .val (.double (own_s g i)), .second, .val (.int (Int32.ofNat F0)), .val (.int (Int32.ofNat i))] []) := by
    intro k
    induction k with
    | zero =>
      intro i Tqq lqq hi Xqq eqq Nqq
      obtain rfl : F0 = i := by omega
      show own_Go p.tables e below _ Tqq (mkF m 12 #[.val (.ref a1), .val (.int p2), .val (.double (own_s g F0)), .second, .val (.int (Int32.ofNat F0)), .val (.int (Int32.ofNat F0))] [])
      refine own_go (fun tz kz => XS.iload Xqq.here hx rfl (hb hby d4_12) rfl kz) ?_
      show own_Go p.tables e below _ Tqq (mkF m 14 #[.val (.ref a1), .val (.int p2), .val (.double (own_s g F0)), .second, .val (.int (Int32.ofNat F0)), .val (.int (Int32.ofNat F0))] [(.int (Int32.ofNat F0))])
      refine own_go (fun tz kz => XS.iload Xqq.here hx rfl (hb hby d4_14) rfl kz) ?_
      show own_Go p.tables e below _ Tqq (mkF m 16 #[.val (.ref a1), .val (.int p2), .val (.double (own_s g F0)), .second, .val (.int (Int32.ofNat F0)), .val (.int (Int32.ofNat F0))] [(.int (Int32.ofNat F0)), (.int (Int32.ofNat F0))])
      refine own_go (fun tz kz => XS.icmpYes Xqq.here hx rfl (pc0 := 16) (pc' := 42) rfl (hb hby d4_16) rfl (XT.ii_ge_t (fun q => absurd ((own_ltn (by omega) (by omega)).mp q) (Nat.lt_irrefl _))) (by decide) (by decide) kz) ?_
      show own_Go p.tables e below _ Tqq (mkF m 42 #[.val (.ref a1), .val (.int p2), .val (.double (own_s g F0)), .second, .val (.int (Int32.ofNat F0)), .val (.int (Int32.ofNat F0))] [])
      refine own_go (fun tz kz => XS.aloadN Xqq.here hx rfl (hb hby d4_42) rfl rfl kz) ?_
      show own_Go p.tables e below _ Tqq (mkF m 43 #[.val (.ref a1), .val (.int p2), .val (.double (own_s g F0)), .second, .val (.int (Int32.ofNat F0)), .val (.int (Int32.ofNat F0))] [(.ref a1)])
      obtain ⟨T2, X2, e2, st2⟩ := getF Xqq hx hZ hown (host := "") (Or.inl (hw _ (List.mem_of_getElem? (i := 18) rfl))) Via.refl eqq Fe (g := (mkF m 43 #[.val (.ref a1), .val (.int p2), .val (.double (own_s g F0)), .second, .val (.int (Int32.ofNat F0)), .val (.int (Int32.ofNat F0))] [(.ref a1)])) rfl rfl (hb hby d4_43)
      refine own_go st2 ?_
      show own_Go p.tables e below _ T2 (mkF m 46 #[.val (.ref a1), .val (.int p2), .val (.double (own_s g F0)), .second, .val (.int (Int32.ofNat F0)), .val (.int (Int32.ofNat F0))] [(.int rel)])
      by_cases hr0 : rel = (0 : Int32)
      ·
        refine own_go (fun tz kz => XS.ifNo X2.here hx rfl (hb hby d4_46) rfl (XT.i0_ne_f hr0) kz) ?_
        show own_Go p.tables e below _ T2 (mkF m 49 #[.val (.ref a1), .val (.int p2), .val (.double (own_s g F0)), .second, .val (.int (Int32.ofNat F0)), .val (.int (Int32.ofNat F0))] [])
        refine own_go (fun tz kz => XS.dconst0 X2.here hx rfl (hb hby d4_49) rfl kz) ?_
        show own_Go p.tables e below _ T2 (mkF m 50 #[.val (.ref a1), .val (.int p2), .val (.double (own_s g F0)), .second, .val (.int (Int32.ofNat F0)), .val (.int (Int32.ofNat F0))] [(.double FP.dconst0)])
        refine own_go (fun tz kz => XS.goto X2.here hx rfl (pc0 := 50) (pc' := 60) rfl (hb hby d4_50) (by decide) (by decide) kz) ?_
        show own_Go p.tables e below _ T2 (mkF m 60 #[.val (.ref a1), .val (.int p2), .val (.double (own_s g F0)), .second, .val (.int (Int32.ofNat F0)), .val (.int (Int32.ofNat F0))] [(.double FP.dconst0)])
        obtain ⟨fs, hr, hrun, hended, hW, hsame⟩ := X2.leave (v := some (.double FP.dconst0)) (fun h => by rw [Bd.returns] at h; cases h) (BodyLoose.notSynchronized Bd)
        refine ⟨_, _, ?_, hrun, hended, _, _, rfl, ?_, ⟨_, rfl⟩, hW, hsame.mono (by decide) (by decide)⟩
        · exact retOut X2 hx Bd.returns rfl (Or.inr (Or.inr (Or.inl ⟨rfl, rfl, _, rfl⟩))) (hb hby d4_60) hr
        · show Q4 Z a1 p2 r n g rel h0 n0 _ T2.heap _
          rw [e2]
          exact ⟨congrArg (fun z => some (Value.double z)) (by rw [← eF]; exact (if_pos hr0).symm), Nqq, rfl⟩
      ·
        refine own_go (fun tz kz => XS.ifYes X2.here hx rfl (pc0 := 46) (pc' := 53) rfl (hb hby d4_46) rfl (XT.i0_ne_t hr0) (by decide) (by decide) kz) ?_
        show own_Go p.tables e below _ T2 (mkF m 53 #[.val (.ref a1), .val (.int p2), .val (.double (own_s g F0)), .second, .val (.int (Int32.ofNat F0)), .val (.int (Int32.ofNat F0))] [])
        refine own_go (fun tz kz => XS.dloadN X2.here hx rfl (hb hby d4_53) rfl kz) ?_
        show own_Go p.tables e below _ T2 (mkF m 54 #[.val (.ref a1), .val (.int p2), .val (.double (own_s g F0)), .second, .val (.int (Int32.ofNat F0)), .val (.int (Int32.ofNat F0))] [(.double (own_s g F0))])
        refine own_go (fun tz kz => XS.aloadN X2.here hx rfl (hb hby d4_54) rfl rfl kz) ?_
        show own_Go p.tables e below _ T2 (mkF m 55 #[.val (.ref a1), .val (.int p2), .val (.double (own_s g F0)), .second, .val (.int (Int32.ofNat F0)), .val (.int (Int32.ofNat F0))] [(.ref a1), (.double (own_s g F0))])
        obtain ⟨T3, X3, e3, st3⟩ := getF X2 hx hZ hown (host := "") (Or.inl (hw _ (List.mem_of_getElem? (i := 18) rfl))) Via.refl e2 Fe (g := (mkF m 55 #[.val (.ref a1), .val (.int p2), .val (.double (own_s g F0)), .second, .val (.int (Int32.ofNat F0)), .val (.int (Int32.ofNat F0))] [(.ref a1), (.double (own_s g F0))])) rfl rfl (hb hby d4_55)
        refine own_go st3 ?_
        show own_Go p.tables e below _ T3 (mkF m 58 #[.val (.ref a1), .val (.int p2), .val (.double (own_s g F0)), .second, .val (.int (Int32.ofNat F0)), .val (.int (Int32.ofNat F0))] [(.int rel), (.double (own_s g F0))])
        refine own_go (fun tz kz => XS.i2dS X3.here hx rfl (hb hby d4_58) rfl rfl kz) ?_
        show own_Go p.tables e below _ T3 (mkF m 59 #[.val (.ref a1), .val (.int p2), .val (.double (own_s g F0)), .second, .val (.int (Int32.ofNat F0)), .val (.int (Int32.ofNat F0))] [(.double (FP.i2d rel)), (.double (own_s g F0))])
        refine own_go (fun tz kz => XS.ddivS X3.here hx rfl (hb hby d4_59) rfl (own_nr hg hF (by omega) hr0) rfl kz) ?_
        show own_Go p.tables e below _ T3 (mkF m 60 #[.val (.ref a1), .val (.int p2), .val (.double (own_s g F0)), .second, .val (.int (Int32.ofNat F0)), .val (.int (Int32.ofNat F0))] [(.double (FP.ddiv (own_s g F0) (FP.i2d rel)))])
        obtain ⟨fs, hr, hrun, hended, hW, hsame⟩ := X3.leave (v := some (.double (FP.ddiv (own_s g F0) (FP.i2d rel)))) (fun h => by rw [Bd.returns] at h; cases h) (BodyLoose.notSynchronized Bd)
        refine ⟨_, _, ?_, hrun, hended, _, _, rfl, ?_, ⟨_, rfl⟩, hW, hsame.mono (by decide) (by decide)⟩
        · exact retOut X3 hx Bd.returns rfl (Or.inr (Or.inr (Or.inl ⟨rfl, rfl, _, rfl⟩))) (hb hby d4_60) hr
        · show Q4 Z a1 p2 r n g rel h0 n0 _ T3.heap _
          rw [e3]
          exact ⟨congrArg (fun z => some (Value.double z)) (by rw [← eF]; exact (if_neg hr0).symm), Nqq, rfl⟩
    | succ k ih =>
      intro i Tqq lqq hi Xqq eqq Nqq
      show own_Go p.tables e below _ Tqq (mkF m 12 #[.val (.ref a1), .val (.int p2), .val (.double (own_s g i)), .second, .val (.int (Int32.ofNat F0)), .val (.int (Int32.ofNat i))] [])
      refine own_go (fun tz kz => XS.iload Xqq.here hx rfl (hb hby d4_12) rfl kz) ?_
      show own_Go p.tables e below _ Tqq (mkF m 14 #[.val (.ref a1), .val (.int p2), .val (.double (own_s g i)), .second, .val (.int (Int32.ofNat F0)), .val (.int (Int32.ofNat i))] [(.int (Int32.ofNat i))])
      refine own_go (fun tz kz => XS.iload Xqq.here hx rfl (hb hby d4_14) rfl kz) ?_
      show own_Go p.tables e below _ Tqq (mkF m 16 #[.val (.ref a1), .val (.int p2), .val (.double (own_s g i)), .second, .val (.int (Int32.ofNat F0)), .val (.int (Int32.ofNat i))] [(.int (Int32.ofNat F0)), (.int (Int32.ofNat i))])
      refine own_go (fun tz kz => XS.icmpNo Xqq.here hx rfl (hb hby d4_16) rfl (XT.ii_ge_f ((own_ltn (by omega) (by omega)).mpr (by omega))) kz) ?_
      show own_Go p.tables e below _ Tqq (mkF m 19 #[.val (.ref a1), .val (.int p2), .val (.double (own_s g i)), .second, .val (.int (Int32.ofNat F0)), .val (.int (Int32.ofNat i))] [])
      refine own_go (fun tz kz => XS.dloadN Xqq.here hx rfl (hb hby d4_19) rfl kz) ?_
      show own_Go p.tables e below _ Tqq (mkF m 20 #[.val (.ref a1), .val (.int p2), .val (.double (own_s g i)), .second, .val (.int (Int32.ofNat F0)), .val (.int (Int32.ofNat i))] [(.double (own_s g i))])
      refine own_go (fun tz kz => XS.iload Xqq.here hx rfl (hb hby d4_20) rfl kz) ?_
      show own_Go p.tables e below _ Tqq (mkF m 22 #[.val (.ref a1), .val (.int p2), .val (.double (own_s g i)), .second, .val (.int (Int32.ofNat F0)), .val (.int (Int32.ofNat i))] [(.int (Int32.ofNat i)), (.double (own_s g i))])
      refine own_go (fun tz kz => XS.iconst Xqq.here hx rfl (hb hby d4_22) kz) ?_
      show own_Go p.tables e below _ Tqq (mkF m 23 #[.val (.ref a1), .val (.int p2), .val (.double (own_s g i)), .second, .val (.int (Int32.ofNat F0)), .val (.int (Int32.ofNat i))] [(.int (1 : Int32)), (.int (Int32.ofNat i)), (.double (own_s g i))])
      refine own_go (fun tz kz => XS.iadd Xqq.here hx rfl (hb hby d4_23) rfl kz) ?_
      show own_Go p.tables e below _ Tqq (mkF m 24 #[.val (.ref a1), .val (.int p2), .val (.double (own_s g i)), .second, .val (.int (Int32.ofNat F0)), .val (.int (Int32.ofNat i))] [(.int ((Int32.ofNat i) + (1 : Int32))), (.double (own_s g i))])
      refine own_go (fun tz kz => XS.i2dS Xqq.here hx rfl (hb hby d4_24) rfl rfl kz) ?_
      show own_Go p.tables e below _ Tqq (mkF m 25 #[.val (.ref a1), .val (.int p2), .val (.double (own_s g i)), .second, .val (.int (Int32.ofNat F0)), .val (.int (Int32.ofNat i))] [(.double (FP.i2d ((Int32.ofNat i) + (1 : Int32)))), (.double (own_s g i))])
      refine own_go (fun tz kz => XS.aloadN Xqq.here hx rfl (hb hby d4_25) rfl rfl kz) ?_
      show own_Go p.tables e below _ Tqq (mkF m 26 #[.val (.ref a1), .val (.int p2), .val (.double (own_s g i)), .second, .val (.int (Int32.ofNat F0)), .val (.int (Int32.ofNat i))] [(.ref a1), (.double (FP.i2d ((Int32.ofNat i) + (1 : Int32)))), (.double (own_s g i))])
      obtain ⟨T4, X4, e4, st4⟩ := getF Xqq hx hZ hown (host := "") (Or.inl (hw _ (List.mem_of_getElem? (i := 16) rfl))) Via.refl eqq F (g := (mkF m 26 #[.val (.ref a1), .val (.int p2), .val (.double (own_s g i)), .second, .val (.int (Int32.ofNat F0)), .val (.int (Int32.ofNat i))] [(.ref a1), (.double (FP.i2d ((Int32.ofNat i) + (1 : Int32)))), (.double (own_s g i))])) rfl rfl (hb hby d4_26)
      refine own_go st4 ?_
      show own_Go p.tables e below _ T4 (mkF m 29 #[.val (.ref a1), .val (.int p2), .val (.double (own_s g i)), .second, .val (.int (Int32.ofNat F0)), .val (.int (Int32.ofNat i))] [(.ref r), (.double (FP.i2d ((Int32.ofNat i) + (1 : Int32)))), (.double (own_s g i))])
      refine own_go (fun tz kz => XS.iload X4.here hx rfl (hb hby d4_29) rfl kz) ?_
      show own_Go p.tables e below _ T4 (mkF m 31 #[.val (.ref a1), .val (.int p2), .val (.double (own_s g i)), .second, .val (.int (Int32.ofNat F0)), .val (.int (Int32.ofNat i))] [(.int (Int32.ofNat i)), (.ref r), (.double (FP.i2d ((Int32.ofNat i) + (1 : Int32)))), (.double (own_s g i))])
      obtain ⟨c5, Ar5, Sz5, Ge5⟩ := id (Va)
      refine own_go (fun tz kz => X4.iaload hx (j := (Int32.ofNat i)) (v := (.int (g i))) (by rw [e4]; exact Ar5.1) (State.isArrayOf_alike hZ.alike Ar5.2.1) Ar5.2.2 (own_inb Sz5 (own_nat (i := i) (by omega)) (by omega)) (own_at Ge5 (own_nat (i := i) (by omega)) (by omega) rfl) (g := (mkF m 31 #[.val (.ref a1), .val (.int p2), .val (.double (own_s g i)), .second, .val (.int (Int32.ofNat F0)), .val (.int (Int32.ofNat i))] [(.int (Int32.ofNat i)), (.ref r), (.double (FP.i2d ((Int32.ofNat i) + (1 : Int32)))), (.double (own_s g i))])) rfl rfl (hb hby d4_31) tz kz) ?_
      show own_Go p.tables e below _ T4 (mkF m 32 #[.val (.ref a1), .val (.int p2), .val (.double (own_s g i)), .second, .val (.int (Int32.ofNat F0)), .val (.int (Int32.ofNat i))] [(.int (g i)), (.double (FP.i2d ((Int32.ofNat i) + (1 : Int32)))), (.double (own_s g i))])
      refine own_go (fun tz kz => XS.i2dS X4.here hx rfl (hb hby d4_32) rfl rfl kz) ?_
      show own_Go p.tables e below _ T4 (mkF m 33 #[.val (.ref a1), .val (.int p2), .val (.double (own_s g i)), .second, .val (.int (Int32.ofNat F0)), .val (.int (Int32.ofNat i))] [(.double (FP.i2d (g i))), (.double (FP.i2d ((Int32.ofNat i) + (1 : Int32)))), (.double (own_s g i))])
      refine own_go (fun tz kz => XS.ddivS X4.here hx rfl (hb hby d4_33) rfl (own_nq _ (hg i (by omega))) rfl kz) ?_
      show own_Go p.tables e below _ T4 (mkF m 34 #[.val (.ref a1), .val (.int p2), .val (.double (own_s g i)), .second, .val (.int (Int32.ofNat F0)), .val (.int (Int32.ofNat i))] [(.double (FP.ddiv (FP.i2d ((Int32.ofNat i) + (1 : Int32))) (FP.i2d (g i)))), (.double (own_s g i))])
      refine own_go (fun tz kz => XS.daddS X4.here hx rfl (hb hby d4_34) rfl (own_ns hg (k := i + 1) (by omega) (by omega)) rfl kz) ?_
      show own_Go p.tables e below _ T4 (mkF m 35 #[.val (.ref a1), .val (.int p2), .val (.double (own_s g i)), .second, .val (.int (Int32.ofNat F0)), .val (.int (Int32.ofNat i))] [(.double (FP.dadd (own_s g i) (FP.ddiv (FP.i2d ((Int32.ofNat i) + (1 : Int32))) (FP.i2d (g i)))))])
      show own_Go p.tables e below _ T4 (mkF m 35 #[.val (.ref a1), .val (.int p2), .val (.double (own_s g i)), .second, .val (.int (Int32.ofNat F0)), .val (.int (Int32.ofNat i))] [(.double (own_s g (i + 1)))])
      refine own_go (fun tz kz => XS.dstoreN X4.here hx rfl (hb hby d4_35) rfl (l' := #[.val (.ref a1), .val (.int p2), .val (.double (own_s g (i + 1))), .second, .val (.int (Int32.ofNat F0)), .val (.int (Int32.ofNat i))]) rfl kz) ?_
      show own_Go p.tables e below _ T4 (mkF m 36 #[.val (.ref a1), .val (.int p2), .val (.double (own_s g (i + 1))), .second, .val (.int (Int32.ofNat F0)), .val (.int (Int32.ofNat i))] [])
      refine own_go (fun tz kz => XS.iinc X4.here hx rfl (hb hby d4_36) rfl (l' := #[.val (.ref a1), .val (.int p2), .val (.double (own_s g (i + 1))), .second, .val (.int (Int32.ofNat F0)), .val (.int ((Int32.ofNat i) + (1 : Int32)))]) rfl kz) ?_
      show own_Go p.tables e below _ T4 (mkF m 39 #[.val (.ref a1), .val (.int p2), .val (.double (own_s g (i + 1))), .second, .val (.int (Int32.ofNat F0)), .val (.int ((Int32.ofNat i) + (1 : Int32)))] [])
      rw [show ((Int32.ofNat i) + (1 : Int32)) = (Int32.ofNat (i + 1)) from own_succ i]
      show own_Go p.tables e below _ T4 (mkF m 39 #[.val (.ref a1), .val (.int p2), .val (.double (own_s g (i + 1))), .second, .val (.int (Int32.ofNat F0)), .val (.int (Int32.ofNat (i + 1)))] [])
      refine own_go (fun tz kz => XS.goto X4.here hx rfl (pc0 := 39) (pc' := 12) rfl (hb hby d4_39) (by decide) (by decide) kz) ?_
      show own_Go p.tables e below _ T4 (mkF m 12 #[.val (.ref a1), .val (.int p2), .val (.double (own_s g (i + 1))), .second, .val (.int (Int32.ofNat F0)), .val (.int (Int32.ofNat (i + 1)))] [])
      exact ih (i + 1) _ _ (by omega) X4 e4 Nqq
  exact loop F0 0 _ _ (by omega) X1 e1 N1
theorem pd_2 : parseMethodDescriptor "([II)V" = some ⟨[(.array .int), .int], none⟩ := by decide +kernel
theorem pd_3 : parseMethodDescriptor "(I)D" = some ⟨[.int], some .double⟩ := by decide +kernel
theorem pn_2 : plainName "com/example/chalk_outline/chalkoutline/PlacementAveragePrecisionPinLaw" = true := by first | (simp [plainName, overriddenIn]; done) | decide +kernel
theorem ef_0 (m : MethodId) {p1 : Int32} {p2 : Int32} {p3 : Int32} {p4 : Int32} {p5 : Int32} {p6 : Int32} : entryFrame m #[(.int p1), (.int p2), (.int p3), (.int p4), (.int p5), (.int p6)] maxLocals = mkF m 0 #[.val (.int p1), .val (.int p2), .val (.int p3), .val (.int p4), .val (.int p5), .val (.int p6), .unset, .unset, .unset, .unset, .unset, .unset, .unset, .unset, .unset, .unset, .unset, .unset, .unset, .unset, .unset, .unset, .unset] [] := by first | (simp [entryFrame, mkF, argsToLocals, Value.category, maxLocals]; done) | rfl
def Q0 (Z : State) (p1 : Int32) (p2 : Int32) (p3 : Int32) (p4 : Int32) (p5 : Int32) (p6 : Int32) (h0 : Heap) (n0 : Nat) (v : Option Value) (h : Heap) (L : List Loc) : Prop := v = some (.int 1) ∧ Fr n0 L
set_option maxRecDepth 65536 in
set_option maxHeartbeats 40000000 in
theorem rm0 (l : Launch) (Z : State) (a0 : Array Value) (hw : ∀ d ∈ tables_1, d.before a0 Z = true) (ws : List Jvm.Cond) (p1 : Int32) (p2 : Int32) (p3 : Int32) (p4 : Int32) (p5 : Int32) (p6 : Int32) (h0 : Heap) (n0 : Nat) (Z0 : n0 ≤ h0.size) :
    MetFree l x (head1 (Jvm.Cond.code x code maxLocals ret :: ws) room_1) (fun a U => a = #[(.int p1), (.int p2), (.int p3), (.int p4), (.int p5), (.int p6)] ∧ Z.Warmed39 U.vm ∧ U.heap = h0) (fun _ _ _ _ _ => True) (fun _ U oz U' => ∃ v L, oz = .returned v ∧ Q0 Z p1 p2 p3 p4 p5 p6 h0 n0 v U'.heap L ∧ FrameEnd U oz U' L (room_1).cells (room_1).slots) := by
  refine MetFree.of_bodySF (plainFor_of_name pn_2) hisR ?_
  intro p e s m args below meth c s₁ Bd hml0 hP hK
  obtain ⟨rfl, hZ, hh⟩ := hP
  have hx := Bd.exec
  have hby := Bd.bytes
  have hml : c.maxLocals = 23 := hml0
  have hown : s.vm.findClass "com/example/chalk_outline/chalkoutline/PlacementAveragePrecisionPinLaw" = some m.cls := findClass_of_methodNamed Bd.named
  have hnm := (name_of_methodNamed Bd.named Bd.method).1
  have X0 : Stand p l e room_1 s m #[(.int p1), (.int p2), (.int p3), (.int p4), (.int p5), (.int p6)] below meth c s₁ [] 0 0 := Stand.of_body Bd
  have e0 : s₁.heap = h0 := by rw [← hh, Bd.state]; rfl
  have N0 := Fr.nil n0
  show own_Go p.tables e below (own_P s (Q0 Z p1 p2 p3 p4 p5 p6 h0 n0) room_1.cells room_1.slots) s₁ _
  rw [ef_0]
  show own_Go p.tables e below _ s₁ (mkF m 0 #[.val (.int p1), .val (.int p2), .val (.int p3), .val (.int p4), .val (.int p5), .val (.int p6), .unset, .unset, .unset, .unset, .unset, .unset, .unset, .unset, .unset, .unset, .unset, .unset, .unset, .unset, .unset, .unset, .unset] [])
  obtain ⟨n, hn, en⟩ := own_low3 p6
  obtain ⟨hr1, hr12, hr23⟩ := own_ranks p1 p2 p3 1048575 1048575 1048575 (by decide) (by decide) (by decide)
  have hgz := fun {r1 r2 r3 : Int32} (h1 : 0 < r1.toInt) (h2 : r1 < r2) (h3 : r2 < r3) => own_g_nz h1 h2 h3 n
  refine own_go (fun tz kz => XS.iconst X0.here hx rfl (hb hby at_0) kz) ?_
  show own_Go p.tables e below _ s₁ (mkF m 1 #[.val (.int p1), .val (.int p2), .val (.int p3), .val (.int p4), .val (.int p5), .val (.int p6), .unset, .unset, .unset, .unset, .unset, .unset, .unset, .unset, .unset, .unset, .unset, .unset, .unset, .unset, .unset, .unset, .unset] [(.int (1 : Int32))])
  refine own_go (fun tz kz => XS.iloadN X0.here hx rfl (hb hby at_1) rfl kz) ?_
  show own_Go p.tables e below _ s₁ (mkF m 2 #[.val (.int p1), .val (.int p2), .val (.int p3), .val (.int p4), .val (.int p5), .val (.int p6), .unset, .unset, .unset, .unset, .unset, .unset, .unset, .unset, .unset, .unset, .unset, .unset, .unset, .unset, .unset, .unset, .unset] [(.int p1), (.int (1 : Int32))])
  refine own_go (fun tz kz => X0.ldcI hx hown (mvT hZ (hw _ (List.mem_of_getElem? (i := 0) rfl))) rfl (hb hby at_2) kz) ?_
  show own_Go p.tables e below _ s₁ (mkF m 4 #[.val (.int p1), .val (.int p2), .val (.int p3), .val (.int p4), .val (.int p5), .val (.int p6), .unset, .unset, .unset, .unset, .unset, .unset, .unset, .unset, .unset, .unset, .unset, .unset, .unset, .unset, .unset, .unset, .unset] [(.int (1048575 : Int32)), (.int p1), (.int (1 : Int32))])
  refine own_go (fun tz kz => XS.iand X0.here hx rfl (hb hby at_4) rfl kz) ?_
  show own_Go p.tables e below _ s₁ (mkF m 5 #[.val (.int p1), .val (.int p2), .val (.int p3), .val (.int p4), .val (.int p5), .val (.int p6), .unset, .unset, .unset, .unset, .unset, .unset, .unset, .unset, .unset, .unset, .unset, .unset, .unset, .unset, .unset, .unset, .unset] [(.int (p1 &&& (1048575 : Int32))), (.int (1 : Int32))])
  refine own_go (fun tz kz => XS.iadd X0.here hx rfl (hb hby at_5) rfl kz) ?_
  show own_Go p.tables e below _ s₁ (mkF m 6 #[.val (.int p1), .val (.int p2), .val (.int p3), .val (.int p4), .val (.int p5), .val (.int p6), .unset, .unset, .unset, .unset, .unset, .unset, .unset, .unset, .unset, .unset, .unset, .unset, .unset, .unset, .unset, .unset, .unset] [(.int ((1 : Int32) + (p1 &&& (1048575 : Int32))))])
  refine own_go (fun tz kz => XS.istore X0.here hx rfl (hb hby at_6) rfl (l' := #[.val (.int p1), .val (.int p2), .val (.int p3), .val (.int p4), .val (.int p5), .val (.int p6), .val (.int ((1 : Int32) + (p1 &&& (1048575 : Int32)))), .unset, .unset, .unset, .unset, .unset, .unset, .unset, .unset, .unset, .unset, .unset, .unset, .unset, .unset, .unset, .unset]) rfl kz) ?_
  show own_Go p.tables e below _ s₁ (mkF m 8 #[.val (.int p1), .val (.int p2), .val (.int p3), .val (.int p4), .val (.int p5), .val (.int p6), .val (.int ((1 : Int32) + (p1 &&& (1048575 : Int32)))), .unset, .unset, .unset, .unset, .unset, .unset, .unset, .unset, .unset, .unset, .unset, .unset, .unset, .unset, .unset, .unset] [])
  generalize ((1 : Int32) + (p1 &&& (1048575 : Int32))) = r1 at hr1 hr12 hr23 ⊢
  show own_Go p.tables e below _ s₁ (mkF m 8 #[.val (.int p1), .val (.int p2), .val (.int p3), .val (.int p4), .val (.int p5), .val (.int p6), .val (.int r1), .unset, .unset, .unset, .unset, .unset, .unset, .unset, .unset, .unset, .unset, .unset, .unset, .unset, .unset, .unset, .unset] [])
  refine own_go (fun tz kz => XS.iload X0.here hx rfl (hb hby at_8) rfl kz) ?_
  show own_Go p.tables e below _ s₁ (mkF m 10 #[.val (.int p1), .val (.int p2), .val (.int p3), .val (.int p4), .val (.int p5), .val (.int p6), .val (.int r1), .unset, .unset, .unset, .unset, .unset, .unset, .unset, .unset, .unset, .unset, .unset, .unset, .unset, .unset, .unset, .unset] [(.int r1)])
  refine own_go (fun tz kz => XS.iconst X0.here hx rfl (hb hby at_10) kz) ?_
  show own_Go p.tables e below _ s₁ (mkF m 11 #[.val (.int p1), .val (.int p2), .val (.int p3), .val (.int p4), .val (.int p5), .val (.int p6), .val (.int r1), .unset, .unset, .unset, .unset, .unset, .unset, .unset, .unset, .unset, .unset, .unset, .unset, .unset, .unset, .unset, .unset] [(.int (1 : Int32)), (.int r1)])
  refine own_go (fun tz kz => XS.iadd X0.here hx rfl (hb hby at_11) rfl kz) ?_
  show own_Go p.tables e below _ s₁ (mkF m 12 #[.val (.int p1), .val (.int p2), .val (.int p3), .val (.int p4), .val (.int p5), .val (.int p6), .val (.int r1), .unset, .unset, .unset, .unset, .unset, .unset, .unset, .unset, .unset, .unset, .unset, .unset, .unset, .unset, .unset, .unset] [(.int (r1 + (1 : Int32)))])
  refine own_go (fun tz kz => XS.iloadN X0.here hx rfl (hb hby at_12) rfl kz) ?_
  show own_Go p.tables e below _ s₁ (mkF m 13 #[.val (.int p1), .val (.int p2), .val (.int p3), .val (.int p4), .val (.int p5), .val (.int p6), .val (.int r1), .unset, .unset, .unset, .unset, .unset, .unset, .unset, .unset, .unset, .unset, .unset, .unset, .unset, .unset, .unset, .unset] [(.int p2), (.int (r1 + (1 : Int32)))])
  refine own_go (fun tz kz => X0.ldcI hx hown (mvT hZ (hw _ (List.mem_of_getElem? (i := 0) rfl))) rfl (hb hby at_13) kz) ?_
  show own_Go p.tables e below _ s₁ (mkF m 15 #[.val (.int p1), .val (.int p2), .val (.int p3), .val (.int p4), .val (.int p5), .val (.int p6), .val (.int r1), .unset, .unset, .unset, .unset, .unset, .unset, .unset, .unset, .unset, .unset, .unset, .unset, .unset, .unset, .unset, .unset] [(.int (1048575 : Int32)), (.int p2), (.int (r1 + (1 : Int32)))])
  refine own_go (fun tz kz => XS.iand X0.here hx rfl (hb hby at_15) rfl kz) ?_
  show own_Go p.tables e below _ s₁ (mkF m 16 #[.val (.int p1), .val (.int p2), .val (.int p3), .val (.int p4), .val (.int p5), .val (.int p6), .val (.int r1), .unset, .unset, .unset, .unset, .unset, .unset, .unset, .unset, .unset, .unset, .unset, .unset, .unset, .unset, .unset, .unset] [(.int (p2 &&& (1048575 : Int32))), (.int (r1 + (1 : Int32)))])
  refine own_go (fun tz kz => XS.iadd X0.here hx rfl (hb hby at_16) rfl kz) ?_
  show own_Go p.tables e below _ s₁ (mkF m 17 #[.val (.int p1), .val (.int p2), .val (.int p3), .val (.int p4), .val (.int p5), .val (.int p6), .val (.int r1), .unset, .unset, .unset, .unset, .unset, .unset, .unset, .unset, .unset, .unset, .unset, .unset, .unset, .unset, .unset, .unset] [(.int ((r1 + (1 : Int32)) + (p2 &&& (1048575 : Int32))))])
  refine own_go (fun tz kz => XS.istore X0.here hx rfl (hb hby at_17) rfl (l' := #[.val (.int p1), .val (.int p2), .val (.int p3), .val (.int p4), .val (.int p5), .val (.int p6), .val (.int r1), .val (.int ((r1 + (1 : Int32)) + (p2 &&& (1048575 : Int32)))), .unset, .unset, .unset, .unset, .unset, .unset, .unset, .unset, .unset, .unset, .unset, .unset, .unset, .unset, .unset]) rfl kz) ?_
  show own_Go p.tables e below _ s₁ (mkF m 19 #[.val (.int p1), .val (.int p2), .val (.int p3), .val (.int p4), .val (.int p5), .val (.int p6), .val (.int r1), .val (.int ((r1 + (1 : Int32)) + (p2 &&& (1048575 : Int32)))), .unset, .unset, .unset, .unset, .unset, .unset, .unset, .unset, .unset, .unset, .unset, .unset, .unset, .unset, .unset] [])
  generalize ((r1 + (1 : Int32)) + (p2 &&& (1048575 : Int32))) = r2 at hr1 hr12 hr23 ⊢
  show own_Go p.tables e below _ s₁ (mkF m 19 #[.val (.int p1), .val (.int p2), .val (.int p3), .val (.int p4), .val (.int p5), .val (.int p6), .val (.int r1), .val (.int r2), .unset, .unset, .unset, .unset, .unset, .unset, .unset, .unset, .unset, .unset, .unset, .unset, .unset, .unset, .unset] [])
  refine own_go (fun tz kz => XS.iload X0.here hx rfl (hb hby at_19) rfl kz) ?_
  show own_Go p.tables e below _ s₁ (mkF m 21 #[.val (.int p1), .val (.int p2), .val (.int p3), .val (.int p4), .val (.int p5), .val (.int p6), .val (.int r1), .val (.int r2), .unset, .unset, .unset, .unset, .unset, .unset, .unset, .unset, .unset, .unset, .unset, .unset, .unset, .unset, .unset] [(.int r2)])
  refine own_go (fun tz kz => XS.iconst X0.here hx rfl (hb hby at_21) kz) ?_
  show own_Go p.tables e below _ s₁ (mkF m 22 #[.val (.int p1), .val (.int p2), .val (.int p3), .val (.int p4), .val (.int p5), .val (.int p6), .val (.int r1), .val (.int r2), .unset, .unset, .unset, .unset, .unset, .unset, .unset, .unset, .unset, .unset, .unset, .unset, .unset, .unset, .unset] [(.int (1 : Int32)), (.int r2)])
  refine own_go (fun tz kz => XS.iadd X0.here hx rfl (hb hby at_22) rfl kz) ?_
  show own_Go p.tables e below _ s₁ (mkF m 23 #[.val (.int p1), .val (.int p2), .val (.int p3), .val (.int p4), .val (.int p5), .val (.int p6), .val (.int r1), .val (.int r2), .unset, .unset, .unset, .unset, .unset, .unset, .unset, .unset, .unset, .unset, .unset, .unset, .unset, .unset, .unset] [(.int (r2 + (1 : Int32)))])
  refine own_go (fun tz kz => XS.iloadN X0.here hx rfl (hb hby at_23) rfl kz) ?_
  show own_Go p.tables e below _ s₁ (mkF m 24 #[.val (.int p1), .val (.int p2), .val (.int p3), .val (.int p4), .val (.int p5), .val (.int p6), .val (.int r1), .val (.int r2), .unset, .unset, .unset, .unset, .unset, .unset, .unset, .unset, .unset, .unset, .unset, .unset, .unset, .unset, .unset] [(.int p3), (.int (r2 + (1 : Int32)))])
  refine own_go (fun tz kz => X0.ldcI hx hown (mvT hZ (hw _ (List.mem_of_getElem? (i := 0) rfl))) rfl (hb hby at_24) kz) ?_
  show own_Go p.tables e below _ s₁ (mkF m 26 #[.val (.int p1), .val (.int p2), .val (.int p3), .val (.int p4), .val (.int p5), .val (.int p6), .val (.int r1), .val (.int r2), .unset, .unset, .unset, .unset, .unset, .unset, .unset, .unset, .unset, .unset, .unset, .unset, .unset, .unset, .unset] [(.int (1048575 : Int32)), (.int p3), (.int (r2 + (1 : Int32)))])
  refine own_go (fun tz kz => XS.iand X0.here hx rfl (hb hby at_26) rfl kz) ?_
  show own_Go p.tables e below _ s₁ (mkF m 27 #[.val (.int p1), .val (.int p2), .val (.int p3), .val (.int p4), .val (.int p5), .val (.int p6), .val (.int r1), .val (.int r2), .unset, .unset, .unset, .unset, .unset, .unset, .unset, .unset, .unset, .unset, .unset, .unset, .unset, .unset, .unset] [(.int (p3 &&& (1048575 : Int32))), (.int (r2 + (1 : Int32)))])
  refine own_go (fun tz kz => XS.iadd X0.here hx rfl (hb hby at_27) rfl kz) ?_
  show own_Go p.tables e below _ s₁ (mkF m 28 #[.val (.int p1), .val (.int p2), .val (.int p3), .val (.int p4), .val (.int p5), .val (.int p6), .val (.int r1), .val (.int r2), .unset, .unset, .unset, .unset, .unset, .unset, .unset, .unset, .unset, .unset, .unset, .unset, .unset, .unset, .unset] [(.int ((r2 + (1 : Int32)) + (p3 &&& (1048575 : Int32))))])
  refine own_go (fun tz kz => XS.istore X0.here hx rfl (hb hby at_28) rfl (l' := #[.val (.int p1), .val (.int p2), .val (.int p3), .val (.int p4), .val (.int p5), .val (.int p6), .val (.int r1), .val (.int r2), .val (.int ((r2 + (1 : Int32)) + (p3 &&& (1048575 : Int32)))), .unset, .unset, .unset, .unset, .unset, .unset, .unset, .unset, .unset, .unset, .unset, .unset, .unset, .unset]) rfl kz) ?_
  show own_Go p.tables e below _ s₁ (mkF m 30 #[.val (.int p1), .val (.int p2), .val (.int p3), .val (.int p4), .val (.int p5), .val (.int p6), .val (.int r1), .val (.int r2), .val (.int ((r2 + (1 : Int32)) + (p3 &&& (1048575 : Int32)))), .unset, .unset, .unset, .unset, .unset, .unset, .unset, .unset, .unset, .unset, .unset, .unset, .unset, .unset] [])
  generalize ((r2 + (1 : Int32)) + (p3 &&& (1048575 : Int32))) = r3 at hr1 hr12 hr23 ⊢
  show own_Go p.tables e below _ s₁ (mkF m 30 #[.val (.int p1), .val (.int p2), .val (.int p3), .val (.int p4), .val (.int p5), .val (.int p6), .val (.int r1), .val (.int r2), .val (.int r3), .unset, .unset, .unset, .unset, .unset, .unset, .unset, .unset, .unset, .unset, .unset, .unset, .unset, .unset] [])
  have hg := hgz hr1 hr12 hr23
  refine own_go (fun tz kz => XS.iload X0.here hx rfl (hb hby at_30) rfl kz) ?_
  show own_Go p.tables e below _ s₁ (mkF m 32 #[.val (.int p1), .val (.int p2), .val (.int p3), .val (.int p4), .val (.int p5), .val (.int p6), .val (.int r1), .val (.int r2), .val (.int r3), .unset, .unset, .unset, .unset, .unset, .unset, .unset, .unset, .unset, .unset, .unset, .unset, .unset, .unset] [(.int p6)])
  refine own_go (fun tz kz => XS.iconst X0.here hx rfl (hb hby at_32) kz) ?_
  show own_Go p.tables e below _ s₁ (mkF m 33 #[.val (.int p1), .val (.int p2), .val (.int p3), .val (.int p4), .val (.int p5), .val (.int p6), .val (.int r1), .val (.int r2), .val (.int r3), .unset, .unset, .unset, .unset, .unset, .unset, .unset, .unset, .unset, .unset, .unset, .unset, .unset, .unset] [(.int (3 : Int32)), (.int p6)])
  refine own_go (fun tz kz => XS.iand X0.here hx rfl (hb hby at_33) rfl kz) ?_
  show own_Go p.tables e below _ s₁ (mkF m 34 #[.val (.int p1), .val (.int p2), .val (.int p3), .val (.int p4), .val (.int p5), .val (.int p6), .val (.int r1), .val (.int r2), .val (.int r3), .unset, .unset, .unset, .unset, .unset, .unset, .unset, .unset, .unset, .unset, .unset, .unset, .unset, .unset] [(.int (p6 &&& (3 : Int32)))])
  rw [show (p6 &&& (3 : Int32)) = (Int32.ofNat n) from en]
  show own_Go p.tables e below _ s₁ (mkF m 34 #[.val (.int p1), .val (.int p2), .val (.int p3), .val (.int p4), .val (.int p5), .val (.int p6), .val (.int r1), .val (.int r2), .val (.int r3), .unset, .unset, .unset, .unset, .unset, .unset, .unset, .unset, .unset, .unset, .unset, .unset, .unset, .unset] [(.int (Int32.ofNat n))])
  refine own_go (fun tz kz => XS.istore X0.here hx rfl (hb hby at_34) rfl (l' := #[.val (.int p1), .val (.int p2), .val (.int p3), .val (.int p4), .val (.int p5), .val (.int p6), .val (.int r1), .val (.int r2), .val (.int r3), .val (.int (Int32.ofNat n)), .unset, .unset, .unset, .unset, .unset, .unset, .unset, .unset, .unset, .unset, .unset, .unset, .unset]) rfl kz) ?_
  show own_Go p.tables e below _ s₁ (mkF m 36 #[.val (.int p1), .val (.int p2), .val (.int p3), .val (.int p4), .val (.int p5), .val (.int p6), .val (.int r1), .val (.int r2), .val (.int r3), .val (.int (Int32.ofNat n)), .unset, .unset, .unset, .unset, .unset, .unset, .unset, .unset, .unset, .unset, .unset, .unset, .unset] [])
  refine own_go (fun tz kz => XS.iload X0.here hx rfl (hb hby at_36) rfl kz) ?_
  show own_Go p.tables e below _ s₁ (mkF m 38 #[.val (.int p1), .val (.int p2), .val (.int p3), .val (.int p4), .val (.int p5), .val (.int p6), .val (.int r1), .val (.int r2), .val (.int r3), .val (.int (Int32.ofNat n)), .unset, .unset, .unset, .unset, .unset, .unset, .unset, .unset, .unset, .unset, .unset, .unset, .unset] [(.int (Int32.ofNat n))])
  refine own_go (fun tz kz => XS.iloadN X0.here hx rfl (hb hby at_38) rfl kz) ?_
  show own_Go p.tables e below _ s₁ (mkF m 39 #[.val (.int p1), .val (.int p2), .val (.int p3), .val (.int p4), .val (.int p5), .val (.int p6), .val (.int r1), .val (.int r2), .val (.int r3), .val (.int (Int32.ofNat n)), .unset, .unset, .unset, .unset, .unset, .unset, .unset, .unset, .unset, .unset, .unset, .unset, .unset] [(.int p4), (.int (Int32.ofNat n))])
  refine own_go (fun tz kz => XS.bipush X0.here hx rfl (hb hby at_39) kz) ?_
  show own_Go p.tables e below _ s₁ (mkF m 41 #[.val (.int p1), .val (.int p2), .val (.int p3), .val (.int p4), .val (.int p5), .val (.int p6), .val (.int r1), .val (.int r2), .val (.int r3), .val (.int (Int32.ofNat n)), .unset, .unset, .unset, .unset, .unset, .unset, .unset, .unset, .unset, .unset, .unset, .unset, .unset] [(.int (7 : Int32)), (.int p4), (.int (Int32.ofNat n))])
  refine own_go (fun tz kz => XS.iand X0.here hx rfl (hb hby at_41) rfl kz) ?_
  show own_Go p.tables e below _ s₁ (mkF m 42 #[.val (.int p1), .val (.int p2), .val (.int p3), .val (.int p4), .val (.int p5), .val (.int p6), .val (.int r1), .val (.int r2), .val (.int r3), .val (.int (Int32.ofNat n)), .unset, .unset, .unset, .unset, .unset, .unset, .unset, .unset, .unset, .unset, .unset, .unset, .unset] [(.int (p4 &&& (7 : Int32))), (.int (Int32.ofNat n))])
  refine own_go (fun tz kz => XS.iadd X0.here hx rfl (hb hby at_42) rfl kz) ?_
  show own_Go p.tables e below _ s₁ (mkF m 43 #[.val (.int p1), .val (.int p2), .val (.int p3), .val (.int p4), .val (.int p5), .val (.int p6), .val (.int r1), .val (.int r2), .val (.int r3), .val (.int (Int32.ofNat n)), .unset, .unset, .unset, .unset, .unset, .unset, .unset, .unset, .unset, .unset, .unset, .unset, .unset] [(.int ((Int32.ofNat n) + (p4 &&& (7 : Int32))))])
  refine own_go (fun tz kz => XS.istore X0.here hx rfl (hb hby at_43) rfl (l' := #[.val (.int p1), .val (.int p2), .val (.int p3), .val (.int p4), .val (.int p5), .val (.int p6), .val (.int r1), .val (.int r2), .val (.int r3), .val (.int (Int32.ofNat n)), .val (.int ((Int32.ofNat n) + (p4 &&& (7 : Int32)))), .unset, .unset, .unset, .unset, .unset, .unset, .unset, .unset, .unset, .unset, .unset, .unset]) rfl kz) ?_
  show own_Go p.tables e below _ s₁ (mkF m 45 #[.val (.int p1), .val (.int p2), .val (.int p3), .val (.int p4), .val (.int p5), .val (.int p6), .val (.int r1), .val (.int r2), .val (.int r3), .val (.int (Int32.ofNat n)), .val (.int ((Int32.ofNat n) + (p4 &&& (7 : Int32)))), .unset, .unset, .unset, .unset, .unset, .unset, .unset, .unset, .unset, .unset, .unset, .unset] [])
  generalize grel : ((Int32.ofNat n) + (p4 &&& (7 : Int32))) = rel
  show own_Go p.tables e below _ s₁ (mkF m 45 #[.val (.int p1), .val (.int p2), .val (.int p3), .val (.int p4), .val (.int p5), .val (.int p6), .val (.int r1), .val (.int r2), .val (.int r3), .val (.int (Int32.ofNat n)), .val (.int rel), .unset, .unset, .unset, .unset, .unset, .unset, .unset, .unset, .unset, .unset, .unset, .unset] [])
  refine own_go (fun tz kz => XS.iload X0.here hx rfl (hb hby at_45) rfl kz) ?_
  show own_Go p.tables e below _ s₁ (mkF m 47 #[.val (.int p1), .val (.int p2), .val (.int p3), .val (.int p4), .val (.int p5), .val (.int p6), .val (.int r1), .val (.int r2), .val (.int r3), .val (.int (Int32.ofNat n)), .val (.int rel), .unset, .unset, .unset, .unset, .unset, .unset, .unset, .unset, .unset, .unset, .unset, .unset] [(.int p6)])
  refine own_go (fun tz kz => XS.iconst X0.here hx rfl (hb hby at_47) kz) ?_
  show own_Go p.tables e below _ s₁ (mkF m 48 #[.val (.int p1), .val (.int p2), .val (.int p3), .val (.int p4), .val (.int p5), .val (.int p6), .val (.int r1), .val (.int r2), .val (.int r3), .val (.int (Int32.ofNat n)), .val (.int rel), .unset, .unset, .unset, .unset, .unset, .unset, .unset, .unset, .unset, .unset, .unset, .unset] [(.int (2 : Int32)), (.int p6)])
  refine own_go (fun tz kz => XT.iushr X0.here hx rfl (hb hby at_48) rfl kz) ?_
  show own_Go p.tables e below _ s₁ (mkF m 49 #[.val (.int p1), .val (.int p2), .val (.int p3), .val (.int p4), .val (.int p5), .val (.int p6), .val (.int r1), .val (.int r2), .val (.int r3), .val (.int (Int32.ofNat n)), .val (.int rel), .unset, .unset, .unset, .unset, .unset, .unset, .unset, .unset, .unset, .unset, .unset, .unset] [(.int (XT.ushr p6 (2 : Int32)))])
  refine own_go (fun tz kz => XS.iconst X0.here hx rfl (hb hby at_49) kz) ?_
  show own_Go p.tables e below _ s₁ (mkF m 50 #[.val (.int p1), .val (.int p2), .val (.int p3), .val (.int p4), .val (.int p5), .val (.int p6), .val (.int r1), .val (.int r2), .val (.int r3), .val (.int (Int32.ofNat n)), .val (.int rel), .unset, .unset, .unset, .unset, .unset, .unset, .unset, .unset, .unset, .unset, .unset, .unset] [(.int (3 : Int32)), (.int (XT.ushr p6 (2 : Int32)))])
  refine own_go (fun tz kz => XS.iand X0.here hx rfl (hb hby at_50) rfl kz) ?_
  show own_Go p.tables e below _ s₁ (mkF m 51 #[.val (.int p1), .val (.int p2), .val (.int p3), .val (.int p4), .val (.int p5), .val (.int p6), .val (.int r1), .val (.int r2), .val (.int r3), .val (.int (Int32.ofNat n)), .val (.int rel), .unset, .unset, .unset, .unset, .unset, .unset, .unset, .unset, .unset, .unset, .unset, .unset] [(.int ((XT.ushr p6 (2 : Int32)) &&& (3 : Int32)))])
  refine own_go (fun tz kz => XS.istore X0.here hx rfl (hb hby at_51) rfl (l' := #[.val (.int p1), .val (.int p2), .val (.int p3), .val (.int p4), .val (.int p5), .val (.int p6), .val (.int r1), .val (.int r2), .val (.int r3), .val (.int (Int32.ofNat n)), .val (.int rel), .val (.int ((XT.ushr p6 (2 : Int32)) &&& (3 : Int32))), .unset, .unset, .unset, .unset, .unset, .unset, .unset, .unset, .unset, .unset, .unset]) rfl kz) ?_
  show own_Go p.tables e below _ s₁ (mkF m 53 #[.val (.int p1), .val (.int p2), .val (.int p3), .val (.int p4), .val (.int p5), .val (.int p6), .val (.int r1), .val (.int r2), .val (.int r3), .val (.int (Int32.ofNat n)), .val (.int rel), .val (.int ((XT.ushr p6 (2 : Int32)) &&& (3 : Int32))), .unset, .unset, .unset, .unset, .unset, .unset, .unset, .unset, .unset, .unset, .unset] [])
  generalize gmd : ((XT.ushr p6 (2 : Int32)) &&& (3 : Int32)) = md
  show own_Go p.tables e below _ s₁ (mkF m 53 #[.val (.int p1), .val (.int p2), .val (.int p3), .val (.int p4), .val (.int p5), .val (.int p6), .val (.int r1), .val (.int r2), .val (.int r3), .val (.int (Int32.ofNat n)), .val (.int rel), .val (.int md), .unset, .unset, .unset, .unset, .unset, .unset, .unset, .unset, .unset, .unset, .unset] [])
  refine own_go (fun tz kz => XS.iload X0.here hx rfl (hb hby at_53) rfl kz) ?_
  show own_Go p.tables e below _ s₁ (mkF m 55 #[.val (.int p1), .val (.int p2), .val (.int p3), .val (.int p4), .val (.int p5), .val (.int p6), .val (.int r1), .val (.int r2), .val (.int r3), .val (.int (Int32.ofNat n)), .val (.int rel), .val (.int md), .unset, .unset, .unset, .unset, .unset, .unset, .unset, .unset, .unset, .unset, .unset] [(.int p6)])
  refine own_go (fun tz kz => XS.iconst X0.here hx rfl (hb hby at_55) kz) ?_
  show own_Go p.tables e below _ s₁ (mkF m 56 #[.val (.int p1), .val (.int p2), .val (.int p3), .val (.int p4), .val (.int p5), .val (.int p6), .val (.int r1), .val (.int r2), .val (.int r3), .val (.int (Int32.ofNat n)), .val (.int rel), .val (.int md), .unset, .unset, .unset, .unset, .unset, .unset, .unset, .unset, .unset, .unset, .unset] [(.int (4 : Int32)), (.int p6)])
  refine own_go (fun tz kz => XT.iushr X0.here hx rfl (hb hby at_56) rfl kz) ?_
  show own_Go p.tables e below _ s₁ (mkF m 57 #[.val (.int p1), .val (.int p2), .val (.int p3), .val (.int p4), .val (.int p5), .val (.int p6), .val (.int r1), .val (.int r2), .val (.int r3), .val (.int (Int32.ofNat n)), .val (.int rel), .val (.int md), .unset, .unset, .unset, .unset, .unset, .unset, .unset, .unset, .unset, .unset, .unset] [(.int (XT.ushr p6 (4 : Int32)))])
  refine own_go (fun tz kz => XS.iconst X0.here hx rfl (hb hby at_57) kz) ?_
  show own_Go p.tables e below _ s₁ (mkF m 58 #[.val (.int p1), .val (.int p2), .val (.int p3), .val (.int p4), .val (.int p5), .val (.int p6), .val (.int r1), .val (.int r2), .val (.int r3), .val (.int (Int32.ofNat n)), .val (.int rel), .val (.int md), .unset, .unset, .unset, .unset, .unset, .unset, .unset, .unset, .unset, .unset, .unset] [(.int (3 : Int32)), (.int (XT.ushr p6 (4 : Int32)))])
  refine own_go (fun tz kz => XS.iand X0.here hx rfl (hb hby at_58) rfl kz) ?_
  show own_Go p.tables e below _ s₁ (mkF m 59 #[.val (.int p1), .val (.int p2), .val (.int p3), .val (.int p4), .val (.int p5), .val (.int p6), .val (.int r1), .val (.int r2), .val (.int r3), .val (.int (Int32.ofNat n)), .val (.int rel), .val (.int md), .unset, .unset, .unset, .unset, .unset, .unset, .unset, .unset, .unset, .unset, .unset] [(.int ((XT.ushr p6 (4 : Int32)) &&& (3 : Int32)))])
  refine own_go (fun tz kz => XS.iconst X0.here hx rfl (hb hby at_59) kz) ?_
  show own_Go p.tables e below _ s₁ (mkF m 60 #[.val (.int p1), .val (.int p2), .val (.int p3), .val (.int p4), .val (.int p5), .val (.int p6), .val (.int r1), .val (.int r2), .val (.int r3), .val (.int (Int32.ofNat n)), .val (.int rel), .val (.int md), .unset, .unset, .unset, .unset, .unset, .unset, .unset, .unset, .unset, .unset, .unset] [(.int (3 : Int32)), (.int ((XT.ushr p6 (4 : Int32)) &&& (3 : Int32)))])
  refine own_go (fun tz kz => iremM X0 hx rfl (hb hby at_60) rfl (by decide) kz) ?_
  show own_Go p.tables e below _ s₁ (mkF m 61 #[.val (.int p1), .val (.int p2), .val (.int p3), .val (.int p4), .val (.int p5), .val (.int p6), .val (.int r1), .val (.int r2), .val (.int r3), .val (.int (Int32.ofNat n)), .val (.int rel), .val (.int md), .unset, .unset, .unset, .unset, .unset, .unset, .unset, .unset, .unset, .unset, .unset] [(.int (((XT.ushr p6 (4 : Int32)) &&& (3 : Int32)) % (3 : Int32)))])
  refine own_go (fun tz kz => XS.istore X0.here hx rfl (hb hby at_61) rfl (l' := #[.val (.int p1), .val (.int p2), .val (.int p3), .val (.int p4), .val (.int p5), .val (.int p6), .val (.int r1), .val (.int r2), .val (.int r3), .val (.int (Int32.ofNat n)), .val (.int rel), .val (.int md), .val (.int (((XT.ushr p6 (4 : Int32)) &&& (3 : Int32)) % (3 : Int32))), .unset, .unset, .unset, .unset, .unset, .unset, .unset, .unset, .unset, .unset]) rfl kz) ?_
  show own_Go p.tables e below _ s₁ (mkF m 63 #[.val (.int p1), .val (.int p2), .val (.int p3), .val (.int p4), .val (.int p5), .val (.int p6), .val (.int r1), .val (.int r2), .val (.int r3), .val (.int (Int32.ofNat n)), .val (.int rel), .val (.int md), .val (.int (((XT.ushr p6 (4 : Int32)) &&& (3 : Int32)) % (3 : Int32))), .unset, .unset, .unset, .unset, .unset, .unset, .unset, .unset, .unset, .unset] [])
  generalize gse : (((XT.ushr p6 (4 : Int32)) &&& (3 : Int32)) % (3 : Int32)) = se
  show own_Go p.tables e below _ s₁ (mkF m 63 #[.val (.int p1), .val (.int p2), .val (.int p3), .val (.int p4), .val (.int p5), .val (.int p6), .val (.int r1), .val (.int r2), .val (.int r3), .val (.int (Int32.ofNat n)), .val (.int rel), .val (.int md), .val (.int se), .unset, .unset, .unset, .unset, .unset, .unset, .unset, .unset, .unset, .unset] [])
  refine own_go (fun tz kz => XS.iload X0.here hx rfl (hb hby at_63) rfl kz) ?_
  show own_Go p.tables e below _ s₁ (mkF m 65 #[.val (.int p1), .val (.int p2), .val (.int p3), .val (.int p4), .val (.int p5), .val (.int p6), .val (.int r1), .val (.int r2), .val (.int r3), .val (.int (Int32.ofNat n)), .val (.int rel), .val (.int md), .val (.int se), .unset, .unset, .unset, .unset, .unset, .unset, .unset, .unset, .unset, .unset] [(.int se)])
  have J86 : ∀ (pk : Int32), own_Go p.tables e below (own_P s (Q0 Z p1 p2 p3 p4 p5 p6 h0 n0) room_1.cells room_1.slots) s₁ (mkF m 86 #[.val (.int p1), .val (.int p2), .val (.int p3), .val (.int p4), .val (.int p5), .val (.int p6), .val (.int r1), .val (.int r2), .val (.int r3), .val (.int (Int32.ofNat n)), .val (.int rel), .val (.int md), .val (.int se), .unset, .unset, .unset, .unset, .unset, .unset, .unset, .unset, .unset, .unset] [(.int pk)]) := by
    intro pk
    show own_Go p.tables e below _ s₁ (mkF m 86 #[.val (.int p1), .val (.int p2), .val (.int p3), .val (.int p4), .val (.int p5), .val (.int p6), .val (.int r1), .val (.int r2), .val (.int r3), .val (.int (Int32.ofNat n)), .val (.int rel), .val (.int md), .val (.int se), .unset, .unset, .unset, .unset, .unset, .unset, .unset, .unset, .unset, .unset] [(.int pk)])
    refine own_go (fun tz kz => XS.istore X0.here hx rfl (hb hby at_86) rfl (l' := #[.val (.int p1), .val (.int p2), .val (.int p3), .val (.int p4), .val (.int p5), .val (.int p6), .val (.int r1), .val (.int r2), .val (.int r3), .val (.int (Int32.ofNat n)), .val (.int rel), .val (.int md), .val (.int se), .val (.int pk), .unset, .unset, .unset, .unset, .unset, .unset, .unset, .unset, .unset]) rfl kz) ?_
    show own_Go p.tables e below _ s₁ (mkF m 88 #[.val (.int p1), .val (.int p2), .val (.int p3), .val (.int p4), .val (.int p5), .val (.int p6), .val (.int r1), .val (.int r2), .val (.int r3), .val (.int (Int32.ofNat n)), .val (.int rel), .val (.int md), .val (.int se), .val (.int pk), .unset, .unset, .unset, .unset, .unset, .unset, .unset, .unset, .unset] [])
    refine own_go (fun tz kz => XS.iload X0.here hx rfl (hb hby at_88) rfl kz) ?_
    show own_Go p.tables e below _ s₁ (mkF m 90 #[.val (.int p1), .val (.int p2), .val (.int p3), .val (.int p4), .val (.int p5), .val (.int p6), .val (.int r1), .val (.int r2), .val (.int r3), .val (.int (Int32.ofNat n)), .val (.int rel), .val (.int md), .val (.int se), .val (.int pk), .unset, .unset, .unset, .unset, .unset, .unset, .unset, .unset, .unset] [(.int md)])
    have J138 : ∀ (dp : Int32), own_Go p.tables e below (own_P s (Q0 Z p1 p2 p3 p4 p5 p6 h0 n0) room_1.cells room_1.slots) s₁ (mkF m 138 #[.val (.int p1), .val (.int p2), .val (.int p3), .val (.int p4), .val (.int p5), .val (.int p6), .val (.int r1), .val (.int r2), .val (.int r3), .val (.int (Int32.ofNat n)), .val (.int rel), .val (.int md), .val (.int se), .val (.int pk), .val (.int dp), .unset, .unset, .unset, .unset, .unset, .unset, .unset, .unset] []) := by
      intro dp
      show own_Go p.tables e below _ s₁ (mkF m 138 #[.val (.int p1), .val (.int p2), .val (.int p3), .val (.int p4), .val (.int p5), .val (.int p6), .val (.int r1), .val (.int r2), .val (.int r3), .val (.int (Int32.ofNat n)), .val (.int rel), .val (.int md), .val (.int se), .val (.int pk), .val (.int dp), .unset, .unset, .unset, .unset, .unset, .unset, .unset, .unset] [])
      refine own_go (fun tz kz => XS.iload X0.here hx rfl (hb hby at_138) rfl kz) ?_
      show own_Go p.tables e below _ s₁ (mkF m 140 #[.val (.int p1), .val (.int p2), .val (.int p3), .val (.int p4), .val (.int p5), .val (.int p6), .val (.int r1), .val (.int r2), .val (.int r3), .val (.int (Int32.ofNat n)), .val (.int rel), .val (.int md), .val (.int se), .val (.int pk), .val (.int dp), .unset, .unset, .unset, .unset, .unset, .unset, .unset, .unset] [(.int (Int32.ofNat n))])
      have J206 : ∀ (T1 : State) (h1 : Heap) (lo1 : List Loc) (X1 : Stand p l e room_1 s m #[(.int p1), (.int p2), (.int p3), (.int p4), (.int p5), (.int p6)] below meth c T1 lo1 1 3) (e1 : T1.heap = h1) (N1 : Fr n0 lo1) (Zs1 : n0 ≤ h1.size) (b : Addr) (gb : n0 ≤ b) (Vb : own_Av Z h1 b .int n (fun k => .int (own_g r1 r2 r3 k))), own_Go p.tables e below (own_P s (Q0 Z p1 p2 p3 p4 p5 p6 h0 n0) room_1.cells room_1.slots) T1 (mkF m 206 #[.val (.int p1), .val (.int p2), .val (.int p3), .val (.int p4), .val (.int p5), .val (.int p6), .val (.int r1), .val (.int r2), .val (.int r3), .val (.int (Int32.ofNat n)), .val (.int rel), .val (.int md), .val (.int se), .val (.int pk), .val (.int dp), .unset, .unset, .unset, .unset, .unset, .unset, .unset, .unset] [(.ref b)]) := by
        intro T1 h1 lo1 X1 e1 N1 Zs1 b gb Vb
        show own_Go p.tables e below _ T1 (mkF m 206 #[.val (.int p1), .val (.int p2), .val (.int p3), .val (.int p4), .val (.int p5), .val (.int p6), .val (.int r1), .val (.int r2), .val (.int r3), .val (.int (Int32.ofNat n)), .val (.int rel), .val (.int md), .val (.int se), .val (.int pk), .val (.int dp), .unset, .unset, .unset, .unset, .unset, .unset, .unset, .unset] [(.ref b)])
        refine own_go (fun tz kz => XS.astore X1.here hx rfl (hb hby at_206) rfl rfl (l' := #[.val (.int p1), .val (.int p2), .val (.int p3), .val (.int p4), .val (.int p5), .val (.int p6), .val (.int r1), .val (.int r2), .val (.int r3), .val (.int (Int32.ofNat n)), .val (.int rel), .val (.int md), .val (.int se), .val (.int pk), .val (.int dp), .val (.ref b), .unset, .unset, .unset, .unset, .unset, .unset, .unset]) rfl kz) ?_
        show own_Go p.tables e below _ T1 (mkF m 208 #[.val (.int p1), .val (.int p2), .val (.int p3), .val (.int p4), .val (.int p5), .val (.int p6), .val (.int r1), .val (.int r2), .val (.int r3), .val (.int (Int32.ofNat n)), .val (.int rel), .val (.int md), .val (.int se), .val (.int pk), .val (.int dp), .val (.ref b), .unset, .unset, .unset, .unset, .unset, .unset, .unset] [])
        obtain ⟨T2, h2, X2, e2, E2, A2, D2, -, st2⟩ := newO X1 hx hZ hown (hw _ (List.mem_of_getElem? (i := 2) rfl)) (hw _ (List.mem_of_getElem? (i := 3) rfl)) (hw _ (List.mem_of_getElem? (i := 4) rfl)) e1 (g := (mkF m 208 #[.val (.int p1), .val (.int p2), .val (.int p3), .val (.int p4), .val (.int p5), .val (.int p6), .val (.int r1), .val (.int r2), .val (.int r3), .val (.int (Int32.ofNat n)), .val (.int rel), .val (.int md), .val (.int se), .val (.int pk), .val (.int dp), .val (.ref b), .unset, .unset, .unset, .unset, .unset, .unset, .unset] [])) rfl (hb hby at_208) (by decide) (by decide)
        obtain ⟨o, eq_o⟩ : ∃ z, z = (h1).size := ⟨_, rfl⟩
        rw [← eq_o] at A2 D2 st2
        have g_o : n0 ≤ o := Nat.le_trans Zs1 (Nat.le_of_eq eq_o.symm)
        have F_ranks_o : Fld Z h2 o "com/example/chalk_outline/chalkoutline/Placement" "ranks" "[I" .null := D2 (Or.inr (hw _ (List.mem_of_getElem? (i := 17) rfl))) (ty := (.array .int)) (by decide)
        have F_relevant_o : Fld Z h2 o "com/example/chalk_outline/chalkoutline/Placement" "relevant" "I" (.int (0 : Int32)) := D2 (Or.inr (hw _ (List.mem_of_getElem? (i := 19) rfl))) (ty := .int) (by decide)
        refine own_go st2 ?_
        show own_Go p.tables e below _ T2 (mkF m 211 #[.val (.int p1), .val (.int p2), .val (.int p3), .val (.int p4), .val (.int p5), .val (.int p6), .val (.int r1), .val (.int r2), .val (.int r3), .val (.int (Int32.ofNat n)), .val (.int rel), .val (.int md), .val (.int se), .val (.int pk), .val (.int dp), .val (.ref b), .unset, .unset, .unset, .unset, .unset, .unset, .unset] [(.ref o)])
        refine own_go (fun tz kz => XS.dup X2.here hx rfl (hb hby at_211) rfl rfl kz) ?_
        show own_Go p.tables e below _ T2 (mkF m 212 #[.val (.int p1), .val (.int p2), .val (.int p3), .val (.int p4), .val (.int p5), .val (.int p6), .val (.int r1), .val (.int r2), .val (.int r3), .val (.int (Int32.ofNat n)), .val (.int rel), .val (.int md), .val (.int se), .val (.int pk), .val (.int dp), .val (.ref b), .unset, .unset, .unset, .unset, .unset, .unset, .unset] [(.ref o), (.ref o)])
        refine own_go (fun tz kz => XS.aload X2.here hx rfl (hb hby at_212) rfl rfl kz) ?_
        show own_Go p.tables e below _ T2 (mkF m 214 #[.val (.int p1), .val (.int p2), .val (.int p3), .val (.int p4), .val (.int p5), .val (.int p6), .val (.int r1), .val (.int r2), .val (.int r3), .val (.int (Int32.ofNat n)), .val (.int rel), .val (.int md), .val (.int se), .val (.int pk), .val (.int dp), .val (.ref b), .unset, .unset, .unset, .unset, .unset, .unset, .unset] [(.ref b), (.ref o), (.ref o)])
        refine own_go (fun tz kz => XS.iload X2.here hx rfl (hb hby at_214) rfl kz) ?_
        show own_Go p.tables e below _ T2 (mkF m 216 #[.val (.int p1), .val (.int p2), .val (.int p3), .val (.int p4), .val (.int p5), .val (.int p6), .val (.int r1), .val (.int r2), .val (.int r3), .val (.int (Int32.ofNat n)), .val (.int rel), .val (.int md), .val (.int se), .val (.int pk), .val (.int dp), .val (.ref b), .unset, .unset, .unset, .unset, .unset, .unset, .unset] [(.int rel), (.ref b), (.ref o), (.ref o)])
        obtain ⟨_, _, ⟨T3, L3, k3, n3⟩, -, X3, ⟨Lc3, hQ3, l3, y3, z3⟩, st3⟩ := X2.specialBack hx (y := (⟨"com/example/chalk_outline/chalkoutline/Placement", "<init>", "([II)V"⟩ : MethodName)) rfl hown (mvT hZ (hw _ (List.mem_of_getElem? (i := 5) rfl))) (mvT hZ (hw _ (List.mem_of_getElem? (i := 6) rfl))) (mvT hZ (hw _ (List.mem_of_getElem? (i := 7) rfl))) (by decide) (backOf (W := 1) (rm1 l Z a0 hw [] o b rel _ _ h2 n0 (Nat.le_trans Zs1 E2.1) F_ranks_o F_relevant_o A2 g_o) hZ (hw _ (List.mem_of_getElem? (i := 7) rfl)) (hw _ (List.mem_of_getElem? (i := 4) rfl)) (by decide) (by decide)) (g := (mkF m 216 #[.val (.int p1), .val (.int p2), .val (.int p3), .val (.int p4), .val (.int p5), .val (.int p6), .val (.int r1), .val (.int r2), .val (.int r3), .val (.int (Int32.ofNat n)), .val (.int rel), .val (.int md), .val (.int se), .val (.int pk), .val (.int dp), .val (.ref b), .unset, .unset, .unset, .unset, .unset, .unset, .unset] [(.int rel), (.ref b), (.ref o), (.ref o)])) rfl (by rw [hml]; rfl) (Steps.refl _) (a := o) (argsL := [(.ref b), (.int rel)]) (rest := [(.ref o)]) (lenOf pd_2 rfl) rfl (by show 2 * 0 + _ ≤ _; exact Nat.le_of_eq rfl) (hb hby at_216) (fun _ _ => ⟨rfl, e2, (by decide : 2 + 0 ≤ _), (by decide : 5 + 0 ≤ _)⟩)
        dsimp only [Pt.U, Pt.locs, Pt.cells, Pt.slots] at X3 l3 y3 z3 st3 hQ3
        subst l3 y3 z3
        obtain ⟨rfl, N3q, K3, Ex, Fr', Fe⟩ := hQ3
        have N3 := Fr.app N1 N3q
        refine own_go (fun tz kz => st3.trans kz) ?_
        show own_Go p.tables e below _ T3 (mkF m 219 #[.val (.int p1), .val (.int p2), .val (.int p3), .val (.int p4), .val (.int p5), .val (.int p6), .val (.int r1), .val (.int r2), .val (.int r3), .val (.int (Int32.ofNat n)), .val (.int rel), .val (.int md), .val (.int se), .val (.int pk), .val (.int dp), .val (.ref b), .unset, .unset, .unset, .unset, .unset, .unset, .unset] [(.ref o)])
        have Vb' := own_Av.keep (Vb.ext E2) K3 (own_not1 (Nat.ne_of_lt (Nat.lt_of_lt_of_le Vb.lt (Nat.le_of_eq eq_o.symm))))
        refine own_go (fun tz kz => XS.iload X3.here hx rfl (hb hby at_219) rfl kz) ?_
        show own_Go p.tables e below _ T3 (mkF m 221 #[.val (.int p1), .val (.int p2), .val (.int p3), .val (.int p4), .val (.int p5), .val (.int p6), .val (.int r1), .val (.int r2), .val (.int r3), .val (.int (Int32.ofNat n)), .val (.int rel), .val (.int md), .val (.int se), .val (.int pk), .val (.int dp), .val (.ref b), .unset, .unset, .unset, .unset, .unset, .unset, .unset] [(.int dp), (.ref o)])
        obtain ⟨cq4, kq4, q4a, q4b, q4c⟩ := isOf hZ rfl Ex
        obtain ⟨_, _, ⟨T4, L4, k4, n4⟩, -, X4, ⟨Lc4, hQ4, l4, y4, z4⟩, st4⟩ := X3.virtualBack hx (y := (⟨"com/example/chalk_outline/chalkoutline/Placement", "averagePrecision", "(I)D"⟩ : MethodName)) (z := (⟨"com/example/chalk_outline/chalkoutline/Placement", "averagePrecision", "(I)D"⟩ : MethodName)) hown (mvT hZ (hw _ (List.mem_of_getElem? (i := 20) rfl))) (mvT hZ (hw _ (List.mem_of_getElem? (i := 21) rfl))) (notFace_of_selects (args := #[]) (mvT hZ (hw _ (List.mem_of_getElem? (i := 23) rfl)))) (mvT hZ (hw _ (List.mem_of_getElem? (i := 23) rfl))) (mvT hZ (hw _ (List.mem_of_getElem? (i := 22) rfl))) (by decide) (backOf (W := 0) (rm4 l Z a0 hw [] o dp b n (own_g r1 r2 r3) rel T3.heap n0 (Nat.le_trans (Nat.le_trans Zs1 E2.1) K3.1) Fr' Fe Ex Vb' hn hg) hZ (hw _ (List.mem_of_getElem? (i := 24) rfl)) (hw _ (List.mem_of_getElem? (i := 4) rfl)) (by decide) (by decide)) q4a q4c (g := (mkF m 221 #[.val (.int p1), .val (.int p2), .val (.int p3), .val (.int p4), .val (.int p5), .val (.int p6), .val (.int r1), .val (.int r2), .val (.int r3), .val (.int (Int32.ofNat n)), .val (.int rel), .val (.int md), .val (.int se), .val (.int pk), .val (.int dp), .val (.ref b), .unset, .unset, .unset, .unset, .unset, .unset, .unset] [(.int dp), (.ref o)])) rfl (by rw [hml]; rfl) (Steps.refl _) (argsL := [(.int dp)]) (rest := []) (lenOf pd_3 rfl) rfl (by show 2 * 0 + _ ≤ _; exact Nat.le_of_eq rfl) (hb hby at_221) (fun _ _ => ⟨rfl, rfl, (by decide : 2 + 0 ≤ _), (by decide : 5 + 0 ≤ _)⟩)
        dsimp only [Pt.U, Pt.locs, Pt.cells, Pt.slots] at X4 l4 y4 z4 st4 hQ4
        subst l4 y4 z4
        obtain ⟨rfl, N4q, e4⟩ := hQ4
        have N4 := Fr.app N3 N4q
        refine own_go (fun tz kz => st4.trans kz) ?_
        show own_Go p.tables e below _ T4 (mkF m 224 #[.val (.int p1), .val (.int p2), .val (.int p3), .val (.int p4), .val (.int p5), .val (.int p6), .val (.int r1), .val (.int r2), .val (.int r3), .val (.int (Int32.ofNat n)), .val (.int rel), .val (.int md), .val (.int se), .val (.int pk), .val (.int dp), .val (.ref b), .unset, .unset, .unset, .unset, .unset, .unset, .unset] [(.double (own_ap (own_g r1 r2 r3) (own_fnd (own_g r1 r2 r3) dp n 0) rel))])
        have hkk := own_kk_eq (r1 := r1) (r2 := r2) (r3 := r3) (d := dp) n hn
        have hF : own_fnd (own_g r1 r2 r3) dp n 0 ≤ n := Nat.le_trans (own_fnd_le (own_g r1 r2 r3) dp n 0) (by omega)
        generalize own_fnd (own_g r1 r2 r3) dp n 0 = F0 at hF hkk ⊢
        show own_Go p.tables e below _ T4 (mkF m 224 #[.val (.int p1), .val (.int p2), .val (.int p3), .val (.int p4), .val (.int p5), .val (.int p6), .val (.int r1), .val (.int r2), .val (.int r3), .val (.int (Int32.ofNat n)), .val (.int rel), .val (.int md), .val (.int se), .val (.int pk), .val (.int dp), .val (.ref b), .unset, .unset, .unset, .unset, .unset, .unset, .unset] [(.double (own_ap (own_g r1 r2 r3) F0 rel))])
        refine own_go (fun tz kz => XS.dstore X4.here hx rfl (hb hby at_224) rfl (l' := #[.val (.int p1), .val (.int p2), .val (.int p3), .val (.int p4), .val (.int p5), .val (.int p6), .val (.int r1), .val (.int r2), .val (.int r3), .val (.int (Int32.ofNat n)), .val (.int rel), .val (.int md), .val (.int se), .val (.int pk), .val (.int dp), .val (.ref b), .val (.double (own_ap (own_g r1 r2 r3) F0 rel)), .second, .unset, .unset, .unset, .unset, .unset]) rfl kz) ?_
        show own_Go p.tables e below _ T4 (mkF m 226 #[.val (.int p1), .val (.int p2), .val (.int p3), .val (.int p4), .val (.int p5), .val (.int p6), .val (.int r1), .val (.int r2), .val (.int r3), .val (.int (Int32.ofNat n)), .val (.int rel), .val (.int md), .val (.int se), .val (.int pk), .val (.int dp), .val (.ref b), .val (.double (own_ap (own_g r1 r2 r3) F0 rel)), .second, .unset, .unset, .unset, .unset, .unset] [])
        refine own_go (fun tz kz => XS.iconst X4.here hx rfl (hb hby at_226) kz) ?_
        show own_Go p.tables e below _ T4 (mkF m 227 #[.val (.int p1), .val (.int p2), .val (.int p3), .val (.int p4), .val (.int p5), .val (.int p6), .val (.int r1), .val (.int r2), .val (.int r3), .val (.int (Int32.ofNat n)), .val (.int rel), .val (.int md), .val (.int se), .val (.int pk), .val (.int dp), .val (.ref b), .val (.double (own_ap (own_g r1 r2 r3) F0 rel)), .second, .unset, .unset, .unset, .unset, .unset] [(.int (0 : Int32))])
        refine own_go (fun tz kz => XS.istore X4.here hx rfl (hb hby at_227) rfl (l' := #[.val (.int p1), .val (.int p2), .val (.int p3), .val (.int p4), .val (.int p5), .val (.int p6), .val (.int r1), .val (.int r2), .val (.int r3), .val (.int (Int32.ofNat n)), .val (.int rel), .val (.int md), .val (.int se), .val (.int pk), .val (.int dp), .val (.ref b), .val (.double (own_ap (own_g r1 r2 r3) F0 rel)), .second, .val (.int (0 : Int32)), .unset, .unset, .unset, .unset]) rfl kz) ?_
        show own_Go p.tables e below _ T4 (mkF m 229 #[.val (.int p1), .val (.int p2), .val (.int p3), .val (.int p4), .val (.int p5), .val (.int p6), .val (.int r1), .val (.int r2), .val (.int r3), .val (.int (Int32.ofNat n)), .val (.int rel), .val (.int md), .val (.int se), .val (.int pk), .val (.int dp), .val (.ref b), .val (.double (own_ap (own_g r1 r2 r3) F0 rel)), .second, .val (.int (0 : Int32)), .unset, .unset, .unset, .unset] [])
        refine own_go (fun tz kz => XS.iload X4.here hx rfl (hb hby at_229) rfl kz) ?_
        show own_Go p.tables e below _ T4 (mkF m 231 #[.val (.int p1), .val (.int p2), .val (.int p3), .val (.int p4), .val (.int p5), .val (.int p6), .val (.int r1), .val (.int r2), .val (.int r3), .val (.int (Int32.ofNat n)), .val (.int rel), .val (.int md), .val (.int se), .val (.int pk), .val (.int dp), .val (.ref b), .val (.double (own_ap (own_g r1 r2 r3) F0 rel)), .second, .val (.int (0 : Int32)), .unset, .unset, .unset, .unset] [(.int (Int32.ofNat n))])
        refine own_go (fun tz kz => XS.iconst X4.here hx rfl (hb hby at_231) kz) ?_
        show own_Go p.tables e below _ T4 (mkF m 232 #[.val (.int p1), .val (.int p2), .val (.int p3), .val (.int p4), .val (.int p5), .val (.int p6), .val (.int r1), .val (.int r2), .val (.int r3), .val (.int (Int32.ofNat n)), .val (.int rel), .val (.int md), .val (.int se), .val (.int pk), .val (.int dp), .val (.ref b), .val (.double (own_ap (own_g r1 r2 r3) F0 rel)), .second, .val (.int (0 : Int32)), .unset, .unset, .unset, .unset] [(.int (1 : Int32)), (.int (Int32.ofNat n))])
        have J277 : ∀ (x : Int32) (hx0 : x = own_kk n dp r1 r2 r3), own_Go p.tables e below (own_P s (Q0 Z p1 p2 p3 p4 p5 p6 h0 n0) room_1.cells room_1.slots) T4 (mkF m 277 #[.val (.int p1), .val (.int p2), .val (.int p3), .val (.int p4), .val (.int p5), .val (.int p6), .val (.int r1), .val (.int r2), .val (.int r3), .val (.int (Int32.ofNat n)), .val (.int rel), .val (.int md), .val (.int se), .val (.int pk), .val (.int dp), .val (.ref b), .val (.double (own_ap (own_g r1 r2 r3) F0 rel)), .second, .val (.int x), .unset, .unset, .unset, .unset] []) := by
          intro x hx0
          show own_Go p.tables e below _ T4 (mkF m 277 #[.val (.int p1), .val (.int p2), .val (.int p3), .val (.int p4), .val (.int p5), .val (.int p6), .val (.int r1), .val (.int r2), .val (.int r3), .val (.int (Int32.ofNat n)), .val (.int rel), .val (.int md), .val (.int se), .val (.int pk), .val (.int dp), .val (.ref b), .val (.double (own_ap (own_g r1 r2 r3) F0 rel)), .second, .val (.int x), .unset, .unset, .unset, .unset] [])
          rw [hkk] at hx0
          subst hx0
          show own_Go p.tables e below _ T4 (mkF m 277 #[.val (.int p1), .val (.int p2), .val (.int p3), .val (.int p4), .val (.int p5), .val (.int p6), .val (.int r1), .val (.int r2), .val (.int r3), .val (.int (Int32.ofNat n)), .val (.int rel), .val (.int md), .val (.int se), .val (.int pk), .val (.int dp), .val (.ref b), .val (.double (own_ap (own_g r1 r2 r3) F0 rel)), .second, .val (.int (Int32.ofNat F0)), .unset, .unset, .unset, .unset] [])
          refine own_go (fun tz kz => XS.dconst0 X4.here hx rfl (hb hby at_277) rfl kz) ?_
          show own_Go p.tables e below _ T4 (mkF m 278 #[.val (.int p1), .val (.int p2), .val (.int p3), .val (.int p4), .val (.int p5), .val (.int p6), .val (.int r1), .val (.int r2), .val (.int r3), .val (.int (Int32.ofNat n)), .val (.int rel), .val (.int md), .val (.int se), .val (.int pk), .val (.int dp), .val (.ref b), .val (.double (own_ap (own_g r1 r2 r3) F0 rel)), .second, .val (.int (Int32.ofNat F0)), .unset, .unset, .unset, .unset] [(.double FP.dconst0)])
          refine own_go (fun tz kz => XS.dstore X4.here hx rfl (hb hby at_278) rfl (l' := #[.val (.int p1), .val (.int p2), .val (.int p3), .val (.int p4), .val (.int p5), .val (.int p6), .val (.int r1), .val (.int r2), .val (.int r3), .val (.int (Int32.ofNat n)), .val (.int rel), .val (.int md), .val (.int se), .val (.int pk), .val (.int dp), .val (.ref b), .val (.double (own_ap (own_g r1 r2 r3) F0 rel)), .second, .val (.int (Int32.ofNat F0)), .val (.double FP.dconst0), .second, .unset, .unset]) rfl kz) ?_
          show own_Go p.tables e below _ T4 (mkF m 280 #[.val (.int p1), .val (.int p2), .val (.int p3), .val (.int p4), .val (.int p5), .val (.int p6), .val (.int r1), .val (.int r2), .val (.int r3), .val (.int (Int32.ofNat n)), .val (.int rel), .val (.int md), .val (.int se), .val (.int pk), .val (.int dp), .val (.ref b), .val (.double (own_ap (own_g r1 r2 r3) F0 rel)), .second, .val (.int (Int32.ofNat F0)), .val (.double FP.dconst0), .second, .unset, .unset] [])
          refine own_go (fun tz kz => XS.iload X4.here hx rfl (hb hby at_280) rfl kz) ?_
          show own_Go p.tables e below _ T4 (mkF m 282 #[.val (.int p1), .val (.int p2), .val (.int p3), .val (.int p4), .val (.int p5), .val (.int p6), .val (.int r1), .val (.int r2), .val (.int r3), .val (.int (Int32.ofNat n)), .val (.int rel), .val (.int md), .val (.int se), .val (.int pk), .val (.int dp), .val (.ref b), .val (.double (own_ap (own_g r1 r2 r3) F0 rel)), .second, .val (.int (Int32.ofNat F0)), .val (.double FP.dconst0), .second, .unset, .unset] [(.int (Int32.ofNat F0))])
          refine own_go (fun tz kz => XS.iconst X4.here hx rfl (hb hby at_282) kz) ?_
          show own_Go p.tables e below _ T4 (mkF m 283 #[.val (.int p1), .val (.int p2), .val (.int p3), .val (.int p4), .val (.int p5), .val (.int p6), .val (.int r1), .val (.int r2), .val (.int r3), .val (.int (Int32.ofNat n)), .val (.int rel), .val (.int md), .val (.int se), .val (.int pk), .val (.int dp), .val (.ref b), .val (.double (own_ap (own_g r1 r2 r3) F0 rel)), .second, .val (.int (Int32.ofNat F0)), .val (.double FP.dconst0), .second, .unset, .unset] [(.int (1 : Int32)), (.int (Int32.ofNat F0))])
          rcases (by omega : F0 = 0 ∨ F0 = 1 ∨ F0 = 2 ∨ F0 = 3) with rfl | rfl | rfl | rfl
          ·
            show own_Go p.tables e below _ T4 (mkF m 283 #[.val (.int p1), .val (.int p2), .val (.int p3), .val (.int p4), .val (.int p5), .val (.int p6), .val (.int r1), .val (.int r2), .val (.int r3), .val (.int (Int32.ofNat n)), .val (.int rel), .val (.int md), .val (.int se), .val (.int pk), .val (.int dp), .val (.ref b), .val (.double (own_ap (own_g r1 r2 r3) 0 rel)), .second, .val (.int (Int32.ofNat 0)), .val (.double FP.dconst0), .second, .unset, .unset] [(.int (1 : Int32)), (.int (Int32.ofNat 0))])
            refine own_go (fun tz kz => XS.icmpYes X4.here hx rfl (pc0 := 283) (pc' := 296) rfl (hb hby at_283) rfl (XT.ii_lt_t (by decide)) (by decide) (by decide) kz) ?_
            show own_Go p.tables e below _ T4 (mkF m 296 #[.val (.int p1), .val (.int p2), .val (.int p3), .val (.int p4), .val (.int p5), .val (.int p6), .val (.int r1), .val (.int r2), .val (.int r3), .val (.int (Int32.ofNat n)), .val (.int rel), .val (.int md), .val (.int se), .val (.int pk), .val (.int dp), .val (.ref b), .val (.double (own_ap (own_g r1 r2 r3) 0 rel)), .second, .val (.int (Int32.ofNat 0)), .val (.double FP.dconst0), .second, .unset, .unset] [])
            refine own_go (fun tz kz => XS.iload X4.here hx rfl (hb hby at_296) rfl kz) ?_
            show own_Go p.tables e below _ T4 (mkF m 298 #[.val (.int p1), .val (.int p2), .val (.int p3), .val (.int p4), .val (.int p5), .val (.int p6), .val (.int r1), .val (.int r2), .val (.int r3), .val (.int (Int32.ofNat n)), .val (.int rel), .val (.int md), .val (.int se), .val (.int pk), .val (.int dp), .val (.ref b), .val (.double (own_ap (own_g r1 r2 r3) 0 rel)), .second, .val (.int (Int32.ofNat 0)), .val (.double FP.dconst0), .second, .unset, .unset] [(.int (Int32.ofNat 0))])
            refine own_go (fun tz kz => XS.iconst X4.here hx rfl (hb hby at_298) kz) ?_
            show own_Go p.tables e below _ T4 (mkF m 299 #[.val (.int p1), .val (.int p2), .val (.int p3), .val (.int p4), .val (.int p5), .val (.int p6), .val (.int r1), .val (.int r2), .val (.int r3), .val (.int (Int32.ofNat n)), .val (.int rel), .val (.int md), .val (.int se), .val (.int pk), .val (.int dp), .val (.ref b), .val (.double (own_ap (own_g r1 r2 r3) 0 rel)), .second, .val (.int (Int32.ofNat 0)), .val (.double FP.dconst0), .second, .unset, .unset] [(.int (2 : Int32)), (.int (Int32.ofNat 0))])
            refine own_go (fun tz kz => XS.icmpYes X4.here hx rfl (pc0 := 299) (pc' := 314) rfl (hb hby at_299) rfl (XT.ii_lt_t (by decide)) (by decide) (by decide) kz) ?_
            show own_Go p.tables e below _ T4 (mkF m 314 #[.val (.int p1), .val (.int p2), .val (.int p3), .val (.int p4), .val (.int p5), .val (.int p6), .val (.int r1), .val (.int r2), .val (.int r3), .val (.int (Int32.ofNat n)), .val (.int rel), .val (.int md), .val (.int se), .val (.int pk), .val (.int dp), .val (.ref b), .val (.double (own_ap (own_g r1 r2 r3) 0 rel)), .second, .val (.int (Int32.ofNat 0)), .val (.double FP.dconst0), .second, .unset, .unset] [])
            refine own_go (fun tz kz => XS.iload X4.here hx rfl (hb hby at_314) rfl kz) ?_
            show own_Go p.tables e below _ T4 (mkF m 316 #[.val (.int p1), .val (.int p2), .val (.int p3), .val (.int p4), .val (.int p5), .val (.int p6), .val (.int r1), .val (.int r2), .val (.int r3), .val (.int (Int32.ofNat n)), .val (.int rel), .val (.int md), .val (.int se), .val (.int pk), .val (.int dp), .val (.ref b), .val (.double (own_ap (own_g r1 r2 r3) 0 rel)), .second, .val (.int (Int32.ofNat 0)), .val (.double FP.dconst0), .second, .unset, .unset] [(.int (Int32.ofNat 0))])
            refine own_go (fun tz kz => XS.iconst X4.here hx rfl (hb hby at_316) kz) ?_
            show own_Go p.tables e below _ T4 (mkF m 317 #[.val (.int p1), .val (.int p2), .val (.int p3), .val (.int p4), .val (.int p5), .val (.int p6), .val (.int r1), .val (.int r2), .val (.int r3), .val (.int (Int32.ofNat n)), .val (.int rel), .val (.int md), .val (.int se), .val (.int pk), .val (.int dp), .val (.ref b), .val (.double (own_ap (own_g r1 r2 r3) 0 rel)), .second, .val (.int (Int32.ofNat 0)), .val (.double FP.dconst0), .second, .unset, .unset] [(.int (3 : Int32)), (.int (Int32.ofNat 0))])
            refine own_go (fun tz kz => XS.icmpYes X4.here hx rfl (pc0 := 317) (pc' := 332) rfl (hb hby at_317) rfl (XT.ii_lt_t (by decide)) (by decide) (by decide) kz) ?_
            show own_Go p.tables e below _ T4 (mkF m 332 #[.val (.int p1), .val (.int p2), .val (.int p3), .val (.int p4), .val (.int p5), .val (.int p6), .val (.int r1), .val (.int r2), .val (.int r3), .val (.int (Int32.ofNat n)), .val (.int rel), .val (.int md), .val (.int se), .val (.int pk), .val (.int dp), .val (.ref b), .val (.double (own_ap (own_g r1 r2 r3) 0 rel)), .second, .val (.int (Int32.ofNat 0)), .val (.double FP.dconst0), .second, .unset, .unset] [])
            show own_Go p.tables e below _ T4 (mkF m 332 #[.val (.int p1), .val (.int p2), .val (.int p3), .val (.int p4), .val (.int p5), .val (.int p6), .val (.int r1), .val (.int r2), .val (.int r3), .val (.int (Int32.ofNat n)), .val (.int rel), .val (.int md), .val (.int se), .val (.int pk), .val (.int dp), .val (.ref b), .val (.double (own_ap (own_g r1 r2 r3) 0 rel)), .second, .val (.int (Int32.ofNat 0)), .val (.double (own_s (own_g r1 r2 r3) 0)), .second, .unset, .unset] [])
            refine own_go (fun tz kz => XS.iload X4.here hx rfl (hb hby at_332) rfl kz) ?_
            show own_Go p.tables e below _ T4 (mkF m 334 #[.val (.int p1), .val (.int p2), .val (.int p3), .val (.int p4), .val (.int p5), .val (.int p6), .val (.int r1), .val (.int r2), .val (.int r3), .val (.int (Int32.ofNat n)), .val (.int rel), .val (.int md), .val (.int se), .val (.int pk), .val (.int dp), .val (.ref b), .val (.double (own_ap (own_g r1 r2 r3) 0 rel)), .second, .val (.int (Int32.ofNat 0)), .val (.double (own_s (own_g r1 r2 r3) 0)), .second, .unset, .unset] [(.int rel)])
            by_cases hr0 : rel = (0 : Int32)
            ·
              refine own_go (fun tz kz => XS.ifNo X4.here hx rfl (hb hby at_334) rfl (XT.i0_ne_f hr0) kz) ?_
              show own_Go p.tables e below _ T4 (mkF m 337 #[.val (.int p1), .val (.int p2), .val (.int p3), .val (.int p4), .val (.int p5), .val (.int p6), .val (.int r1), .val (.int r2), .val (.int r3), .val (.int (Int32.ofNat n)), .val (.int rel), .val (.int md), .val (.int se), .val (.int pk), .val (.int dp), .val (.ref b), .val (.double (own_ap (own_g r1 r2 r3) 0 rel)), .second, .val (.int (Int32.ofNat 0)), .val (.double (own_s (own_g r1 r2 r3) 0)), .second, .unset, .unset] [])
              refine own_go (fun tz kz => XS.dconst0 X4.here hx rfl (hb hby at_337) rfl kz) ?_
              show own_Go p.tables e below _ T4 (mkF m 338 #[.val (.int p1), .val (.int p2), .val (.int p3), .val (.int p4), .val (.int p5), .val (.int p6), .val (.int r1), .val (.int r2), .val (.int r3), .val (.int (Int32.ofNat n)), .val (.int rel), .val (.int md), .val (.int se), .val (.int pk), .val (.int dp), .val (.ref b), .val (.double (own_ap (own_g r1 r2 r3) 0 rel)), .second, .val (.int (Int32.ofNat 0)), .val (.double (own_s (own_g r1 r2 r3) 0)), .second, .unset, .unset] [(.double FP.dconst0)])
              refine own_go (fun tz kz => XS.goto X4.here hx rfl (pc0 := 338) (pc' := 347) rfl (hb hby at_338) (by decide) (by decide) kz) ?_
              show own_Go p.tables e below _ T4 (mkF m 347 #[.val (.int p1), .val (.int p2), .val (.int p3), .val (.int p4), .val (.int p5), .val (.int p6), .val (.int r1), .val (.int r2), .val (.int r3), .val (.int (Int32.ofNat n)), .val (.int rel), .val (.int md), .val (.int se), .val (.int pk), .val (.int dp), .val (.ref b), .val (.double (own_ap (own_g r1 r2 r3) 0 rel)), .second, .val (.int (Int32.ofNat 0)), .val (.double (own_s (own_g r1 r2 r3) 0)), .second, .unset, .unset] [(.double FP.dconst0)])
              rw [show FP.dconst0 = (own_ap (own_g r1 r2 r3) 0 rel) from (if_pos hr0).symm]
              show own_Go p.tables e below _ T4 (mkF m 347 #[.val (.int p1), .val (.int p2), .val (.int p3), .val (.int p4), .val (.int p5), .val (.int p6), .val (.int r1), .val (.int r2), .val (.int r3), .val (.int (Int32.ofNat n)), .val (.int rel), .val (.int md), .val (.int se), .val (.int pk), .val (.int dp), .val (.ref b), .val (.double (own_ap (own_g r1 r2 r3) 0 rel)), .second, .val (.int (Int32.ofNat 0)), .val (.double (own_s (own_g r1 r2 r3) 0)), .second, .unset, .unset] [(.double (own_ap (own_g r1 r2 r3) 0 rel))])
              refine own_go (fun tz kz => XS.dstore X4.here hx rfl (hb hby at_347) rfl (l' := #[.val (.int p1), .val (.int p2), .val (.int p3), .val (.int p4), .val (.int p5), .val (.int p6), .val (.int r1), .val (.int r2), .val (.int r3), .val (.int (Int32.ofNat n)), .val (.int rel), .val (.int md), .val (.int se), .val (.int pk), .val (.int dp), .val (.ref b), .val (.double (own_ap (own_g r1 r2 r3) 0 rel)), .second, .val (.int (Int32.ofNat 0)), .val (.double (own_s (own_g r1 r2 r3) 0)), .second, .val (.double (own_ap (own_g r1 r2 r3) 0 rel)), .second]) rfl kz) ?_
              show own_Go p.tables e below _ T4 (mkF m 349 #[.val (.int p1), .val (.int p2), .val (.int p3), .val (.int p4), .val (.int p5), .val (.int p6), .val (.int r1), .val (.int r2), .val (.int r3), .val (.int (Int32.ofNat n)), .val (.int rel), .val (.int md), .val (.int se), .val (.int pk), .val (.int dp), .val (.ref b), .val (.double (own_ap (own_g r1 r2 r3) 0 rel)), .second, .val (.int (Int32.ofNat 0)), .val (.double (own_s (own_g r1 r2 r3) 0)), .second, .val (.double (own_ap (own_g r1 r2 r3) 0 rel)), .second] [])
              refine own_go (fun tz kz => XS.dload X4.here hx rfl (hb hby at_349) rfl kz) ?_
              show own_Go p.tables e below _ T4 (mkF m 351 #[.val (.int p1), .val (.int p2), .val (.int p3), .val (.int p4), .val (.int p5), .val (.int p6), .val (.int r1), .val (.int r2), .val (.int r3), .val (.int (Int32.ofNat n)), .val (.int rel), .val (.int md), .val (.int se), .val (.int pk), .val (.int dp), .val (.ref b), .val (.double (own_ap (own_g r1 r2 r3) 0 rel)), .second, .val (.int (Int32.ofNat 0)), .val (.double (own_s (own_g r1 r2 r3) 0)), .second, .val (.double (own_ap (own_g r1 r2 r3) 0 rel)), .second] [(.double (own_ap (own_g r1 r2 r3) 0 rel))])
              refine own_go (fun tz kz => XS.dload X4.here hx rfl (hb hby at_351) rfl kz) ?_
              show own_Go p.tables e below _ T4 (mkF m 353 #[.val (.int p1), .val (.int p2), .val (.int p3), .val (.int p4), .val (.int p5), .val (.int p6), .val (.int r1), .val (.int r2), .val (.int r3), .val (.int (Int32.ofNat n)), .val (.int rel), .val (.int md), .val (.int se), .val (.int pk), .val (.int dp), .val (.ref b), .val (.double (own_ap (own_g r1 r2 r3) 0 rel)), .second, .val (.int (Int32.ofNat 0)), .val (.double (own_s (own_g r1 r2 r3) 0)), .second, .val (.double (own_ap (own_g r1 r2 r3) 0 rel)), .second] [(.double (own_ap (own_g r1 r2 r3) 0 rel)), (.double (own_ap (own_g r1 r2 r3) 0 rel))])
              refine own_go (fun tz kz => XS.dcmpS X4.here hx rfl (hb hby at_353) rfl (dcmpV_self (own_nap hg hF (by omega) rel) _) kz) ?_
              show own_Go p.tables e below _ T4 (mkF m 354 #[.val (.int p1), .val (.int p2), .val (.int p3), .val (.int p4), .val (.int p5), .val (.int p6), .val (.int r1), .val (.int r2), .val (.int r3), .val (.int (Int32.ofNat n)), .val (.int rel), .val (.int md), .val (.int se), .val (.int pk), .val (.int dp), .val (.ref b), .val (.double (own_ap (own_g r1 r2 r3) 0 rel)), .second, .val (.int (Int32.ofNat 0)), .val (.double (own_s (own_g r1 r2 r3) 0)), .second, .val (.double (own_ap (own_g r1 r2 r3) 0 rel)), .second] [(.int (0 : Int32))])
              refine own_go (fun tz kz => XS.ifNo X4.here hx rfl (hb hby at_354) rfl (XT.i0_ne_f rfl) kz) ?_
              show own_Go p.tables e below _ T4 (mkF m 357 #[.val (.int p1), .val (.int p2), .val (.int p3), .val (.int p4), .val (.int p5), .val (.int p6), .val (.int r1), .val (.int r2), .val (.int r3), .val (.int (Int32.ofNat n)), .val (.int rel), .val (.int md), .val (.int se), .val (.int pk), .val (.int dp), .val (.ref b), .val (.double (own_ap (own_g r1 r2 r3) 0 rel)), .second, .val (.int (Int32.ofNat 0)), .val (.double (own_s (own_g r1 r2 r3) 0)), .second, .val (.double (own_ap (own_g r1 r2 r3) 0 rel)), .second] [])
              refine own_go (fun tz kz => XS.iconst X4.here hx rfl (hb hby at_357) kz) ?_
              show own_Go p.tables e below _ T4 (mkF m 358 #[.val (.int p1), .val (.int p2), .val (.int p3), .val (.int p4), .val (.int p5), .val (.int p6), .val (.int r1), .val (.int r2), .val (.int r3), .val (.int (Int32.ofNat n)), .val (.int rel), .val (.int md), .val (.int se), .val (.int pk), .val (.int dp), .val (.ref b), .val (.double (own_ap (own_g r1 r2 r3) 0 rel)), .second, .val (.int (Int32.ofNat 0)), .val (.double (own_s (own_g r1 r2 r3) 0)), .second, .val (.double (own_ap (own_g r1 r2 r3) 0 rel)), .second] [(.int (1 : Int32))])
              refine own_go (fun tz kz => XS.goto X4.here hx rfl (pc0 := 358) (pc' := 362) rfl (hb hby at_358) (by decide) (by decide) kz) ?_
              show own_Go p.tables e below _ T4 (mkF m 362 #[.val (.int p1), .val (.int p2), .val (.int p3), .val (.int p4), .val (.int p5), .val (.int p6), .val (.int r1), .val (.int r2), .val (.int r3), .val (.int (Int32.ofNat n)), .val (.int rel), .val (.int md), .val (.int se), .val (.int pk), .val (.int dp), .val (.ref b), .val (.double (own_ap (own_g r1 r2 r3) 0 rel)), .second, .val (.int (Int32.ofNat 0)), .val (.double (own_s (own_g r1 r2 r3) 0)), .second, .val (.double (own_ap (own_g r1 r2 r3) 0 rel)), .second] [(.int (1 : Int32))])
              obtain ⟨fs, hr, hrun, hended, hW, hsame⟩ := X4.leave (v := some (.int (1 : Int32))) (fun h => by rw [Bd.returns] at h; cases h) (BodyLoose.notSynchronized Bd)
              refine ⟨_, _, ?_, hrun, hended, _, _, rfl, ?_, ⟨_, rfl⟩, hW, hsame.mono (by decide) (by decide)⟩
              · exact retN X4 hx (t := .boolean) Bd.returns (by simp) (hb hby at_362) hr
              · show Q0 Z p1 p2 p3 p4 p5 p6 h0 n0 _ T4.heap _
                rw [e4]
                exact ⟨rfl, N4⟩
            ·
              refine own_go (fun tz kz => XS.ifYes X4.here hx rfl (pc0 := 334) (pc' := 341) rfl (hb hby at_334) rfl (XT.i0_ne_t hr0) (by decide) (by decide) kz) ?_
              show own_Go p.tables e below _ T4 (mkF m 341 #[.val (.int p1), .val (.int p2), .val (.int p3), .val (.int p4), .val (.int p5), .val (.int p6), .val (.int r1), .val (.int r2), .val (.int r3), .val (.int (Int32.ofNat n)), .val (.int rel), .val (.int md), .val (.int se), .val (.int pk), .val (.int dp), .val (.ref b), .val (.double (own_ap (own_g r1 r2 r3) 0 rel)), .second, .val (.int (Int32.ofNat 0)), .val (.double (own_s (own_g r1 r2 r3) 0)), .second, .unset, .unset] [])
              refine own_go (fun tz kz => XS.dload X4.here hx rfl (hb hby at_341) rfl kz) ?_
              show own_Go p.tables e below _ T4 (mkF m 343 #[.val (.int p1), .val (.int p2), .val (.int p3), .val (.int p4), .val (.int p5), .val (.int p6), .val (.int r1), .val (.int r2), .val (.int r3), .val (.int (Int32.ofNat n)), .val (.int rel), .val (.int md), .val (.int se), .val (.int pk), .val (.int dp), .val (.ref b), .val (.double (own_ap (own_g r1 r2 r3) 0 rel)), .second, .val (.int (Int32.ofNat 0)), .val (.double (own_s (own_g r1 r2 r3) 0)), .second, .unset, .unset] [(.double (own_s (own_g r1 r2 r3) 0))])
              refine own_go (fun tz kz => XS.iload X4.here hx rfl (hb hby at_343) rfl kz) ?_
              show own_Go p.tables e below _ T4 (mkF m 345 #[.val (.int p1), .val (.int p2), .val (.int p3), .val (.int p4), .val (.int p5), .val (.int p6), .val (.int r1), .val (.int r2), .val (.int r3), .val (.int (Int32.ofNat n)), .val (.int rel), .val (.int md), .val (.int se), .val (.int pk), .val (.int dp), .val (.ref b), .val (.double (own_ap (own_g r1 r2 r3) 0 rel)), .second, .val (.int (Int32.ofNat 0)), .val (.double (own_s (own_g r1 r2 r3) 0)), .second, .unset, .unset] [(.int rel), (.double (own_s (own_g r1 r2 r3) 0))])
              refine own_go (fun tz kz => XS.i2dS X4.here hx rfl (hb hby at_345) rfl rfl kz) ?_
              show own_Go p.tables e below _ T4 (mkF m 346 #[.val (.int p1), .val (.int p2), .val (.int p3), .val (.int p4), .val (.int p5), .val (.int p6), .val (.int r1), .val (.int r2), .val (.int r3), .val (.int (Int32.ofNat n)), .val (.int rel), .val (.int md), .val (.int se), .val (.int pk), .val (.int dp), .val (.ref b), .val (.double (own_ap (own_g r1 r2 r3) 0 rel)), .second, .val (.int (Int32.ofNat 0)), .val (.double (own_s (own_g r1 r2 r3) 0)), .second, .unset, .unset] [(.double (FP.i2d rel)), (.double (own_s (own_g r1 r2 r3) 0))])
              refine own_go (fun tz kz => XS.ddivS X4.here hx rfl (hb hby at_346) rfl (own_nr (g := (own_g r1 r2 r3)) hg hF (by omega) hr0) rfl kz) ?_
              show own_Go p.tables e below _ T4 (mkF m 347 #[.val (.int p1), .val (.int p2), .val (.int p3), .val (.int p4), .val (.int p5), .val (.int p6), .val (.int r1), .val (.int r2), .val (.int r3), .val (.int (Int32.ofNat n)), .val (.int rel), .val (.int md), .val (.int se), .val (.int pk), .val (.int dp), .val (.ref b), .val (.double (own_ap (own_g r1 r2 r3) 0 rel)), .second, .val (.int (Int32.ofNat 0)), .val (.double (own_s (own_g r1 r2 r3) 0)), .second, .unset, .unset] [(.double (FP.ddiv (own_s (own_g r1 r2 r3) 0) (FP.i2d rel)))])
              rw [show (FP.ddiv (own_s (own_g r1 r2 r3) 0) (FP.i2d rel)) = (own_ap (own_g r1 r2 r3) 0 rel) from (if_neg hr0).symm]
              show own_Go p.tables e below _ T4 (mkF m 347 #[.val (.int p1), .val (.int p2), .val (.int p3), .val (.int p4), .val (.int p5), .val (.int p6), .val (.int r1), .val (.int r2), .val (.int r3), .val (.int (Int32.ofNat n)), .val (.int rel), .val (.int md), .val (.int se), .val (.int pk), .val (.int dp), .val (.ref b), .val (.double (own_ap (own_g r1 r2 r3) 0 rel)), .second, .val (.int (Int32.ofNat 0)), .val (.double (own_s (own_g r1 r2 r3) 0)), .second, .unset, .unset] [(.double (own_ap (own_g r1 r2 r3) 0 rel))])
              refine own_go (fun tz kz => XS.dstore X4.here hx rfl (hb hby at_347) rfl (l' := #[.val (.int p1), .val (.int p2), .val (.int p3), .val (.int p4), .val (.int p5), .val (.int p6), .val (.int r1), .val (.int r2), .val (.int r3), .val (.int (Int32.ofNat n)), .val (.int rel), .val (.int md), .val (.int se), .val (.int pk), .val (.int dp), .val (.ref b), .val (.double (own_ap (own_g r1 r2 r3) 0 rel)), .second, .val (.int (Int32.ofNat 0)), .val (.double (own_s (own_g r1 r2 r3) 0)), .second, .val (.double (own_ap (own_g r1 r2 r3) 0 rel)), .second]) rfl kz) ?_
              show own_Go p.tables e below _ T4 (mkF m 349 #[.val (.int p1), .val (.int p2), .val (.int p3), .val (.int p4), .val (.int p5), .val (.int p6), .val (.int r1), .val (.int r2), .val (.int r3), .val (.int (Int32.ofNat n)), .val (.int rel), .val (.int md), .val (.int se), .val (.int pk), .val (.int dp), .val (.ref b), .val (.double (own_ap (own_g r1 r2 r3) 0 rel)), .second, .val (.int (Int32.ofNat 0)), .val (.double (own_s (own_g r1 r2 r3) 0)), .second, .val (.double (own_ap (own_g r1 r2 r3) 0 rel)), .second] [])
              refine own_go (fun tz kz => XS.dload X4.here hx rfl (hb hby at_349) rfl kz) ?_
              show own_Go p.tables e below _ T4 (mkF m 351 #[.val (.int p1), .val (.int p2), .val (.int p3), .val (.int p4), .val (.int p5), .val (.int p6), .val (.int r1), .val (.int r2), .val (.int r3), .val (.int (Int32.ofNat n)), .val (.int rel), .val (.int md), .val (.int se), .val (.int pk), .val (.int dp), .val (.ref b), .val (.double (own_ap (own_g r1 r2 r3) 0 rel)), .second, .val (.int (Int32.ofNat 0)), .val (.double (own_s (own_g r1 r2 r3) 0)), .second, .val (.double (own_ap (own_g r1 r2 r3) 0 rel)), .second] [(.double (own_ap (own_g r1 r2 r3) 0 rel))])
              refine own_go (fun tz kz => XS.dload X4.here hx rfl (hb hby at_351) rfl kz) ?_
              show own_Go p.tables e below _ T4 (mkF m 353 #[.val (.int p1), .val (.int p2), .val (.int p3), .val (.int p4), .val (.int p5), .val (.int p6), .val (.int r1), .val (.int r2), .val (.int r3), .val (.int (Int32.ofNat n)), .val (.int rel), .val (.int md), .val (.int se), .val (.int pk), .val (.int dp), .val (.ref b), .val (.double (own_ap (own_g r1 r2 r3) 0 rel)), .second, .val (.int (Int32.ofNat 0)), .val (.double (own_s (own_g r1 r2 r3) 0)), .second, .val (.double (own_ap (own_g r1 r2 r3) 0 rel)), .second] [(.double (own_ap (own_g r1 r2 r3) 0 rel)), (.double (own_ap (own_g r1 r2 r3) 0 rel))])
              refine own_go (fun tz kz => XS.dcmpS X4.here hx rfl (hb hby at_353) rfl (dcmpV_self (own_nap hg hF (by omega) rel) _) kz) ?_
              show own_Go p.tables e below _ T4 (mkF m 354 #[.val (.int p1), .val (.int p2), .val (.int p3), .val (.int p4), .val (.int p5), .val (.int p6), .val (.int r1), .val (.int r2), .val (.int r3), .val (.int (Int32.ofNat n)), .val (.int rel), .val (.int md), .val (.int se), .val (.int pk), .val (.int dp), .val (.ref b), .val (.double (own_ap (own_g r1 r2 r3) 0 rel)), .second, .val (.int (Int32.ofNat 0)), .val (.double (own_s (own_g r1 r2 r3) 0)), .second, .val (.double (own_ap (own_g r1 r2 r3) 0 rel)), .second] [(.int (0 : Int32))])
              refine own_go (fun tz kz => XS.ifNo X4.here hx rfl (hb hby at_354) rfl (XT.i0_ne_f rfl) kz) ?_
              show own_Go p.tables e below _ T4 (mkF m 357 #[.val (.int p1), .val (.int p2), .val (.int p3), .val (.int p4), .val (.int p5), .val (.int p6), .val (.int r1), .val (.int r2), .val (.int r3), .val (.int (Int32.ofNat n)), .val (.int rel), .val (.int md), .val (.int se), .val (.int pk), .val (.int dp), .val (.ref b), .val (.double (own_ap (own_g r1 r2 r3) 0 rel)), .second, .val (.int (Int32.ofNat 0)), .val (.double (own_s (own_g r1 r2 r3) 0)), .second, .val (.double (own_ap (own_g r1 r2 r3) 0 rel)), .second] [])
              refine own_go (fun tz kz => XS.iconst X4.here hx rfl (hb hby at_357) kz) ?_
              show own_Go p.tables e below _ T4 (mkF m 358 #[.val (.int p1), .val (.int p2), .val (.int p3), .val (.int p4), .val (.int p5), .val (.int p6), .val (.int r1), .val (.int r2), .val (.int r3), .val (.int (Int32.ofNat n)), .val (.int rel), .val (.int md), .val (.int se), .val (.int pk), .val (.int dp), .val (.ref b), .val (.double (own_ap (own_g r1 r2 r3) 0 rel)), .second, .val (.int (Int32.ofNat 0)), .val (.double (own_s (own_g r1 r2 r3) 0)), .second, .val (.double (own_ap (own_g r1 r2 r3) 0 rel)), .second] [(.int (1 : Int32))])
              refine own_go (fun tz kz => XS.goto X4.here hx rfl (pc0 := 358) (pc' := 362) rfl (hb hby at_358) (by decide) (by decide) kz) ?_
              show own_Go p.tables e below _ T4 (mkF m 362 #[.val (.int p1), .val (.int p2), .val (.int p3), .val (.int p4), .val (.int p5), .val (.int p6), .val (.int r1), .val (.int r2), .val (.int r3), .val (.int (Int32.ofNat n)), .val (.int rel), .val (.int md), .val (.int se), .val (.int pk), .val (.int dp), .val (.ref b), .val (.double (own_ap (own_g r1 r2 r3) 0 rel)), .second, .val (.int (Int32.ofNat 0)), .val (.double (own_s (own_g r1 r2 r3) 0)), .second, .val (.double (own_ap (own_g r1 r2 r3) 0 rel)), .second] [(.int (1 : Int32))])
              obtain ⟨fs, hr, hrun, hended, hW, hsame⟩ := X4.leave (v := some (.int (1 : Int32))) (fun h => by rw [Bd.returns] at h; cases h) (BodyLoose.notSynchronized Bd)
              refine ⟨_, _, ?_, hrun, hended, _, _, rfl, ?_, ⟨_, rfl⟩, hW, hsame.mono (by decide) (by decide)⟩
              · exact retN X4 hx (t := .boolean) Bd.returns (by simp) (hb hby at_362) hr
              · show Q0 Z p1 p2 p3 p4 p5 p6 h0 n0 _ T4.heap _
                rw [e4]
                exact ⟨rfl, N4⟩
          ·
            show own_Go p.tables e below _ T4 (mkF m 283 #[.val (.int p1), .val (.int p2), .val (.int p3), .val (.int p4), .val (.int p5), .val (.int p6), .val (.int r1), .val (.int r2), .val (.int r3), .val (.int (Int32.ofNat n)), .val (.int rel), .val (.int md), .val (.int se), .val (.int pk), .val (.int dp), .val (.ref b), .val (.double (own_ap (own_g r1 r2 r3) 1 rel)), .second, .val (.int (Int32.ofNat 1)), .val (.double FP.dconst0), .second, .unset, .unset] [(.int (1 : Int32)), (.int (Int32.ofNat 1))])
            refine own_go (fun tz kz => XS.icmpNo X4.here hx rfl (hb hby at_283) rfl (XT.ii_lt_f (by decide)) kz) ?_
            show own_Go p.tables e below _ T4 (mkF m 286 #[.val (.int p1), .val (.int p2), .val (.int p3), .val (.int p4), .val (.int p5), .val (.int p6), .val (.int r1), .val (.int r2), .val (.int r3), .val (.int (Int32.ofNat n)), .val (.int rel), .val (.int md), .val (.int se), .val (.int pk), .val (.int dp), .val (.ref b), .val (.double (own_ap (own_g r1 r2 r3) 1 rel)), .second, .val (.int (Int32.ofNat 1)), .val (.double FP.dconst0), .second, .unset, .unset] [])
            refine own_go (fun tz kz => XS.dload X4.here hx rfl (hb hby at_286) rfl kz) ?_
            show own_Go p.tables e below _ T4 (mkF m 288 #[.val (.int p1), .val (.int p2), .val (.int p3), .val (.int p4), .val (.int p5), .val (.int p6), .val (.int r1), .val (.int r2), .val (.int r3), .val (.int (Int32.ofNat n)), .val (.int rel), .val (.int md), .val (.int se), .val (.int pk), .val (.int dp), .val (.ref b), .val (.double (own_ap (own_g r1 r2 r3) 1 rel)), .second, .val (.int (Int32.ofNat 1)), .val (.double FP.dconst0), .second, .unset, .unset] [(.double FP.dconst0)])
            refine own_go (fun tz kz => XS.dconst1 X4.here hx rfl (hb hby at_288) rfl kz) ?_
            show own_Go p.tables e below _ T4 (mkF m 289 #[.val (.int p1), .val (.int p2), .val (.int p3), .val (.int p4), .val (.int p5), .val (.int p6), .val (.int r1), .val (.int r2), .val (.int r3), .val (.int (Int32.ofNat n)), .val (.int rel), .val (.int md), .val (.int se), .val (.int pk), .val (.int dp), .val (.ref b), .val (.double (own_ap (own_g r1 r2 r3) 1 rel)), .second, .val (.int (Int32.ofNat 1)), .val (.double FP.dconst0), .second, .unset, .unset] [(.double FP.dconst1), (.double FP.dconst0)])
            refine own_go (fun tz kz => XS.iload X4.here hx rfl (hb hby at_289) rfl kz) ?_
            show own_Go p.tables e below _ T4 (mkF m 291 #[.val (.int p1), .val (.int p2), .val (.int p3), .val (.int p4), .val (.int p5), .val (.int p6), .val (.int r1), .val (.int r2), .val (.int r3), .val (.int (Int32.ofNat n)), .val (.int rel), .val (.int md), .val (.int se), .val (.int pk), .val (.int dp), .val (.ref b), .val (.double (own_ap (own_g r1 r2 r3) 1 rel)), .second, .val (.int (Int32.ofNat 1)), .val (.double FP.dconst0), .second, .unset, .unset] [(.int r1), (.double FP.dconst1), (.double FP.dconst0)])
            refine own_go (fun tz kz => XS.i2dS X4.here hx rfl (hb hby at_291) rfl rfl kz) ?_
            show own_Go p.tables e below _ T4 (mkF m 292 #[.val (.int p1), .val (.int p2), .val (.int p3), .val (.int p4), .val (.int p5), .val (.int p6), .val (.int r1), .val (.int r2), .val (.int r3), .val (.int (Int32.ofNat n)), .val (.int rel), .val (.int md), .val (.int se), .val (.int pk), .val (.int dp), .val (.ref b), .val (.double (own_ap (own_g r1 r2 r3) 1 rel)), .second, .val (.int (Int32.ofNat 1)), .val (.double FP.dconst0), .second, .unset, .unset] [(.double (FP.i2d r1)), (.double FP.dconst1), (.double FP.dconst0)])
            rw [← own_d1]
            show own_Go p.tables e below _ T4 (mkF m 292 #[.val (.int p1), .val (.int p2), .val (.int p3), .val (.int p4), .val (.int p5), .val (.int p6), .val (.int r1), .val (.int r2), .val (.int r3), .val (.int (Int32.ofNat n)), .val (.int rel), .val (.int md), .val (.int se), .val (.int pk), .val (.int dp), .val (.ref b), .val (.double (own_ap (own_g r1 r2 r3) 1 rel)), .second, .val (.int (Int32.ofNat 1)), .val (.double FP.dconst0), .second, .unset, .unset] [(.double (FP.i2d r1)), (.double (FP.i2d (Int32.ofNat 0 + 1))), (.double FP.dconst0)])
            refine own_go (fun tz kz => XS.ddivS X4.here hx rfl (hb hby at_292) rfl (own_nq (g := (own_g r1 r2 r3)) (k := 0) _ (hg 0 (by omega))) rfl kz) ?_
            show own_Go p.tables e below _ T4 (mkF m 293 #[.val (.int p1), .val (.int p2), .val (.int p3), .val (.int p4), .val (.int p5), .val (.int p6), .val (.int r1), .val (.int r2), .val (.int r3), .val (.int (Int32.ofNat n)), .val (.int rel), .val (.int md), .val (.int se), .val (.int pk), .val (.int dp), .val (.ref b), .val (.double (own_ap (own_g r1 r2 r3) 1 rel)), .second, .val (.int (Int32.ofNat 1)), .val (.double FP.dconst0), .second, .unset, .unset] [(.double (FP.ddiv (FP.i2d (Int32.ofNat 0 + 1)) (FP.i2d r1))), (.double FP.dconst0)])
            refine own_go (fun tz kz => XS.daddS X4.here hx rfl (hb hby at_293) rfl (own_ns (g := (own_g r1 r2 r3)) hg (k := 1) (by omega) (by omega)) rfl kz) ?_
            show own_Go p.tables e below _ T4 (mkF m 294 #[.val (.int p1), .val (.int p2), .val (.int p3), .val (.int p4), .val (.int p5), .val (.int p6), .val (.int r1), .val (.int r2), .val (.int r3), .val (.int (Int32.ofNat n)), .val (.int rel), .val (.int md), .val (.int se), .val (.int pk), .val (.int dp), .val (.ref b), .val (.double (own_ap (own_g r1 r2 r3) 1 rel)), .second, .val (.int (Int32.ofNat 1)), .val (.double FP.dconst0), .second, .unset, .unset] [(.double (FP.dadd FP.dconst0 (FP.ddiv (FP.i2d (Int32.ofNat 0 + 1)) (FP.i2d r1))))])
            show own_Go p.tables e below _ T4 (mkF m 294 #[.val (.int p1), .val (.int p2), .val (.int p3), .val (.int p4), .val (.int p5), .val (.int p6), .val (.int r1), .val (.int r2), .val (.int r3), .val (.int (Int32.ofNat n)), .val (.int rel), .val (.int md), .val (.int se), .val (.int pk), .val (.int dp), .val (.ref b), .val (.double (own_ap (own_g r1 r2 r3) 1 rel)), .second, .val (.int (Int32.ofNat 1)), .val (.double FP.dconst0), .second, .unset, .unset] [(.double (own_s (own_g r1 r2 r3) 1))])
            refine own_go (fun tz kz => XS.dstore X4.here hx rfl (hb hby at_294) rfl (l' := #[.val (.int p1), .val (.int p2), .val (.int p3), .val (.int p4), .val (.int p5), .val (.int p6), .val (.int r1), .val (.int r2), .val (.int r3), .val (.int (Int32.ofNat n)), .val (.int rel), .val (.int md), .val (.int se), .val (.int pk), .val (.int dp), .val (.ref b), .val (.double (own_ap (own_g r1 r2 r3) 1 rel)), .second, .val (.int (Int32.ofNat 1)), .val (.double (own_s (own_g r1 r2 r3) 1)), .second, .unset, .unset]) rfl kz) ?_
            show own_Go p.tables e below _ T4 (mkF m 296 #[.val (.int p1), .val (.int p2), .val (.int p3), .val (.int p4), .val (.int p5), .val (.int p6), .val (.int r1), .val (.int r2), .val (.int r3), .val (.int (Int32.ofNat n)), .val (.int rel), .val (.int md), .val (.int se), .val (.int pk), .val (.int dp), .val (.ref b), .val (.double (own_ap (own_g r1 r2 r3) 1 rel)), .second, .val (.int (Int32.ofNat 1)), .val (.double (own_s (own_g r1 r2 r3) 1)), .second, .unset, .unset] [])
            refine own_go (fun tz kz => XS.iload X4.here hx rfl (hb hby at_296) rfl kz) ?_
            show own_Go p.tables e below _ T4 (mkF m 298 #[.val (.int p1), .val (.int p2), .val (.int p3), .val (.int p4), .val (.int p5), .val (.int p6), .val (.int r1), .val (.int r2), .val (.int r3), .val (.int (Int32.ofNat n)), .val (.int rel), .val (.int md), .val (.int se), .val (.int pk), .val (.int dp), .val (.ref b), .val (.double (own_ap (own_g r1 r2 r3) 1 rel)), .second, .val (.int (Int32.ofNat 1)), .val (.double (own_s (own_g r1 r2 r3) 1)), .second, .unset, .unset] [(.int (Int32.ofNat 1))])
            refine own_go (fun tz kz => XS.iconst X4.here hx rfl (hb hby at_298) kz) ?_
            show own_Go p.tables e below _ T4 (mkF m 299 #[.val (.int p1), .val (.int p2), .val (.int p3), .val (.int p4), .val (.int p5), .val (.int p6), .val (.int r1), .val (.int r2), .val (.int r3), .val (.int (Int32.ofNat n)), .val (.int rel), .val (.int md), .val (.int se), .val (.int pk), .val (.int dp), .val (.ref b), .val (.double (own_ap (own_g r1 r2 r3) 1 rel)), .second, .val (.int (Int32.ofNat 1)), .val (.double (own_s (own_g r1 r2 r3) 1)), .second, .unset, .unset] [(.int (2 : Int32)), (.int (Int32.ofNat 1))])
            refine own_go (fun tz kz => XS.icmpYes X4.here hx rfl (pc0 := 299) (pc' := 314) rfl (hb hby at_299) rfl (XT.ii_lt_t (by decide)) (by decide) (by decide) kz) ?_
            show own_Go p.tables e below _ T4 (mkF m 314 #[.val (.int p1), .val (.int p2), .val (.int p3), .val (.int p4), .val (.int p5), .val (.int p6), .val (.int r1), .val (.int r2), .val (.int r3), .val (.int (Int32.ofNat n)), .val (.int rel), .val (.int md), .val (.int se), .val (.int pk), .val (.int dp), .val (.ref b), .val (.double (own_ap (own_g r1 r2 r3) 1 rel)), .second, .val (.int (Int32.ofNat 1)), .val (.double (own_s (own_g r1 r2 r3) 1)), .second, .unset, .unset] [])
            refine own_go (fun tz kz => XS.iload X4.here hx rfl (hb hby at_314) rfl kz) ?_
            show own_Go p.tables e below _ T4 (mkF m 316 #[.val (.int p1), .val (.int p2), .val (.int p3), .val (.int p4), .val (.int p5), .val (.int p6), .val (.int r1), .val (.int r2), .val (.int r3), .val (.int (Int32.ofNat n)), .val (.int rel), .val (.int md), .val (.int se), .val (.int pk), .val (.int dp), .val (.ref b), .val (.double (own_ap (own_g r1 r2 r3) 1 rel)), .second, .val (.int (Int32.ofNat 1)), .val (.double (own_s (own_g r1 r2 r3) 1)), .second, .unset, .unset] [(.int (Int32.ofNat 1))])
            refine own_go (fun tz kz => XS.iconst X4.here hx rfl (hb hby at_316) kz) ?_
            show own_Go p.tables e below _ T4 (mkF m 317 #[.val (.int p1), .val (.int p2), .val (.int p3), .val (.int p4), .val (.int p5), .val (.int p6), .val (.int r1), .val (.int r2), .val (.int r3), .val (.int (Int32.ofNat n)), .val (.int rel), .val (.int md), .val (.int se), .val (.int pk), .val (.int dp), .val (.ref b), .val (.double (own_ap (own_g r1 r2 r3) 1 rel)), .second, .val (.int (Int32.ofNat 1)), .val (.double (own_s (own_g r1 r2 r3) 1)), .second, .unset, .unset] [(.int (3 : Int32)), (.int (Int32.ofNat 1))])
            refine own_go (fun tz kz => XS.icmpYes X4.here hx rfl (pc0 := 317) (pc' := 332) rfl (hb hby at_317) rfl (XT.ii_lt_t (by decide)) (by decide) (by decide) kz) ?_
            show own_Go p.tables e below _ T4 (mkF m 332 #[.val (.int p1), .val (.int p2), .val (.int p3), .val (.int p4), .val (.int p5), .val (.int p6), .val (.int r1), .val (.int r2), .val (.int r3), .val (.int (Int32.ofNat n)), .val (.int rel), .val (.int md), .val (.int se), .val (.int pk), .val (.int dp), .val (.ref b), .val (.double (own_ap (own_g r1 r2 r3) 1 rel)), .second, .val (.int (Int32.ofNat 1)), .val (.double (own_s (own_g r1 r2 r3) 1)), .second, .unset, .unset] [])
            refine own_go (fun tz kz => XS.iload X4.here hx rfl (hb hby at_332) rfl kz) ?_
            show own_Go p.tables e below _ T4 (mkF m 334 #[.val (.int p1), .val (.int p2), .val (.int p3), .val (.int p4), .val (.int p5), .val (.int p6), .val (.int r1), .val (.int r2), .val (.int r3), .val (.int (Int32.ofNat n)), .val (.int rel), .val (.int md), .val (.int se), .val (.int pk), .val (.int dp), .val (.ref b), .val (.double (own_ap (own_g r1 r2 r3) 1 rel)), .second, .val (.int (Int32.ofNat 1)), .val (.double (own_s (own_g r1 r2 r3) 1)), .second, .unset, .unset] [(.int rel)])
            by_cases hr0 : rel = (0 : Int32)
            ·
              refine own_go (fun tz kz => XS.ifNo X4.here hx rfl (hb hby at_334) rfl (XT.i0_ne_f hr0) kz) ?_
              show own_Go p.tables e below _ T4 (mkF m 337 #[.val (.int p1), .val (.int p2), .val (.int p3), .val (.int p4), .val (.int p5), .val (.int p6), .val (.int r1), .val (.int r2), .val (.int r3), .val (.int (Int32.ofNat n)), .val (.int rel), .val (.int md), .val (.int se), .val (.int pk), .val (.int dp), .val (.ref b), .val (.double (own_ap (own_g r1 r2 r3) 1 rel)), .second, .val (.int (Int32.ofNat 1)), .val (.double (own_s (own_g r1 r2 r3) 1)), .second, .unset, .unset] [])
              refine own_go (fun tz kz => XS.dconst0 X4.here hx rfl (hb hby at_337) rfl kz) ?_
              show own_Go p.tables e below _ T4 (mkF m 338 #[.val (.int p1), .val (.int p2), .val (.int p3), .val (.int p4), .val (.int p5), .val (.int p6), .val (.int r1), .val (.int r2), .val (.int r3), .val (.int (Int32.ofNat n)), .val (.int rel), .val (.int md), .val (.int se), .val (.int pk), .val (.int dp), .val (.ref b), .val (.double (own_ap (own_g r1 r2 r3) 1 rel)), .second, .val (.int (Int32.ofNat 1)), .val (.double (own_s (own_g r1 r2 r3) 1)), .second, .unset, .unset] [(.double FP.dconst0)])
              refine own_go (fun tz kz => XS.goto X4.here hx rfl (pc0 := 338) (pc' := 347) rfl (hb hby at_338) (by decide) (by decide) kz) ?_
              show own_Go p.tables e below _ T4 (mkF m 347 #[.val (.int p1), .val (.int p2), .val (.int p3), .val (.int p4), .val (.int p5), .val (.int p6), .val (.int r1), .val (.int r2), .val (.int r3), .val (.int (Int32.ofNat n)), .val (.int rel), .val (.int md), .val (.int se), .val (.int pk), .val (.int dp), .val (.ref b), .val (.double (own_ap (own_g r1 r2 r3) 1 rel)), .second, .val (.int (Int32.ofNat 1)), .val (.double (own_s (own_g r1 r2 r3) 1)), .second, .unset, .unset] [(.double FP.dconst0)])
              rw [show FP.dconst0 = (own_ap (own_g r1 r2 r3) 1 rel) from (if_pos hr0).symm]
              show own_Go p.tables e below _ T4 (mkF m 347 #[.val (.int p1), .val (.int p2), .val (.int p3), .val (.int p4), .val (.int p5), .val (.int p6), .val (.int r1), .val (.int r2), .val (.int r3), .val (.int (Int32.ofNat n)), .val (.int rel), .val (.int md), .val (.int se), .val (.int pk), .val (.int dp), .val (.ref b), .val (.double (own_ap (own_g r1 r2 r3) 1 rel)), .second, .val (.int (Int32.ofNat 1)), .val (.double (own_s (own_g r1 r2 r3) 1)), .second, .unset, .unset] [(.double (own_ap (own_g r1 r2 r3) 1 rel))])
              refine own_go (fun tz kz => XS.dstore X4.here hx rfl (hb hby at_347) rfl (l' := #[.val (.int p1), .val (.int p2), .val (.int p3), .val (.int p4), .val (.int p5), .val (.int p6), .val (.int r1), .val (.int r2), .val (.int r3), .val (.int (Int32.ofNat n)), .val (.int rel), .val (.int md), .val (.int se), .val (.int pk), .val (.int dp), .val (.ref b), .val (.double (own_ap (own_g r1 r2 r3) 1 rel)), .second, .val (.int (Int32.ofNat 1)), .val (.double (own_s (own_g r1 r2 r3) 1)), .second, .val (.double (own_ap (own_g r1 r2 r3) 1 rel)), .second]) rfl kz) ?_
              show own_Go p.tables e below _ T4 (mkF m 349 #[.val (.int p1), .val (.int p2), .val (.int p3), .val (.int p4), .val (.int p5), .val (.int p6), .val (.int r1), .val (.int r2), .val (.int r3), .val (.int (Int32.ofNat n)), .val (.int rel), .val (.int md), .val (.int se), .val (.int pk), .val (.int dp), .val (.ref b), .val (.double (own_ap (own_g r1 r2 r3) 1 rel)), .second, .val (.int (Int32.ofNat 1)), .val (.double (own_s (own_g r1 r2 r3) 1)), .second, .val (.double (own_ap (own_g r1 r2 r3) 1 rel)), .second] [])
              refine own_go (fun tz kz => XS.dload X4.here hx rfl (hb hby at_349) rfl kz) ?_
              show own_Go p.tables e below _ T4 (mkF m 351 #[.val (.int p1), .val (.int p2), .val (.int p3), .val (.int p4), .val (.int p5), .val (.int p6), .val (.int r1), .val (.int r2), .val (.int r3), .val (.int (Int32.ofNat n)), .val (.int rel), .val (.int md), .val (.int se), .val (.int pk), .val (.int dp), .val (.ref b), .val (.double (own_ap (own_g r1 r2 r3) 1 rel)), .second, .val (.int (Int32.ofNat 1)), .val (.double (own_s (own_g r1 r2 r3) 1)), .second, .val (.double (own_ap (own_g r1 r2 r3) 1 rel)), .second] [(.double (own_ap (own_g r1 r2 r3) 1 rel))])
              refine own_go (fun tz kz => XS.dload X4.here hx rfl (hb hby at_351) rfl kz) ?_
              show own_Go p.tables e below _ T4 (mkF m 353 #[.val (.int p1), .val (.int p2), .val (.int p3), .val (.int p4), .val (.int p5), .val (.int p6), .val (.int r1), .val (.int r2), .val (.int r3), .val (.int (Int32.ofNat n)), .val (.int rel), .val (.int md), .val (.int se), .val (.int pk), .val (.int dp), .val (.ref b), .val (.double (own_ap (own_g r1 r2 r3) 1 rel)), .second, .val (.int (Int32.ofNat 1)), .val (.double (own_s (own_g r1 r2 r3) 1)), .second, .val (.double (own_ap (own_g r1 r2 r3) 1 rel)), .second] [(.double (own_ap (own_g r1 r2 r3) 1 rel)), (.double (own_ap (own_g r1 r2 r3) 1 rel))])
              refine own_go (fun tz kz => XS.dcmpS X4.here hx rfl (hb hby at_353) rfl (dcmpV_self (own_nap hg hF (by omega) rel) _) kz) ?_
              show own_Go p.tables e below _ T4 (mkF m 354 #[.val (.int p1), .val (.int p2), .val (.int p3), .val (.int p4), .val (.int p5), .val (.int p6), .val (.int r1), .val (.int r2), .val (.int r3), .val (.int (Int32.ofNat n)), .val (.int rel), .val (.int md), .val (.int se), .val (.int pk), .val (.int dp), .val (.ref b), .val (.double (own_ap (own_g r1 r2 r3) 1 rel)), .second, .val (.int (Int32.ofNat 1)), .val (.double (own_s (own_g r1 r2 r3) 1)), .second, .val (.double (own_ap (own_g r1 r2 r3) 1 rel)), .second] [(.int (0 : Int32))])
              refine own_go (fun tz kz => XS.ifNo X4.here hx rfl (hb hby at_354) rfl (XT.i0_ne_f rfl) kz) ?_
              show own_Go p.tables e below _ T4 (mkF m 357 #[.val (.int p1), .val (.int p2), .val (.int p3), .val (.int p4), .val (.int p5), .val (.int p6), .val (.int r1), .val (.int r2), .val (.int r3), .val (.int (Int32.ofNat n)), .val (.int rel), .val (.int md), .val (.int se), .val (.int pk), .val (.int dp), .val (.ref b), .val (.double (own_ap (own_g r1 r2 r3) 1 rel)), .second, .val (.int (Int32.ofNat 1)), .val (.double (own_s (own_g r1 r2 r3) 1)), .second, .val (.double (own_ap (own_g r1 r2 r3) 1 rel)), .second] [])
              refine own_go (fun tz kz => XS.iconst X4.here hx rfl (hb hby at_357) kz) ?_
              show own_Go p.tables e below _ T4 (mkF m 358 #[.val (.int p1), .val (.int p2), .val (.int p3), .val (.int p4), .val (.int p5), .val (.int p6), .val (.int r1), .val (.int r2), .val (.int r3), .val (.int (Int32.ofNat n)), .val (.int rel), .val (.int md), .val (.int se), .val (.int pk), .val (.int dp), .val (.ref b), .val (.double (own_ap (own_g r1 r2 r3) 1 rel)), .second, .val (.int (Int32.ofNat 1)), .val (.double (own_s (own_g r1 r2 r3) 1)), .second, .val (.double (own_ap (own_g r1 r2 r3) 1 rel)), .second] [(.int (1 : Int32))])
              refine own_go (fun tz kz => XS.goto X4.here hx rfl (pc0 := 358) (pc' := 362) rfl (hb hby at_358) (by decide) (by decide) kz) ?_
              show own_Go p.tables e below _ T4 (mkF m 362 #[.val (.int p1), .val (.int p2), .val (.int p3), .val (.int p4), .val (.int p5), .val (.int p6), .val (.int r1), .val (.int r2), .val (.int r3), .val (.int (Int32.ofNat n)), .val (.int rel), .val (.int md), .val (.int se), .val (.int pk), .val (.int dp), .val (.ref b), .val (.double (own_ap (own_g r1 r2 r3) 1 rel)), .second, .val (.int (Int32.ofNat 1)), .val (.double (own_s (own_g r1 r2 r3) 1)), .second, .val (.double (own_ap (own_g r1 r2 r3) 1 rel)), .second] [(.int (1 : Int32))])
              obtain ⟨fs, hr, hrun, hended, hW, hsame⟩ := X4.leave (v := some (.int (1 : Int32))) (fun h => by rw [Bd.returns] at h; cases h) (BodyLoose.notSynchronized Bd)
              refine ⟨_, _, ?_, hrun, hended, _, _, rfl, ?_, ⟨_, rfl⟩, hW, hsame.mono (by decide) (by decide)⟩
              · exact retN X4 hx (t := .boolean) Bd.returns (by simp) (hb hby at_362) hr
              · show Q0 Z p1 p2 p3 p4 p5 p6 h0 n0 _ T4.heap _
                rw [e4]
                exact ⟨rfl, N4⟩
            ·
              refine own_go (fun tz kz => XS.ifYes X4.here hx rfl (pc0 := 334) (pc' := 341) rfl (hb hby at_334) rfl (XT.i0_ne_t hr0) (by decide) (by decide) kz) ?_
              show own_Go p.tables e below _ T4 (mkF m 341 #[.val (.int p1), .val (.int p2), .val (.int p3), .val (.int p4), .val (.int p5), .val (.int p6), .val (.int r1), .val (.int r2), .val (.int r3), .val (.int (Int32.ofNat n)), .val (.int rel), .val (.int md), .val (.int se), .val (.int pk), .val (.int dp), .val (.ref b), .val (.double (own_ap (own_g r1 r2 r3) 1 rel)), .second, .val (.int (Int32.ofNat 1)), .val (.double (own_s (own_g r1 r2 r3) 1)), .second, .unset, .unset] [])
              refine own_go (fun tz kz => XS.dload X4.here hx rfl (hb hby at_341) rfl kz) ?_
              show own_Go p.tables e below _ T4 (mkF m 343 #[.val (.int p1), .val (.int p2), .val (.int p3), .val (.int p4), .val (.int p5), .val (.int p6), .val (.int r1), .val (.int r2), .val (.int r3), .val (.int (Int32.ofNat n)), .val (.int rel), .val (.int md), .val (.int se), .val (.int pk), .val (.int dp), .val (.ref b), .val (.double (own_ap (own_g r1 r2 r3) 1 rel)), .second, .val (.int (Int32.ofNat 1)), .val (.double (own_s (own_g r1 r2 r3) 1)), .second, .unset, .unset] [(.double (own_s (own_g r1 r2 r3) 1))])
              refine own_go (fun tz kz => XS.iload X4.here hx rfl (hb hby at_343) rfl kz) ?_
              show own_Go p.tables e below _ T4 (mkF m 345 #[.val (.int p1), .val (.int p2), .val (.int p3), .val (.int p4), .val (.int p5), .val (.int p6), .val (.int r1), .val (.int r2), .val (.int r3), .val (.int (Int32.ofNat n)), .val (.int rel), .val (.int md), .val (.int se), .val (.int pk), .val (.int dp), .val (.ref b), .val (.double (own_ap (own_g r1 r2 r3) 1 rel)), .second, .val (.int (Int32.ofNat 1)), .val (.double (own_s (own_g r1 r2 r3) 1)), .second, .unset, .unset] [(.int rel), (.double (own_s (own_g r1 r2 r3) 1))])
              refine own_go (fun tz kz => XS.i2dS X4.here hx rfl (hb hby at_345) rfl rfl kz) ?_
              show own_Go p.tables e below _ T4 (mkF m 346 #[.val (.int p1), .val (.int p2), .val (.int p3), .val (.int p4), .val (.int p5), .val (.int p6), .val (.int r1), .val (.int r2), .val (.int r3), .val (.int (Int32.ofNat n)), .val (.int rel), .val (.int md), .val (.int se), .val (.int pk), .val (.int dp), .val (.ref b), .val (.double (own_ap (own_g r1 r2 r3) 1 rel)), .second, .val (.int (Int32.ofNat 1)), .val (.double (own_s (own_g r1 r2 r3) 1)), .second, .unset, .unset] [(.double (FP.i2d rel)), (.double (own_s (own_g r1 r2 r3) 1))])
              refine own_go (fun tz kz => XS.ddivS X4.here hx rfl (hb hby at_346) rfl (own_nr (g := (own_g r1 r2 r3)) hg hF (by omega) hr0) rfl kz) ?_
              show own_Go p.tables e below _ T4 (mkF m 347 #[.val (.int p1), .val (.int p2), .val (.int p3), .val (.int p4), .val (.int p5), .val (.int p6), .val (.int r1), .val (.int r2), .val (.int r3), .val (.int (Int32.ofNat n)), .val (.int rel), .val (.int md), .val (.int se), .val (.int pk), .val (.int dp), .val (.ref b), .val (.double (own_ap (own_g r1 r2 r3) 1 rel)), .second, .val (.int (Int32.ofNat 1)), .val (.double (own_s (own_g r1 r2 r3) 1)), .second, .unset, .unset] [(.double (FP.ddiv (own_s (own_g r1 r2 r3) 1) (FP.i2d rel)))])
              rw [show (FP.ddiv (own_s (own_g r1 r2 r3) 1) (FP.i2d rel)) = (own_ap (own_g r1 r2 r3) 1 rel) from (if_neg hr0).symm]
              show own_Go p.tables e below _ T4 (mkF m 347 #[.val (.int p1), .val (.int p2), .val (.int p3), .val (.int p4), .val (.int p5), .val (.int p6), .val (.int r1), .val (.int r2), .val (.int r3), .val (.int (Int32.ofNat n)), .val (.int rel), .val (.int md), .val (.int se), .val (.int pk), .val (.int dp), .val (.ref b), .val (.double (own_ap (own_g r1 r2 r3) 1 rel)), .second, .val (.int (Int32.ofNat 1)), .val (.double (own_s (own_g r1 r2 r3) 1)), .second, .unset, .unset] [(.double (own_ap (own_g r1 r2 r3) 1 rel))])
              refine own_go (fun tz kz => XS.dstore X4.here hx rfl (hb hby at_347) rfl (l' := #[.val (.int p1), .val (.int p2), .val (.int p3), .val (.int p4), .val (.int p5), .val (.int p6), .val (.int r1), .val (.int r2), .val (.int r3), .val (.int (Int32.ofNat n)), .val (.int rel), .val (.int md), .val (.int se), .val (.int pk), .val (.int dp), .val (.ref b), .val (.double (own_ap (own_g r1 r2 r3) 1 rel)), .second, .val (.int (Int32.ofNat 1)), .val (.double (own_s (own_g r1 r2 r3) 1)), .second, .val (.double (own_ap (own_g r1 r2 r3) 1 rel)), .second]) rfl kz) ?_
              show own_Go p.tables e below _ T4 (mkF m 349 #[.val (.int p1), .val (.int p2), .val (.int p3), .val (.int p4), .val (.int p5), .val (.int p6), .val (.int r1), .val (.int r2), .val (.int r3), .val (.int (Int32.ofNat n)), .val (.int rel), .val (.int md), .val (.int se), .val (.int pk), .val (.int dp), .val (.ref b), .val (.double (own_ap (own_g r1 r2 r3) 1 rel)), .second, .val (.int (Int32.ofNat 1)), .val (.double (own_s (own_g r1 r2 r3) 1)), .second, .val (.double (own_ap (own_g r1 r2 r3) 1 rel)), .second] [])
              refine own_go (fun tz kz => XS.dload X4.here hx rfl (hb hby at_349) rfl kz) ?_
              show own_Go p.tables e below _ T4 (mkF m 351 #[.val (.int p1), .val (.int p2), .val (.int p3), .val (.int p4), .val (.int p5), .val (.int p6), .val (.int r1), .val (.int r2), .val (.int r3), .val (.int (Int32.ofNat n)), .val (.int rel), .val (.int md), .val (.int se), .val (.int pk), .val (.int dp), .val (.ref b), .val (.double (own_ap (own_g r1 r2 r3) 1 rel)), .second, .val (.int (Int32.ofNat 1)), .val (.double (own_s (own_g r1 r2 r3) 1)), .second, .val (.double (own_ap (own_g r1 r2 r3) 1 rel)), .second] [(.double (own_ap (own_g r1 r2 r3) 1 rel))])
              refine own_go (fun tz kz => XS.dload X4.here hx rfl (hb hby at_351) rfl kz) ?_
              show own_Go p.tables e below _ T4 (mkF m 353 #[.val (.int p1), .val (.int p2), .val (.int p3), .val (.int p4), .val (.int p5), .val (.int p6), .val (.int r1), .val (.int r2), .val (.int r3), .val (.int (Int32.ofNat n)), .val (.int rel), .val (.int md), .val (.int se), .val (.int pk), .val (.int dp), .val (.ref b), .val (.double (own_ap (own_g r1 r2 r3) 1 rel)), .second, .val (.int (Int32.ofNat 1)), .val (.double (own_s (own_g r1 r2 r3) 1)), .second, .val (.double (own_ap (own_g r1 r2 r3) 1 rel)), .second] [(.double (own_ap (own_g r1 r2 r3) 1 rel)), (.double (own_ap (own_g r1 r2 r3) 1 rel))])
              refine own_go (fun tz kz => XS.dcmpS X4.here hx rfl (hb hby at_353) rfl (dcmpV_self (own_nap hg hF (by omega) rel) _) kz) ?_
              show own_Go p.tables e below _ T4 (mkF m 354 #[.val (.int p1), .val (.int p2), .val (.int p3), .val (.int p4), .val (.int p5), .val (.int p6), .val (.int r1), .val (.int r2), .val (.int r3), .val (.int (Int32.ofNat n)), .val (.int rel), .val (.int md), .val (.int se), .val (.int pk), .val (.int dp), .val (.ref b), .val (.double (own_ap (own_g r1 r2 r3) 1 rel)), .second, .val (.int (Int32.ofNat 1)), .val (.double (own_s (own_g r1 r2 r3) 1)), .second, .val (.double (own_ap (own_g r1 r2 r3) 1 rel)), .second] [(.int (0 : Int32))])
              refine own_go (fun tz kz => XS.ifNo X4.here hx rfl (hb hby at_354) rfl (XT.i0_ne_f rfl) kz) ?_
              show own_Go p.tables e below _ T4 (mkF m 357 #[.val (.int p1), .val (.int p2), .val (.int p3), .val (.int p4), .val (.int p5), .val (.int p6), .val (.int r1), .val (.int r2), .val (.int r3), .val (.int (Int32.ofNat n)), .val (.int rel), .val (.int md), .val (.int se), .val (.int pk), .val (.int dp), .val (.ref b), .val (.double (own_ap (own_g r1 r2 r3) 1 rel)), .second, .val (.int (Int32.ofNat 1)), .val (.double (own_s (own_g r1 r2 r3) 1)), .second, .val (.double (own_ap (own_g r1 r2 r3) 1 rel)), .second] [])
              refine own_go (fun tz kz => XS.iconst X4.here hx rfl (hb hby at_357) kz) ?_
              show own_Go p.tables e below _ T4 (mkF m 358 #[.val (.int p1), .val (.int p2), .val (.int p3), .val (.int p4), .val (.int p5), .val (.int p6), .val (.int r1), .val (.int r2), .val (.int r3), .val (.int (Int32.ofNat n)), .val (.int rel), .val (.int md), .val (.int se), .val (.int pk), .val (.int dp), .val (.ref b), .val (.double (own_ap (own_g r1 r2 r3) 1 rel)), .second, .val (.int (Int32.ofNat 1)), .val (.double (own_s (own_g r1 r2 r3) 1)), .second, .val (.double (own_ap (own_g r1 r2 r3) 1 rel)), .second] [(.int (1 : Int32))])
              refine own_go (fun tz kz => XS.goto X4.here hx rfl (pc0 := 358) (pc' := 362) rfl (hb hby at_358) (by decide) (by decide) kz) ?_
              show own_Go p.tables e below _ T4 (mkF m 362 #[.val (.int p1), .val (.int p2), .val (.int p3), .val (.int p4), .val (.int p5), .val (.int p6), .val (.int r1), .val (.int r2), .val (.int r3), .val (.int (Int32.ofNat n)), .val (.int rel), .val (.int md), .val (.int se), .val (.int pk), .val (.int dp), .val (.ref b), .val (.double (own_ap (own_g r1 r2 r3) 1 rel)), .second, .val (.int (Int32.ofNat 1)), .val (.double (own_s (own_g r1 r2 r3) 1)), .second, .val (.double (own_ap (own_g r1 r2 r3) 1 rel)), .second] [(.int (1 : Int32))])
              obtain ⟨fs, hr, hrun, hended, hW, hsame⟩ := X4.leave (v := some (.int (1 : Int32))) (fun h => by rw [Bd.returns] at h; cases h) (BodyLoose.notSynchronized Bd)
              refine ⟨_, _, ?_, hrun, hended, _, _, rfl, ?_, ⟨_, rfl⟩, hW, hsame.mono (by decide) (by decide)⟩
              · exact retN X4 hx (t := .boolean) Bd.returns (by simp) (hb hby at_362) hr
              · show Q0 Z p1 p2 p3 p4 p5 p6 h0 n0 _ T4.heap _
                rw [e4]
                exact ⟨rfl, N4⟩
          ·
            show own_Go p.tables e below _ T4 (mkF m 283 #[.val (.int p1), .val (.int p2), .val (.int p3), .val (.int p4), .val (.int p5), .val (.int p6), .val (.int r1), .val (.int r2), .val (.int r3), .val (.int (Int32.ofNat n)), .val (.int rel), .val (.int md), .val (.int se), .val (.int pk), .val (.int dp), .val (.ref b), .val (.double (own_ap (own_g r1 r2 r3) 2 rel)), .second, .val (.int (Int32.ofNat 2)), .val (.double FP.dconst0), .second, .unset, .unset] [(.int (1 : Int32)), (.int (Int32.ofNat 2))])
            refine own_go (fun tz kz => XS.icmpNo X4.here hx rfl (hb hby at_283) rfl (XT.ii_lt_f (by decide)) kz) ?_
            show own_Go p.tables e below _ T4 (mkF m 286 #[.val (.int p1), .val (.int p2), .val (.int p3), .val (.int p4), .val (.int p5), .val (.int p6), .val (.int r1), .val (.int r2), .val (.int r3), .val (.int (Int32.ofNat n)), .val (.int rel), .val (.int md), .val (.int se), .val (.int pk), .val (.int dp), .val (.ref b), .val (.double (own_ap (own_g r1 r2 r3) 2 rel)), .second, .val (.int (Int32.ofNat 2)), .val (.double FP.dconst0), .second, .unset, .unset] [])
            refine own_go (fun tz kz => XS.dload X4.here hx rfl (hb hby at_286) rfl kz) ?_
            show own_Go p.tables e below _ T4 (mkF m 288 #[.val (.int p1), .val (.int p2), .val (.int p3), .val (.int p4), .val (.int p5), .val (.int p6), .val (.int r1), .val (.int r2), .val (.int r3), .val (.int (Int32.ofNat n)), .val (.int rel), .val (.int md), .val (.int se), .val (.int pk), .val (.int dp), .val (.ref b), .val (.double (own_ap (own_g r1 r2 r3) 2 rel)), .second, .val (.int (Int32.ofNat 2)), .val (.double FP.dconst0), .second, .unset, .unset] [(.double FP.dconst0)])
            refine own_go (fun tz kz => XS.dconst1 X4.here hx rfl (hb hby at_288) rfl kz) ?_
            show own_Go p.tables e below _ T4 (mkF m 289 #[.val (.int p1), .val (.int p2), .val (.int p3), .val (.int p4), .val (.int p5), .val (.int p6), .val (.int r1), .val (.int r2), .val (.int r3), .val (.int (Int32.ofNat n)), .val (.int rel), .val (.int md), .val (.int se), .val (.int pk), .val (.int dp), .val (.ref b), .val (.double (own_ap (own_g r1 r2 r3) 2 rel)), .second, .val (.int (Int32.ofNat 2)), .val (.double FP.dconst0), .second, .unset, .unset] [(.double FP.dconst1), (.double FP.dconst0)])
            refine own_go (fun tz kz => XS.iload X4.here hx rfl (hb hby at_289) rfl kz) ?_
            show own_Go p.tables e below _ T4 (mkF m 291 #[.val (.int p1), .val (.int p2), .val (.int p3), .val (.int p4), .val (.int p5), .val (.int p6), .val (.int r1), .val (.int r2), .val (.int r3), .val (.int (Int32.ofNat n)), .val (.int rel), .val (.int md), .val (.int se), .val (.int pk), .val (.int dp), .val (.ref b), .val (.double (own_ap (own_g r1 r2 r3) 2 rel)), .second, .val (.int (Int32.ofNat 2)), .val (.double FP.dconst0), .second, .unset, .unset] [(.int r1), (.double FP.dconst1), (.double FP.dconst0)])
            refine own_go (fun tz kz => XS.i2dS X4.here hx rfl (hb hby at_291) rfl rfl kz) ?_
            show own_Go p.tables e below _ T4 (mkF m 292 #[.val (.int p1), .val (.int p2), .val (.int p3), .val (.int p4), .val (.int p5), .val (.int p6), .val (.int r1), .val (.int r2), .val (.int r3), .val (.int (Int32.ofNat n)), .val (.int rel), .val (.int md), .val (.int se), .val (.int pk), .val (.int dp), .val (.ref b), .val (.double (own_ap (own_g r1 r2 r3) 2 rel)), .second, .val (.int (Int32.ofNat 2)), .val (.double FP.dconst0), .second, .unset, .unset] [(.double (FP.i2d r1)), (.double FP.dconst1), (.double FP.dconst0)])
            rw [← own_d1]
            show own_Go p.tables e below _ T4 (mkF m 292 #[.val (.int p1), .val (.int p2), .val (.int p3), .val (.int p4), .val (.int p5), .val (.int p6), .val (.int r1), .val (.int r2), .val (.int r3), .val (.int (Int32.ofNat n)), .val (.int rel), .val (.int md), .val (.int se), .val (.int pk), .val (.int dp), .val (.ref b), .val (.double (own_ap (own_g r1 r2 r3) 2 rel)), .second, .val (.int (Int32.ofNat 2)), .val (.double FP.dconst0), .second, .unset, .unset] [(.double (FP.i2d r1)), (.double (FP.i2d (Int32.ofNat 0 + 1))), (.double FP.dconst0)])
            refine own_go (fun tz kz => XS.ddivS X4.here hx rfl (hb hby at_292) rfl (own_nq (g := (own_g r1 r2 r3)) (k := 0) _ (hg 0 (by omega))) rfl kz) ?_
            show own_Go p.tables e below _ T4 (mkF m 293 #[.val (.int p1), .val (.int p2), .val (.int p3), .val (.int p4), .val (.int p5), .val (.int p6), .val (.int r1), .val (.int r2), .val (.int r3), .val (.int (Int32.ofNat n)), .val (.int rel), .val (.int md), .val (.int se), .val (.int pk), .val (.int dp), .val (.ref b), .val (.double (own_ap (own_g r1 r2 r3) 2 rel)), .second, .val (.int (Int32.ofNat 2)), .val (.double FP.dconst0), .second, .unset, .unset] [(.double (FP.ddiv (FP.i2d (Int32.ofNat 0 + 1)) (FP.i2d r1))), (.double FP.dconst0)])
            refine own_go (fun tz kz => XS.daddS X4.here hx rfl (hb hby at_293) rfl (own_ns (g := (own_g r1 r2 r3)) hg (k := 1) (by omega) (by omega)) rfl kz) ?_
            show own_Go p.tables e below _ T4 (mkF m 294 #[.val (.int p1), .val (.int p2), .val (.int p3), .val (.int p4), .val (.int p5), .val (.int p6), .val (.int r1), .val (.int r2), .val (.int r3), .val (.int (Int32.ofNat n)), .val (.int rel), .val (.int md), .val (.int se), .val (.int pk), .val (.int dp), .val (.ref b), .val (.double (own_ap (own_g r1 r2 r3) 2 rel)), .second, .val (.int (Int32.ofNat 2)), .val (.double FP.dconst0), .second, .unset, .unset] [(.double (FP.dadd FP.dconst0 (FP.ddiv (FP.i2d (Int32.ofNat 0 + 1)) (FP.i2d r1))))])
            show own_Go p.tables e below _ T4 (mkF m 294 #[.val (.int p1), .val (.int p2), .val (.int p3), .val (.int p4), .val (.int p5), .val (.int p6), .val (.int r1), .val (.int r2), .val (.int r3), .val (.int (Int32.ofNat n)), .val (.int rel), .val (.int md), .val (.int se), .val (.int pk), .val (.int dp), .val (.ref b), .val (.double (own_ap (own_g r1 r2 r3) 2 rel)), .second, .val (.int (Int32.ofNat 2)), .val (.double FP.dconst0), .second, .unset, .unset] [(.double (own_s (own_g r1 r2 r3) 1))])
            refine own_go (fun tz kz => XS.dstore X4.here hx rfl (hb hby at_294) rfl (l' := #[.val (.int p1), .val (.int p2), .val (.int p3), .val (.int p4), .val (.int p5), .val (.int p6), .val (.int r1), .val (.int r2), .val (.int r3), .val (.int (Int32.ofNat n)), .val (.int rel), .val (.int md), .val (.int se), .val (.int pk), .val (.int dp), .val (.ref b), .val (.double (own_ap (own_g r1 r2 r3) 2 rel)), .second, .val (.int (Int32.ofNat 2)), .val (.double (own_s (own_g r1 r2 r3) 1)), .second, .unset, .unset]) rfl kz) ?_
            show own_Go p.tables e below _ T4 (mkF m 296 #[.val (.int p1), .val (.int p2), .val (.int p3), .val (.int p4), .val (.int p5), .val (.int p6), .val (.int r1), .val (.int r2), .val (.int r3), .val (.int (Int32.ofNat n)), .val (.int rel), .val (.int md), .val (.int se), .val (.int pk), .val (.int dp), .val (.ref b), .val (.double (own_ap (own_g r1 r2 r3) 2 rel)), .second, .val (.int (Int32.ofNat 2)), .val (.double (own_s (own_g r1 r2 r3) 1)), .second, .unset, .unset] [])
            refine own_go (fun tz kz => XS.iload X4.here hx rfl (hb hby at_296) rfl kz) ?_
            show own_Go p.tables e below _ T4 (mkF m 298 #[.val (.int p1), .val (.int p2), .val (.int p3), .val (.int p4), .val (.int p5), .val (.int p6), .val (.int r1), .val (.int r2), .val (.int r3), .val (.int (Int32.ofNat n)), .val (.int rel), .val (.int md), .val (.int se), .val (.int pk), .val (.int dp), .val (.ref b), .val (.double (own_ap (own_g r1 r2 r3) 2 rel)), .second, .val (.int (Int32.ofNat 2)), .val (.double (own_s (own_g r1 r2 r3) 1)), .second, .unset, .unset] [(.int (Int32.ofNat 2))])
            refine own_go (fun tz kz => XS.iconst X4.here hx rfl (hb hby at_298) kz) ?_
            show own_Go p.tables e below _ T4 (mkF m 299 #[.val (.int p1), .val (.int p2), .val (.int p3), .val (.int p4), .val (.int p5), .val (.int p6), .val (.int r1), .val (.int r2), .val (.int r3), .val (.int (Int32.ofNat n)), .val (.int rel), .val (.int md), .val (.int se), .val (.int pk), .val (.int dp), .val (.ref b), .val (.double (own_ap (own_g r1 r2 r3) 2 rel)), .second, .val (.int (Int32.ofNat 2)), .val (.double (own_s (own_g r1 r2 r3) 1)), .second, .unset, .unset] [(.int (2 : Int32)), (.int (Int32.ofNat 2))])
            refine own_go (fun tz kz => XS.icmpNo X4.here hx rfl (hb hby at_299) rfl (XT.ii_lt_f (by decide)) kz) ?_
            show own_Go p.tables e below _ T4 (mkF m 302 #[.val (.int p1), .val (.int p2), .val (.int p3), .val (.int p4), .val (.int p5), .val (.int p6), .val (.int r1), .val (.int r2), .val (.int r3), .val (.int (Int32.ofNat n)), .val (.int rel), .val (.int md), .val (.int se), .val (.int pk), .val (.int dp), .val (.ref b), .val (.double (own_ap (own_g r1 r2 r3) 2 rel)), .second, .val (.int (Int32.ofNat 2)), .val (.double (own_s (own_g r1 r2 r3) 1)), .second, .unset, .unset] [])
            refine own_go (fun tz kz => XS.dload X4.here hx rfl (hb hby at_302) rfl kz) ?_
            show own_Go p.tables e below _ T4 (mkF m 304 #[.val (.int p1), .val (.int p2), .val (.int p3), .val (.int p4), .val (.int p5), .val (.int p6), .val (.int r1), .val (.int r2), .val (.int r3), .val (.int (Int32.ofNat n)), .val (.int rel), .val (.int md), .val (.int se), .val (.int pk), .val (.int dp), .val (.ref b), .val (.double (own_ap (own_g r1 r2 r3) 2 rel)), .second, .val (.int (Int32.ofNat 2)), .val (.double (own_s (own_g r1 r2 r3) 1)), .second, .unset, .unset] [(.double (own_s (own_g r1 r2 r3) 1))])
            refine own_go (fun tz kz => own_ldc2D X4 hx hown (mvT hZ (hw _ (List.mem_of_getElem? (i := 31) rfl))) rfl (hb hby at_304) kz) ?_
            show own_Go p.tables e below _ T4 (mkF m 307 #[.val (.int p1), .val (.int p2), .val (.int p3), .val (.int p4), .val (.int p5), .val (.int p6), .val (.int r1), .val (.int r2), .val (.int r3), .val (.int (Int32.ofNat n)), .val (.int rel), .val (.int md), .val (.int se), .val (.int pk), .val (.int dp), .val (.ref b), .val (.double (own_ap (own_g r1 r2 r3) 2 rel)), .second, .val (.int (Int32.ofNat 2)), .val (.double (own_s (own_g r1 r2 r3) 1)), .second, .unset, .unset] [(.double (4611686018427387904 : UInt64)), (.double (own_s (own_g r1 r2 r3) 1))])
            refine own_go (fun tz kz => XS.iload X4.here hx rfl (hb hby at_307) rfl kz) ?_
            show own_Go p.tables e below _ T4 (mkF m 309 #[.val (.int p1), .val (.int p2), .val (.int p3), .val (.int p4), .val (.int p5), .val (.int p6), .val (.int r1), .val (.int r2), .val (.int r3), .val (.int (Int32.ofNat n)), .val (.int rel), .val (.int md), .val (.int se), .val (.int pk), .val (.int dp), .val (.ref b), .val (.double (own_ap (own_g r1 r2 r3) 2 rel)), .second, .val (.int (Int32.ofNat 2)), .val (.double (own_s (own_g r1 r2 r3) 1)), .second, .unset, .unset] [(.int r2), (.double (4611686018427387904 : UInt64)), (.double (own_s (own_g r1 r2 r3) 1))])
            refine own_go (fun tz kz => XS.i2dS X4.here hx rfl (hb hby at_309) rfl rfl kz) ?_
            show own_Go p.tables e below _ T4 (mkF m 310 #[.val (.int p1), .val (.int p2), .val (.int p3), .val (.int p4), .val (.int p5), .val (.int p6), .val (.int r1), .val (.int r2), .val (.int r3), .val (.int (Int32.ofNat n)), .val (.int rel), .val (.int md), .val (.int se), .val (.int pk), .val (.int dp), .val (.ref b), .val (.double (own_ap (own_g r1 r2 r3) 2 rel)), .second, .val (.int (Int32.ofNat 2)), .val (.double (own_s (own_g r1 r2 r3) 1)), .second, .unset, .unset] [(.double (FP.i2d r2)), (.double (4611686018427387904 : UInt64)), (.double (own_s (own_g r1 r2 r3) 1))])
            rw [← own_d2]
            show own_Go p.tables e below _ T4 (mkF m 310 #[.val (.int p1), .val (.int p2), .val (.int p3), .val (.int p4), .val (.int p5), .val (.int p6), .val (.int r1), .val (.int r2), .val (.int r3), .val (.int (Int32.ofNat n)), .val (.int rel), .val (.int md), .val (.int se), .val (.int pk), .val (.int dp), .val (.ref b), .val (.double (own_ap (own_g r1 r2 r3) 2 rel)), .second, .val (.int (Int32.ofNat 2)), .val (.double (own_s (own_g r1 r2 r3) 1)), .second, .unset, .unset] [(.double (FP.i2d r2)), (.double (FP.i2d (Int32.ofNat 1 + 1))), (.double (own_s (own_g r1 r2 r3) 1))])
            refine own_go (fun tz kz => XS.ddivS X4.here hx rfl (hb hby at_310) rfl (own_nq (g := (own_g r1 r2 r3)) (k := 1) _ (hg 1 (by omega))) rfl kz) ?_
            show own_Go p.tables e below _ T4 (mkF m 311 #[.val (.int p1), .val (.int p2), .val (.int p3), .val (.int p4), .val (.int p5), .val (.int p6), .val (.int r1), .val (.int r2), .val (.int r3), .val (.int (Int32.ofNat n)), .val (.int rel), .val (.int md), .val (.int se), .val (.int pk), .val (.int dp), .val (.ref b), .val (.double (own_ap (own_g r1 r2 r3) 2 rel)), .second, .val (.int (Int32.ofNat 2)), .val (.double (own_s (own_g r1 r2 r3) 1)), .second, .unset, .unset] [(.double (FP.ddiv (FP.i2d (Int32.ofNat 1 + 1)) (FP.i2d r2))), (.double (own_s (own_g r1 r2 r3) 1))])
            refine own_go (fun tz kz => XS.daddS X4.here hx rfl (hb hby at_311) rfl (own_ns (g := (own_g r1 r2 r3)) hg (k := 2) (by omega) (by omega)) rfl kz) ?_
            show own_Go p.tables e below _ T4 (mkF m 312 #[.val (.int p1), .val (.int p2), .val (.int p3), .val (.int p4), .val (.int p5), .val (.int p6), .val (.int r1), .val (.int r2), .val (.int r3), .val (.int (Int32.ofNat n)), .val (.int rel), .val (.int md), .val (.int se), .val (.int pk), .val (.int dp), .val (.ref b), .val (.double (own_ap (own_g r1 r2 r3) 2 rel)), .second, .val (.int (Int32.ofNat 2)), .val (.double (own_s (own_g r1 r2 r3) 1)), .second, .unset, .unset] [(.double (FP.dadd (own_s (own_g r1 r2 r3) 1) (FP.ddiv (FP.i2d (Int32.ofNat 1 + 1)) (FP.i2d r2))))])
            show own_Go p.tables e below _ T4 (mkF m 312 #[.val (.int p1), .val (.int p2), .val (.int p3), .val (.int p4), .val (.int p5), .val (.int p6), .val (.int r1), .val (.int r2), .val (.int r3), .val (.int (Int32.ofNat n)), .val (.int rel), .val (.int md), .val (.int se), .val (.int pk), .val (.int dp), .val (.ref b), .val (.double (own_ap (own_g r1 r2 r3) 2 rel)), .second, .val (.int (Int32.ofNat 2)), .val (.double (own_s (own_g r1 r2 r3) 1)), .second, .unset, .unset] [(.double (own_s (own_g r1 r2 r3) 2))])
            refine own_go (fun tz kz => XS.dstore X4.here hx rfl (hb hby at_312) rfl (l' := #[.val (.int p1), .val (.int p2), .val (.int p3), .val (.int p4), .val (.int p5), .val (.int p6), .val (.int r1), .val (.int r2), .val (.int r3), .val (.int (Int32.ofNat n)), .val (.int rel), .val (.int md), .val (.int se), .val (.int pk), .val (.int dp), .val (.ref b), .val (.double (own_ap (own_g r1 r2 r3) 2 rel)), .second, .val (.int (Int32.ofNat 2)), .val (.double (own_s (own_g r1 r2 r3) 2)), .second, .unset, .unset]) rfl kz) ?_
            show own_Go p.tables e below _ T4 (mkF m 314 #[.val (.int p1), .val (.int p2), .val (.int p3), .val (.int p4), .val (.int p5), .val (.int p6), .val (.int r1), .val (.int r2), .val (.int r3), .val (.int (Int32.ofNat n)), .val (.int rel), .val (.int md), .val (.int se), .val (.int pk), .val (.int dp), .val (.ref b), .val (.double (own_ap (own_g r1 r2 r3) 2 rel)), .second, .val (.int (Int32.ofNat 2)), .val (.double (own_s (own_g r1 r2 r3) 2)), .second, .unset, .unset] [])
            refine own_go (fun tz kz => XS.iload X4.here hx rfl (hb hby at_314) rfl kz) ?_
            show own_Go p.tables e below _ T4 (mkF m 316 #[.val (.int p1), .val (.int p2), .val (.int p3), .val (.int p4), .val (.int p5), .val (.int p6), .val (.int r1), .val (.int r2), .val (.int r3), .val (.int (Int32.ofNat n)), .val (.int rel), .val (.int md), .val (.int se), .val (.int pk), .val (.int dp), .val (.ref b), .val (.double (own_ap (own_g r1 r2 r3) 2 rel)), .second, .val (.int (Int32.ofNat 2)), .val (.double (own_s (own_g r1 r2 r3) 2)), .second, .unset, .unset] [(.int (Int32.ofNat 2))])
            refine own_go (fun tz kz => XS.iconst X4.here hx rfl (hb hby at_316) kz) ?_
            show own_Go p.tables e below _ T4 (mkF m 317 #[.val (.int p1), .val (.int p2), .val (.int p3), .val (.int p4), .val (.int p5), .val (.int p6), .val (.int r1), .val (.int r2), .val (.int r3), .val (.int (Int32.ofNat n)), .val (.int rel), .val (.int md), .val (.int se), .val (.int pk), .val (.int dp), .val (.ref b), .val (.double (own_ap (own_g r1 r2 r3) 2 rel)), .second, .val (.int (Int32.ofNat 2)), .val (.double (own_s (own_g r1 r2 r3) 2)), .second, .unset, .unset] [(.int (3 : Int32)), (.int (Int32.ofNat 2))])
            refine own_go (fun tz kz => XS.icmpYes X4.here hx rfl (pc0 := 317) (pc' := 332) rfl (hb hby at_317) rfl (XT.ii_lt_t (by decide)) (by decide) (by decide) kz) ?_
            show own_Go p.tables e below _ T4 (mkF m 332 #[.val (.int p1), .val (.int p2), .val (.int p3), .val (.int p4), .val (.int p5), .val (.int p6), .val (.int r1), .val (.int r2), .val (.int r3), .val (.int (Int32.ofNat n)), .val (.int rel), .val (.int md), .val (.int se), .val (.int pk), .val (.int dp), .val (.ref b), .val (.double (own_ap (own_g r1 r2 r3) 2 rel)), .second, .val (.int (Int32.ofNat 2)), .val (.double (own_s (own_g r1 r2 r3) 2)), .second, .unset, .unset] [])
            refine own_go (fun tz kz => XS.iload X4.here hx rfl (hb hby at_332) rfl kz) ?_
            show own_Go p.tables e below _ T4 (mkF m 334 #[.val (.int p1), .val (.int p2), .val (.int p3), .val (.int p4), .val (.int p5), .val (.int p6), .val (.int r1), .val (.int r2), .val (.int r3), .val (.int (Int32.ofNat n)), .val (.int rel), .val (.int md), .val (.int se), .val (.int pk), .val (.int dp), .val (.ref b), .val (.double (own_ap (own_g r1 r2 r3) 2 rel)), .second, .val (.int (Int32.ofNat 2)), .val (.double (own_s (own_g r1 r2 r3) 2)), .second, .unset, .unset] [(.int rel)])
            by_cases hr0 : rel = (0 : Int32)
            ·
              refine own_go (fun tz kz => XS.ifNo X4.here hx rfl (hb hby at_334) rfl (XT.i0_ne_f hr0) kz) ?_
              show own_Go p.tables e below _ T4 (mkF m 337 #[.val (.int p1), .val (.int p2), .val (.int p3), .val (.int p4), .val (.int p5), .val (.int p6), .val (.int r1), .val (.int r2), .val (.int r3), .val (.int (Int32.ofNat n)), .val (.int rel), .val (.int md), .val (.int se), .val (.int pk), .val (.int dp), .val (.ref b), .val (.double (own_ap (own_g r1 r2 r3) 2 rel)), .second, .val (.int (Int32.ofNat 2)), .val (.double (own_s (own_g r1 r2 r3) 2)), .second, .unset, .unset] [])
              refine own_go (fun tz kz => XS.dconst0 X4.here hx rfl (hb hby at_337) rfl kz) ?_
              show own_Go p.tables e below _ T4 (mkF m 338 #[.val (.int p1), .val (.int p2), .val (.int p3), .val (.int p4), .val (.int p5), .val (.int p6), .val (.int r1), .val (.int r2), .val (.int r3), .val (.int (Int32.ofNat n)), .val (.int rel), .val (.int md), .val (.int se), .val (.int pk), .val (.int dp), .val (.ref b), .val (.double (own_ap (own_g r1 r2 r3) 2 rel)), .second, .val (.int (Int32.ofNat 2)), .val (.double (own_s (own_g r1 r2 r3) 2)), .second, .unset, .unset] [(.double FP.dconst0)])
              refine own_go (fun tz kz => XS.goto X4.here hx rfl (pc0 := 338) (pc' := 347) rfl (hb hby at_338) (by decide) (by decide) kz) ?_
              show own_Go p.tables e below _ T4 (mkF m 347 #[.val (.int p1), .val (.int p2), .val (.int p3), .val (.int p4), .val (.int p5), .val (.int p6), .val (.int r1), .val (.int r2), .val (.int r3), .val (.int (Int32.ofNat n)), .val (.int rel), .val (.int md), .val (.int se), .val (.int pk), .val (.int dp), .val (.ref b), .val (.double (own_ap (own_g r1 r2 r3) 2 rel)), .second, .val (.int (Int32.ofNat 2)), .val (.double (own_s (own_g r1 r2 r3) 2)), .second, .unset, .unset] [(.double FP.dconst0)])
              rw [show FP.dconst0 = (own_ap (own_g r1 r2 r3) 2 rel) from (if_pos hr0).symm]
              show own_Go p.tables e below _ T4 (mkF m 347 #[.val (.int p1), .val (.int p2), .val (.int p3), .val (.int p4), .val (.int p5), .val (.int p6), .val (.int r1), .val (.int r2), .val (.int r3), .val (.int (Int32.ofNat n)), .val (.int rel), .val (.int md), .val (.int se), .val (.int pk), .val (.int dp), .val (.ref b), .val (.double (own_ap (own_g r1 r2 r3) 2 rel)), .second, .val (.int (Int32.ofNat 2)), .val (.double (own_s (own_g r1 r2 r3) 2)), .second, .unset, .unset] [(.double (own_ap (own_g r1 r2 r3) 2 rel))])
              refine own_go (fun tz kz => XS.dstore X4.here hx rfl (hb hby at_347) rfl (l' := #[.val (.int p1), .val (.int p2), .val (.int p3), .val (.int p4), .val (.int p5), .val (.int p6), .val (.int r1), .val (.int r2), .val (.int r3), .val (.int (Int32.ofNat n)), .val (.int rel), .val (.int md), .val (.int se), .val (.int pk), .val (.int dp), .val (.ref b), .val (.double (own_ap (own_g r1 r2 r3) 2 rel)), .second, .val (.int (Int32.ofNat 2)), .val (.double (own_s (own_g r1 r2 r3) 2)), .second, .val (.double (own_ap (own_g r1 r2 r3) 2 rel)), .second]) rfl kz) ?_
              show own_Go p.tables e below _ T4 (mkF m 349 #[.val (.int p1), .val (.int p2), .val (.int p3), .val (.int p4), .val (.int p5), .val (.int p6), .val (.int r1), .val (.int r2), .val (.int r3), .val (.int (Int32.ofNat n)), .val (.int rel), .val (.int md), .val (.int se), .val (.int pk), .val (.int dp), .val (.ref b), .val (.double (own_ap (own_g r1 r2 r3) 2 rel)), .second, .val (.int (Int32.ofNat 2)), .val (.double (own_s (own_g r1 r2 r3) 2)), .second, .val (.double (own_ap (own_g r1 r2 r3) 2 rel)), .second] [])
              refine own_go (fun tz kz => XS.dload X4.here hx rfl (hb hby at_349) rfl kz) ?_
              show own_Go p.tables e below _ T4 (mkF m 351 #[.val (.int p1), .val (.int p2), .val (.int p3), .val (.int p4), .val (.int p5), .val (.int p6), .val (.int r1), .val (.int r2), .val (.int r3), .val (.int (Int32.ofNat n)), .val (.int rel), .val (.int md), .val (.int se), .val (.int pk), .val (.int dp), .val (.ref b), .val (.double (own_ap (own_g r1 r2 r3) 2 rel)), .second, .val (.int (Int32.ofNat 2)), .val (.double (own_s (own_g r1 r2 r3) 2)), .second, .val (.double (own_ap (own_g r1 r2 r3) 2 rel)), .second] [(.double (own_ap (own_g r1 r2 r3) 2 rel))])
              refine own_go (fun tz kz => XS.dload X4.here hx rfl (hb hby at_351) rfl kz) ?_
              show own_Go p.tables e below _ T4 (mkF m 353 #[.val (.int p1), .val (.int p2), .val (.int p3), .val (.int p4), .val (.int p5), .val (.int p6), .val (.int r1), .val (.int r2), .val (.int r3), .val (.int (Int32.ofNat n)), .val (.int rel), .val (.int md), .val (.int se), .val (.int pk), .val (.int dp), .val (.ref b), .val (.double (own_ap (own_g r1 r2 r3) 2 rel)), .second, .val (.int (Int32.ofNat 2)), .val (.double (own_s (own_g r1 r2 r3) 2)), .second, .val (.double (own_ap (own_g r1 r2 r3) 2 rel)), .second] [(.double (own_ap (own_g r1 r2 r3) 2 rel)), (.double (own_ap (own_g r1 r2 r3) 2 rel))])
              refine own_go (fun tz kz => XS.dcmpS X4.here hx rfl (hb hby at_353) rfl (dcmpV_self (own_nap hg hF (by omega) rel) _) kz) ?_
              show own_Go p.tables e below _ T4 (mkF m 354 #[.val (.int p1), .val (.int p2), .val (.int p3), .val (.int p4), .val (.int p5), .val (.int p6), .val (.int r1), .val (.int r2), .val (.int r3), .val (.int (Int32.ofNat n)), .val (.int rel), .val (.int md), .val (.int se), .val (.int pk), .val (.int dp), .val (.ref b), .val (.double (own_ap (own_g r1 r2 r3) 2 rel)), .second, .val (.int (Int32.ofNat 2)), .val (.double (own_s (own_g r1 r2 r3) 2)), .second, .val (.double (own_ap (own_g r1 r2 r3) 2 rel)), .second] [(.int (0 : Int32))])
              refine own_go (fun tz kz => XS.ifNo X4.here hx rfl (hb hby at_354) rfl (XT.i0_ne_f rfl) kz) ?_
              show own_Go p.tables e below _ T4 (mkF m 357 #[.val (.int p1), .val (.int p2), .val (.int p3), .val (.int p4), .val (.int p5), .val (.int p6), .val (.int r1), .val (.int r2), .val (.int r3), .val (.int (Int32.ofNat n)), .val (.int rel), .val (.int md), .val (.int se), .val (.int pk), .val (.int dp), .val (.ref b), .val (.double (own_ap (own_g r1 r2 r3) 2 rel)), .second, .val (.int (Int32.ofNat 2)), .val (.double (own_s (own_g r1 r2 r3) 2)), .second, .val (.double (own_ap (own_g r1 r2 r3) 2 rel)), .second] [])
              refine own_go (fun tz kz => XS.iconst X4.here hx rfl (hb hby at_357) kz) ?_
              show own_Go p.tables e below _ T4 (mkF m 358 #[.val (.int p1), .val (.int p2), .val (.int p3), .val (.int p4), .val (.int p5), .val (.int p6), .val (.int r1), .val (.int r2), .val (.int r3), .val (.int (Int32.ofNat n)), .val (.int rel), .val (.int md), .val (.int se), .val (.int pk), .val (.int dp), .val (.ref b), .val (.double (own_ap (own_g r1 r2 r3) 2 rel)), .second, .val (.int (Int32.ofNat 2)), .val (.double (own_s (own_g r1 r2 r3) 2)), .second, .val (.double (own_ap (own_g r1 r2 r3) 2 rel)), .second] [(.int (1 : Int32))])
              refine own_go (fun tz kz => XS.goto X4.here hx rfl (pc0 := 358) (pc' := 362) rfl (hb hby at_358) (by decide) (by decide) kz) ?_
              show own_Go p.tables e below _ T4 (mkF m 362 #[.val (.int p1), .val (.int p2), .val (.int p3), .val (.int p4), .val (.int p5), .val (.int p6), .val (.int r1), .val (.int r2), .val (.int r3), .val (.int (Int32.ofNat n)), .val (.int rel), .val (.int md), .val (.int se), .val (.int pk), .val (.int dp), .val (.ref b), .val (.double (own_ap (own_g r1 r2 r3) 2 rel)), .second, .val (.int (Int32.ofNat 2)), .val (.double (own_s (own_g r1 r2 r3) 2)), .second, .val (.double (own_ap (own_g r1 r2 r3) 2 rel)), .second] [(.int (1 : Int32))])
              obtain ⟨fs, hr, hrun, hended, hW, hsame⟩ := X4.leave (v := some (.int (1 : Int32))) (fun h => by rw [Bd.returns] at h; cases h) (BodyLoose.notSynchronized Bd)
              refine ⟨_, _, ?_, hrun, hended, _, _, rfl, ?_, ⟨_, rfl⟩, hW, hsame.mono (by decide) (by decide)⟩
              · exact retN X4 hx (t := .boolean) Bd.returns (by simp) (hb hby at_362) hr
              · show Q0 Z p1 p2 p3 p4 p5 p6 h0 n0 _ T4.heap _
                rw [e4]
                exact ⟨rfl, N4⟩
            ·
              refine own_go (fun tz kz => XS.ifYes X4.here hx rfl (pc0 := 334) (pc' := 341) rfl (hb hby at_334) rfl (XT.i0_ne_t hr0) (by decide) (by decide) kz) ?_
              show own_Go p.tables e below _ T4 (mkF m 341 #[.val (.int p1), .val (.int p2), .val (.int p3), .val (.int p4), .val (.int p5), .val (.int p6), .val (.int r1), .val (.int r2), .val (.int r3), .val (.int (Int32.ofNat n)), .val (.int rel), .val (.int md), .val (.int se), .val (.int pk), .val (.int dp), .val (.ref b), .val (.double (own_ap (own_g r1 r2 r3) 2 rel)), .second, .val (.int (Int32.ofNat 2)), .val (.double (own_s (own_g r1 r2 r3) 2)), .second, .unset, .unset] [])
              refine own_go (fun tz kz => XS.dload X4.here hx rfl (hb hby at_341) rfl kz) ?_
              show own_Go p.tables e below _ T4 (mkF m 343 #[.val (.int p1), .val (.int p2), .val (.int p3), .val (.int p4), .val (.int p5), .val (.int p6), .val (.int r1), .val (.int r2), .val (.int r3), .val (.int (Int32.ofNat n)), .val (.int rel), .val (.int md), .val (.int se), .val (.int pk), .val (.int dp), .val (.ref b), .val (.double (own_ap (own_g r1 r2 r3) 2 rel)), .second, .val (.int (Int32.ofNat 2)), .val (.double (own_s (own_g r1 r2 r3) 2)), .second, .unset, .unset] [(.double (own_s (own_g r1 r2 r3) 2))])
              refine own_go (fun tz kz => XS.iload X4.here hx rfl (hb hby at_343) rfl kz) ?_
              show own_Go p.tables e below _ T4 (mkF m 345 #[.val (.int p1), .val (.int p2), .val (.int p3), .val (.int p4), .val (.int p5), .val (.int p6), .val (.int r1), .val (.int r2), .val (.int r3), .val (.int (Int32.ofNat n)), .val (.int rel), .val (.int md), .val (.int se), .val (.int pk), .val (.int dp), .val (.ref b), .val (.double (own_ap (own_g r1 r2 r3) 2 rel)), .second, .val (.int (Int32.ofNat 2)), .val (.double (own_s (own_g r1 r2 r3) 2)), .second, .unset, .unset] [(.int rel), (.double (own_s (own_g r1 r2 r3) 2))])
              refine own_go (fun tz kz => XS.i2dS X4.here hx rfl (hb hby at_345) rfl rfl kz) ?_
              show own_Go p.tables e below _ T4 (mkF m 346 #[.val (.int p1), .val (.int p2), .val (.int p3), .val (.int p4), .val (.int p5), .val (.int p6), .val (.int r1), .val (.int r2), .val (.int r3), .val (.int (Int32.ofNat n)), .val (.int rel), .val (.int md), .val (.int se), .val (.int pk), .val (.int dp), .val (.ref b), .val (.double (own_ap (own_g r1 r2 r3) 2 rel)), .second, .val (.int (Int32.ofNat 2)), .val (.double (own_s (own_g r1 r2 r3) 2)), .second, .unset, .unset] [(.double (FP.i2d rel)), (.double (own_s (own_g r1 r2 r3) 2))])
              refine own_go (fun tz kz => XS.ddivS X4.here hx rfl (hb hby at_346) rfl (own_nr (g := (own_g r1 r2 r3)) hg hF (by omega) hr0) rfl kz) ?_
              show own_Go p.tables e below _ T4 (mkF m 347 #[.val (.int p1), .val (.int p2), .val (.int p3), .val (.int p4), .val (.int p5), .val (.int p6), .val (.int r1), .val (.int r2), .val (.int r3), .val (.int (Int32.ofNat n)), .val (.int rel), .val (.int md), .val (.int se), .val (.int pk), .val (.int dp), .val (.ref b), .val (.double (own_ap (own_g r1 r2 r3) 2 rel)), .second, .val (.int (Int32.ofNat 2)), .val (.double (own_s (own_g r1 r2 r3) 2)), .second, .unset, .unset] [(.double (FP.ddiv (own_s (own_g r1 r2 r3) 2) (FP.i2d rel)))])
              rw [show (FP.ddiv (own_s (own_g r1 r2 r3) 2) (FP.i2d rel)) = (own_ap (own_g r1 r2 r3) 2 rel) from (if_neg hr0).symm]
              show own_Go p.tables e below _ T4 (mkF m 347 #[.val (.int p1), .val (.int p2), .val (.int p3), .val (.int p4), .val (.int p5), .val (.int p6), .val (.int r1), .val (.int r2), .val (.int r3), .val (.int (Int32.ofNat n)), .val (.int rel), .val (.int md), .val (.int se), .val (.int pk), .val (.int dp), .val (.ref b), .val (.double (own_ap (own_g r1 r2 r3) 2 rel)), .second, .val (.int (Int32.ofNat 2)), .val (.double (own_s (own_g r1 r2 r3) 2)), .second, .unset, .unset] [(.double (own_ap (own_g r1 r2 r3) 2 rel))])
              refine own_go (fun tz kz => XS.dstore X4.here hx rfl (hb hby at_347) rfl (l' := #[.val (.int p1), .val (.int p2), .val (.int p3), .val (.int p4), .val (.int p5), .val (.int p6), .val (.int r1), .val (.int r2), .val (.int r3), .val (.int (Int32.ofNat n)), .val (.int rel), .val (.int md), .val (.int se), .val (.int pk), .val (.int dp), .val (.ref b), .val (.double (own_ap (own_g r1 r2 r3) 2 rel)), .second, .val (.int (Int32.ofNat 2)), .val (.double (own_s (own_g r1 r2 r3) 2)), .second, .val (.double (own_ap (own_g r1 r2 r3) 2 rel)), .second]) rfl kz) ?_
              show own_Go p.tables e below _ T4 (mkF m 349 #[.val (.int p1), .val (.int p2), .val (.int p3), .val (.int p4), .val (.int p5), .val (.int p6), .val (.int r1), .val (.int r2), .val (.int r3), .val (.int (Int32.ofNat n)), .val (.int rel), .val (.int md), .val (.int se), .val (.int pk), .val (.int dp), .val (.ref b), .val (.double (own_ap (own_g r1 r2 r3) 2 rel)), .second, .val (.int (Int32.ofNat 2)), .val (.double (own_s (own_g r1 r2 r3) 2)), .second, .val (.double (own_ap (own_g r1 r2 r3) 2 rel)), .second] [])
              refine own_go (fun tz kz => XS.dload X4.here hx rfl (hb hby at_349) rfl kz) ?_
              show own_Go p.tables e below _ T4 (mkF m 351 #[.val (.int p1), .val (.int p2), .val (.int p3), .val (.int p4), .val (.int p5), .val (.int p6), .val (.int r1), .val (.int r2), .val (.int r3), .val (.int (Int32.ofNat n)), .val (.int rel), .val (.int md), .val (.int se), .val (.int pk), .val (.int dp), .val (.ref b), .val (.double (own_ap (own_g r1 r2 r3) 2 rel)), .second, .val (.int (Int32.ofNat 2)), .val (.double (own_s (own_g r1 r2 r3) 2)), .second, .val (.double (own_ap (own_g r1 r2 r3) 2 rel)), .second] [(.double (own_ap (own_g r1 r2 r3) 2 rel))])
              refine own_go (fun tz kz => XS.dload X4.here hx rfl (hb hby at_351) rfl kz) ?_
              show own_Go p.tables e below _ T4 (mkF m 353 #[.val (.int p1), .val (.int p2), .val (.int p3), .val (.int p4), .val (.int p5), .val (.int p6), .val (.int r1), .val (.int r2), .val (.int r3), .val (.int (Int32.ofNat n)), .val (.int rel), .val (.int md), .val (.int se), .val (.int pk), .val (.int dp), .val (.ref b), .val (.double (own_ap (own_g r1 r2 r3) 2 rel)), .second, .val (.int (Int32.ofNat 2)), .val (.double (own_s (own_g r1 r2 r3) 2)), .second, .val (.double (own_ap (own_g r1 r2 r3) 2 rel)), .second] [(.double (own_ap (own_g r1 r2 r3) 2 rel)), (.double (own_ap (own_g r1 r2 r3) 2 rel))])
              refine own_go (fun tz kz => XS.dcmpS X4.here hx rfl (hb hby at_353) rfl (dcmpV_self (own_nap hg hF (by omega) rel) _) kz) ?_
              show own_Go p.tables e below _ T4 (mkF m 354 #[.val (.int p1), .val (.int p2), .val (.int p3), .val (.int p4), .val (.int p5), .val (.int p6), .val (.int r1), .val (.int r2), .val (.int r3), .val (.int (Int32.ofNat n)), .val (.int rel), .val (.int md), .val (.int se), .val (.int pk), .val (.int dp), .val (.ref b), .val (.double (own_ap (own_g r1 r2 r3) 2 rel)), .second, .val (.int (Int32.ofNat 2)), .val (.double (own_s (own_g r1 r2 r3) 2)), .second, .val (.double (own_ap (own_g r1 r2 r3) 2 rel)), .second] [(.int (0 : Int32))])
              refine own_go (fun tz kz => XS.ifNo X4.here hx rfl (hb hby at_354) rfl (XT.i0_ne_f rfl) kz) ?_
              show own_Go p.tables e below _ T4 (mkF m 357 #[.val (.int p1), .val (.int p2), .val (.int p3), .val (.int p4), .val (.int p5), .val (.int p6), .val (.int r1), .val (.int r2), .val (.int r3), .val (.int (Int32.ofNat n)), .val (.int rel), .val (.int md), .val (.int se), .val (.int pk), .val (.int dp), .val (.ref b), .val (.double (own_ap (own_g r1 r2 r3) 2 rel)), .second, .val (.int (Int32.ofNat 2)), .val (.double (own_s (own_g r1 r2 r3) 2)), .second, .val (.double (own_ap (own_g r1 r2 r3) 2 rel)), .second] [])
              refine own_go (fun tz kz => XS.iconst X4.here hx rfl (hb hby at_357) kz) ?_
              show own_Go p.tables e below _ T4 (mkF m 358 #[.val (.int p1), .val (.int p2), .val (.int p3), .val (.int p4), .val (.int p5), .val (.int p6), .val (.int r1), .val (.int r2), .val (.int r3), .val (.int (Int32.ofNat n)), .val (.int rel), .val (.int md), .val (.int se), .val (.int pk), .val (.int dp), .val (.ref b), .val (.double (own_ap (own_g r1 r2 r3) 2 rel)), .second, .val (.int (Int32.ofNat 2)), .val (.double (own_s (own_g r1 r2 r3) 2)), .second, .val (.double (own_ap (own_g r1 r2 r3) 2 rel)), .second] [(.int (1 : Int32))])
              refine own_go (fun tz kz => XS.goto X4.here hx rfl (pc0 := 358) (pc' := 362) rfl (hb hby at_358) (by decide) (by decide) kz) ?_
              show own_Go p.tables e below _ T4 (mkF m 362 #[.val (.int p1), .val (.int p2), .val (.int p3), .val (.int p4), .val (.int p5), .val (.int p6), .val (.int r1), .val (.int r2), .val (.int r3), .val (.int (Int32.ofNat n)), .val (.int rel), .val (.int md), .val (.int se), .val (.int pk), .val (.int dp), .val (.ref b), .val (.double (own_ap (own_g r1 r2 r3) 2 rel)), .second, .val (.int (Int32.ofNat 2)), .val (.double (own_s (own_g r1 r2 r3) 2)), .second, .val (.double (own_ap (own_g r1 r2 r3) 2 rel)), .second] [(.int (1 : Int32))])
              obtain ⟨fs, hr, hrun, hended, hW, hsame⟩ := X4.leave (v := some (.int (1 : Int32))) (fun h => by rw [Bd.returns] at h; cases h) (BodyLoose.notSynchronized Bd)
              refine ⟨_, _, ?_, hrun, hended, _, _, rfl, ?_, ⟨_, rfl⟩, hW, hsame.mono (by decide) (by decide)⟩
              · exact retN X4 hx (t := .boolean) Bd.returns (by simp) (hb hby at_362) hr
              · show Q0 Z p1 p2 p3 p4 p5 p6 h0 n0 _ T4.heap _
                rw [e4]
                exact ⟨rfl, N4⟩
          ·
            show own_Go p.tables e below _ T4 (mkF m 283 #[.val (.int p1), .val (.int p2), .val (.int p3), .val (.int p4), .val (.int p5), .val (.int p6), .val (.int r1), .val (.int r2), .val (.int r3), .val (.int (Int32.ofNat n)), .val (.int rel), .val (.int md), .val (.int se), .val (.int pk), .val (.int dp), .val (.ref b), .val (.double (own_ap (own_g r1 r2 r3) 3 rel)), .second, .val (.int (Int32.ofNat 3)), .val (.double FP.dconst0), .second, .unset, .unset] [(.int (1 : Int32)), (.int (Int32.ofNat 3))])
            refine own_go (fun tz kz => XS.icmpNo X4.here hx rfl (hb hby at_283) rfl (XT.ii_lt_f (by decide)) kz) ?_
            show own_Go p.tables e below _ T4 (mkF m 286 #[.val (.int p1), .val (.int p2), .val (.int p3), .val (.int p4), .val (.int p5), .val (.int p6), .val (.int r1), .val (.int r2), .val (.int r3), .val (.int (Int32.ofNat n)), .val (.int rel), .val (.int md), .val (.int se), .val (.int pk), .val (.int dp), .val (.ref b), .val (.double (own_ap (own_g r1 r2 r3) 3 rel)), .second, .val (.int (Int32.ofNat 3)), .val (.double FP.dconst0), .second, .unset, .unset] [])
            refine own_go (fun tz kz => XS.dload X4.here hx rfl (hb hby at_286) rfl kz) ?_
            show own_Go p.tables e below _ T4 (mkF m 288 #[.val (.int p1), .val (.int p2), .val (.int p3), .val (.int p4), .val (.int p5), .val (.int p6), .val (.int r1), .val (.int r2), .val (.int r3), .val (.int (Int32.ofNat n)), .val (.int rel), .val (.int md), .val (.int se), .val (.int pk), .val (.int dp), .val (.ref b), .val (.double (own_ap (own_g r1 r2 r3) 3 rel)), .second, .val (.int (Int32.ofNat 3)), .val (.double FP.dconst0), .second, .unset, .unset] [(.double FP.dconst0)])
            refine own_go (fun tz kz => XS.dconst1 X4.here hx rfl (hb hby at_288) rfl kz) ?_
            show own_Go p.tables e below _ T4 (mkF m 289 #[.val (.int p1), .val (.int p2), .val (.int p3), .val (.int p4), .val (.int p5), .val (.int p6), .val (.int r1), .val (.int r2), .val (.int r3), .val (.int (Int32.ofNat n)), .val (.int rel), .val (.int md), .val (.int se), .val (.int pk), .val (.int dp), .val (.ref b), .val (.double (own_ap (own_g r1 r2 r3) 3 rel)), .second, .val (.int (Int32.ofNat 3)), .val (.double FP.dconst0), .second, .unset, .unset] [(.double FP.dconst1), (.double FP.dconst0)])
            refine own_go (fun tz kz => XS.iload X4.here hx rfl (hb hby at_289) rfl kz) ?_
            show own_Go p.tables e below _ T4 (mkF m 291 #[.val (.int p1), .val (.int p2), .val (.int p3), .val (.int p4), .val (.int p5), .val (.int p6), .val (.int r1), .val (.int r2), .val (.int r3), .val (.int (Int32.ofNat n)), .val (.int rel), .val (.int md), .val (.int se), .val (.int pk), .val (.int dp), .val (.ref b), .val (.double (own_ap (own_g r1 r2 r3) 3 rel)), .second, .val (.int (Int32.ofNat 3)), .val (.double FP.dconst0), .second, .unset, .unset] [(.int r1), (.double FP.dconst1), (.double FP.dconst0)])
            refine own_go (fun tz kz => XS.i2dS X4.here hx rfl (hb hby at_291) rfl rfl kz) ?_
            show own_Go p.tables e below _ T4 (mkF m 292 #[.val (.int p1), .val (.int p2), .val (.int p3), .val (.int p4), .val (.int p5), .val (.int p6), .val (.int r1), .val (.int r2), .val (.int r3), .val (.int (Int32.ofNat n)), .val (.int rel), .val (.int md), .val (.int se), .val (.int pk), .val (.int dp), .val (.ref b), .val (.double (own_ap (own_g r1 r2 r3) 3 rel)), .second, .val (.int (Int32.ofNat 3)), .val (.double FP.dconst0), .second, .unset, .unset] [(.double (FP.i2d r1)), (.double FP.dconst1), (.double FP.dconst0)])
            rw [← own_d1]
            show own_Go p.tables e below _ T4 (mkF m 292 #[.val (.int p1), .val (.int p2), .val (.int p3), .val (.int p4), .val (.int p5), .val (.int p6), .val (.int r1), .val (.int r2), .val (.int r3), .val (.int (Int32.ofNat n)), .val (.int rel), .val (.int md), .val (.int se), .val (.int pk), .val (.int dp), .val (.ref b), .val (.double (own_ap (own_g r1 r2 r3) 3 rel)), .second, .val (.int (Int32.ofNat 3)), .val (.double FP.dconst0), .second, .unset, .unset] [(.double (FP.i2d r1)), (.double (FP.i2d (Int32.ofNat 0 + 1))), (.double FP.dconst0)])
            refine own_go (fun tz kz => XS.ddivS X4.here hx rfl (hb hby at_292) rfl (own_nq (g := (own_g r1 r2 r3)) (k := 0) _ (hg 0 (by omega))) rfl kz) ?_
            show own_Go p.tables e below _ T4 (mkF m 293 #[.val (.int p1), .val (.int p2), .val (.int p3), .val (.int p4), .val (.int p5), .val (.int p6), .val (.int r1), .val (.int r2), .val (.int r3), .val (.int (Int32.ofNat n)), .val (.int rel), .val (.int md), .val (.int se), .val (.int pk), .val (.int dp), .val (.ref b), .val (.double (own_ap (own_g r1 r2 r3) 3 rel)), .second, .val (.int (Int32.ofNat 3)), .val (.double FP.dconst0), .second, .unset, .unset] [(.double (FP.ddiv (FP.i2d (Int32.ofNat 0 + 1)) (FP.i2d r1))), (.double FP.dconst0)])
            refine own_go (fun tz kz => XS.daddS X4.here hx rfl (hb hby at_293) rfl (own_ns (g := (own_g r1 r2 r3)) hg (k := 1) (by omega) (by omega)) rfl kz) ?_
            show own_Go p.tables e below _ T4 (mkF m 294 #[.val (.int p1), .val (.int p2), .val (.int p3), .val (.int p4), .val (.int p5), .val (.int p6), .val (.int r1), .val (.int r2), .val (.int r3), .val (.int (Int32.ofNat n)), .val (.int rel), .val (.int md), .val (.int se), .val (.int pk), .val (.int dp), .val (.ref b), .val (.double (own_ap (own_g r1 r2 r3) 3 rel)), .second, .val (.int (Int32.ofNat 3)), .val (.double FP.dconst0), .second, .unset, .unset] [(.double (FP.dadd FP.dconst0 (FP.ddiv (FP.i2d (Int32.ofNat 0 + 1)) (FP.i2d r1))))])
            show own_Go p.tables e below _ T4 (mkF m 294 #[.val (.int p1), .val (.int p2), .val (.int p3), .val (.int p4), .val (.int p5), .val (.int p6), .val (.int r1), .val (.int r2), .val (.int r3), .val (.int (Int32.ofNat n)), .val (.int rel), .val (.int md), .val (.int se), .val (.int pk), .val (.int dp), .val (.ref b), .val (.double (own_ap (own_g r1 r2 r3) 3 rel)), .second, .val (.int (Int32.ofNat 3)), .val (.double FP.dconst0), .second, .unset, .unset] [(.double (own_s (own_g r1 r2 r3) 1))])
            refine own_go (fun tz kz => XS.dstore X4.here hx rfl (hb hby at_294) rfl (l' := #[.val (.int p1), .val (.int p2), .val (.int p3), .val (.int p4), .val (.int p5), .val (.int p6), .val (.int r1), .val (.int r2), .val (.int r3), .val (.int (Int32.ofNat n)), .val (.int rel), .val (.int md), .val (.int se), .val (.int pk), .val (.int dp), .val (.ref b), .val (.double (own_ap (own_g r1 r2 r3) 3 rel)), .second, .val (.int (Int32.ofNat 3)), .val (.double (own_s (own_g r1 r2 r3) 1)), .second, .unset, .unset]) rfl kz) ?_
            show own_Go p.tables e below _ T4 (mkF m 296 #[.val (.int p1), .val (.int p2), .val (.int p3), .val (.int p4), .val (.int p5), .val (.int p6), .val (.int r1), .val (.int r2), .val (.int r3), .val (.int (Int32.ofNat n)), .val (.int rel), .val (.int md), .val (.int se), .val (.int pk), .val (.int dp), .val (.ref b), .val (.double (own_ap (own_g r1 r2 r3) 3 rel)), .second, .val (.int (Int32.ofNat 3)), .val (.double (own_s (own_g r1 r2 r3) 1)), .second, .unset, .unset] [])
            refine own_go (fun tz kz => XS.iload X4.here hx rfl (hb hby at_296) rfl kz) ?_
            show own_Go p.tables e below _ T4 (mkF m 298 #[.val (.int p1), .val (.int p2), .val (.int p3), .val (.int p4), .val (.int p5), .val (.int p6), .val (.int r1), .val (.int r2), .val (.int r3), .val (.int (Int32.ofNat n)), .val (.int rel), .val (.int md), .val (.int se), .val (.int pk), .val (.int dp), .val (.ref b), .val (.double (own_ap (own_g r1 r2 r3) 3 rel)), .second, .val (.int (Int32.ofNat 3)), .val (.double (own_s (own_g r1 r2 r3) 1)), .second, .unset, .unset] [(.int (Int32.ofNat 3))])
            refine own_go (fun tz kz => XS.iconst X4.here hx rfl (hb hby at_298) kz) ?_
            show own_Go p.tables e below _ T4 (mkF m 299 #[.val (.int p1), .val (.int p2), .val (.int p3), .val (.int p4), .val (.int p5), .val (.int p6), .val (.int r1), .val (.int r2), .val (.int r3), .val (.int (Int32.ofNat n)), .val (.int rel), .val (.int md), .val (.int se), .val (.int pk), .val (.int dp), .val (.ref b), .val (.double (own_ap (own_g r1 r2 r3) 3 rel)), .second, .val (.int (Int32.ofNat 3)), .val (.double (own_s (own_g r1 r2 r3) 1)), .second, .unset, .unset] [(.int (2 : Int32)), (.int (Int32.ofNat 3))])
            refine own_go (fun tz kz => XS.icmpNo X4.here hx rfl (hb hby at_299) rfl (XT.ii_lt_f (by decide)) kz) ?_
            show own_Go p.tables e below _ T4 (mkF m 302 #[.val (.int p1), .val (.int p2), .val (.int p3), .val (.int p4), .val (.int p5), .val (.int p6), .val (.int r1), .val (.int r2), .val (.int r3), .val (.int (Int32.ofNat n)), .val (.int rel), .val (.int md), .val (.int se), .val (.int pk), .val (.int dp), .val (.ref b), .val (.double (own_ap (own_g r1 r2 r3) 3 rel)), .second, .val (.int (Int32.ofNat 3)), .val (.double (own_s (own_g r1 r2 r3) 1)), .second, .unset, .unset] [])
            refine own_go (fun tz kz => XS.dload X4.here hx rfl (hb hby at_302) rfl kz) ?_
            show own_Go p.tables e below _ T4 (mkF m 304 #[.val (.int p1), .val (.int p2), .val (.int p3), .val (.int p4), .val (.int p5), .val (.int p6), .val (.int r1), .val (.int r2), .val (.int r3), .val (.int (Int32.ofNat n)), .val (.int rel), .val (.int md), .val (.int se), .val (.int pk), .val (.int dp), .val (.ref b), .val (.double (own_ap (own_g r1 r2 r3) 3 rel)), .second, .val (.int (Int32.ofNat 3)), .val (.double (own_s (own_g r1 r2 r3) 1)), .second, .unset, .unset] [(.double (own_s (own_g r1 r2 r3) 1))])
            refine own_go (fun tz kz => own_ldc2D X4 hx hown (mvT hZ (hw _ (List.mem_of_getElem? (i := 31) rfl))) rfl (hb hby at_304) kz) ?_
            show own_Go p.tables e below _ T4 (mkF m 307 #[.val (.int p1), .val (.int p2), .val (.int p3), .val (.int p4), .val (.int p5), .val (.int p6), .val (.int r1), .val (.int r2), .val (.int r3), .val (.int (Int32.ofNat n)), .val (.int rel), .val (.int md), .val (.int se), .val (.int pk), .val (.int dp), .val (.ref b), .val (.double (own_ap (own_g r1 r2 r3) 3 rel)), .second, .val (.int (Int32.ofNat 3)), .val (.double (own_s (own_g r1 r2 r3) 1)), .second, .unset, .unset] [(.double (4611686018427387904 : UInt64)), (.double (own_s (own_g r1 r2 r3) 1))])
            refine own_go (fun tz kz => XS.iload X4.here hx rfl (hb hby at_307) rfl kz) ?_
            show own_Go p.tables e below _ T4 (mkF m 309 #[.val (.int p1), .val (.int p2), .val (.int p3), .val (.int p4), .val (.int p5), .val (.int p6), .val (.int r1), .val (.int r2), .val (.int r3), .val (.int (Int32.ofNat n)), .val (.int rel), .val (.int md), .val (.int se), .val (.int pk), .val (.int dp), .val (.ref b), .val (.double (own_ap (own_g r1 r2 r3) 3 rel)), .second, .val (.int (Int32.ofNat 3)), .val (.double (own_s (own_g r1 r2 r3) 1)), .second, .unset, .unset] [(.int r2), (.double (4611686018427387904 : UInt64)), (.double (own_s (own_g r1 r2 r3) 1))])
            refine own_go (fun tz kz => XS.i2dS X4.here hx rfl (hb hby at_309) rfl rfl kz) ?_
            show own_Go p.tables e below _ T4 (mkF m 310 #[.val (.int p1), .val (.int p2), .val (.int p3), .val (.int p4), .val (.int p5), .val (.int p6), .val (.int r1), .val (.int r2), .val (.int r3), .val (.int (Int32.ofNat n)), .val (.int rel), .val (.int md), .val (.int se), .val (.int pk), .val (.int dp), .val (.ref b), .val (.double (own_ap (own_g r1 r2 r3) 3 rel)), .second, .val (.int (Int32.ofNat 3)), .val (.double (own_s (own_g r1 r2 r3) 1)), .second, .unset, .unset] [(.double (FP.i2d r2)), (.double (4611686018427387904 : UInt64)), (.double (own_s (own_g r1 r2 r3) 1))])
            rw [← own_d2]
            show own_Go p.tables e below _ T4 (mkF m 310 #[.val (.int p1), .val (.int p2), .val (.int p3), .val (.int p4), .val (.int p5), .val (.int p6), .val (.int r1), .val (.int r2), .val (.int r3), .val (.int (Int32.ofNat n)), .val (.int rel), .val (.int md), .val (.int se), .val (.int pk), .val (.int dp), .val (.ref b), .val (.double (own_ap (own_g r1 r2 r3) 3 rel)), .second, .val (.int (Int32.ofNat 3)), .val (.double (own_s (own_g r1 r2 r3) 1)), .second, .unset, .unset] [(.double (FP.i2d r2)), (.double (FP.i2d (Int32.ofNat 1 + 1))), (.double (own_s (own_g r1 r2 r3) 1))])
            refine own_go (fun tz kz => XS.ddivS X4.here hx rfl (hb hby at_310) rfl (own_nq (g := (own_g r1 r2 r3)) (k := 1) _ (hg 1 (by omega))) rfl kz) ?_
            show own_Go p.tables e below _ T4 (mkF m 311 #[.val (.int p1), .val (.int p2), .val (.int p3), .val (.int p4), .val (.int p5), .val (.int p6), .val (.int r1), .val (.int r2), .val (.int r3), .val (.int (Int32.ofNat n)), .val (.int rel), .val (.int md), .val (.int se), .val (.int pk), .val (.int dp), .val (.ref b), .val (.double (own_ap (own_g r1 r2 r3) 3 rel)), .second, .val (.int (Int32.ofNat 3)), .val (.double (own_s (own_g r1 r2 r3) 1)), .second, .unset, .unset] [(.double (FP.ddiv (FP.i2d (Int32.ofNat 1 + 1)) (FP.i2d r2))), (.double (own_s (own_g r1 r2 r3) 1))])
            refine own_go (fun tz kz => XS.daddS X4.here hx rfl (hb hby at_311) rfl (own_ns (g := (own_g r1 r2 r3)) hg (k := 2) (by omega) (by omega)) rfl kz) ?_
            show own_Go p.tables e below _ T4 (mkF m 312 #[.val (.int p1), .val (.int p2), .val (.int p3), .val (.int p4), .val (.int p5), .val (.int p6), .val (.int r1), .val (.int r2), .val (.int r3), .val (.int (Int32.ofNat n)), .val (.int rel), .val (.int md), .val (.int se), .val (.int pk), .val (.int dp), .val (.ref b), .val (.double (own_ap (own_g r1 r2 r3) 3 rel)), .second, .val (.int (Int32.ofNat 3)), .val (.double (own_s (own_g r1 r2 r3) 1)), .second, .unset, .unset] [(.double (FP.dadd (own_s (own_g r1 r2 r3) 1) (FP.ddiv (FP.i2d (Int32.ofNat 1 + 1)) (FP.i2d r2))))])
            show own_Go p.tables e below _ T4 (mkF m 312 #[.val (.int p1), .val (.int p2), .val (.int p3), .val (.int p4), .val (.int p5), .val (.int p6), .val (.int r1), .val (.int r2), .val (.int r3), .val (.int (Int32.ofNat n)), .val (.int rel), .val (.int md), .val (.int se), .val (.int pk), .val (.int dp), .val (.ref b), .val (.double (own_ap (own_g r1 r2 r3) 3 rel)), .second, .val (.int (Int32.ofNat 3)), .val (.double (own_s (own_g r1 r2 r3) 1)), .second, .unset, .unset] [(.double (own_s (own_g r1 r2 r3) 2))])
            refine own_go (fun tz kz => XS.dstore X4.here hx rfl (hb hby at_312) rfl (l' := #[.val (.int p1), .val (.int p2), .val (.int p3), .val (.int p4), .val (.int p5), .val (.int p6), .val (.int r1), .val (.int r2), .val (.int r3), .val (.int (Int32.ofNat n)), .val (.int rel), .val (.int md), .val (.int se), .val (.int pk), .val (.int dp), .val (.ref b), .val (.double (own_ap (own_g r1 r2 r3) 3 rel)), .second, .val (.int (Int32.ofNat 3)), .val (.double (own_s (own_g r1 r2 r3) 2)), .second, .unset, .unset]) rfl kz) ?_
            show own_Go p.tables e below _ T4 (mkF m 314 #[.val (.int p1), .val (.int p2), .val (.int p3), .val (.int p4), .val (.int p5), .val (.int p6), .val (.int r1), .val (.int r2), .val (.int r3), .val (.int (Int32.ofNat n)), .val (.int rel), .val (.int md), .val (.int se), .val (.int pk), .val (.int dp), .val (.ref b), .val (.double (own_ap (own_g r1 r2 r3) 3 rel)), .second, .val (.int (Int32.ofNat 3)), .val (.double (own_s (own_g r1 r2 r3) 2)), .second, .unset, .unset] [])
            refine own_go (fun tz kz => XS.iload X4.here hx rfl (hb hby at_314) rfl kz) ?_
            show own_Go p.tables e below _ T4 (mkF m 316 #[.val (.int p1), .val (.int p2), .val (.int p3), .val (.int p4), .val (.int p5), .val (.int p6), .val (.int r1), .val (.int r2), .val (.int r3), .val (.int (Int32.ofNat n)), .val (.int rel), .val (.int md), .val (.int se), .val (.int pk), .val (.int dp), .val (.ref b), .val (.double (own_ap (own_g r1 r2 r3) 3 rel)), .second, .val (.int (Int32.ofNat 3)), .val (.double (own_s (own_g r1 r2 r3) 2)), .second, .unset, .unset] [(.int (Int32.ofNat 3))])
            refine own_go (fun tz kz => XS.iconst X4.here hx rfl (hb hby at_316) kz) ?_
            show own_Go p.tables e below _ T4 (mkF m 317 #[.val (.int p1), .val (.int p2), .val (.int p3), .val (.int p4), .val (.int p5), .val (.int p6), .val (.int r1), .val (.int r2), .val (.int r3), .val (.int (Int32.ofNat n)), .val (.int rel), .val (.int md), .val (.int se), .val (.int pk), .val (.int dp), .val (.ref b), .val (.double (own_ap (own_g r1 r2 r3) 3 rel)), .second, .val (.int (Int32.ofNat 3)), .val (.double (own_s (own_g r1 r2 r3) 2)), .second, .unset, .unset] [(.int (3 : Int32)), (.int (Int32.ofNat 3))])
            refine own_go (fun tz kz => XS.icmpNo X4.here hx rfl (hb hby at_317) rfl (XT.ii_lt_f (by decide)) kz) ?_
            show own_Go p.tables e below _ T4 (mkF m 320 #[.val (.int p1), .val (.int p2), .val (.int p3), .val (.int p4), .val (.int p5), .val (.int p6), .val (.int r1), .val (.int r2), .val (.int r3), .val (.int (Int32.ofNat n)), .val (.int rel), .val (.int md), .val (.int se), .val (.int pk), .val (.int dp), .val (.ref b), .val (.double (own_ap (own_g r1 r2 r3) 3 rel)), .second, .val (.int (Int32.ofNat 3)), .val (.double (own_s (own_g r1 r2 r3) 2)), .second, .unset, .unset] [])
            refine own_go (fun tz kz => XS.dload X4.here hx rfl (hb hby at_320) rfl kz) ?_
            show own_Go p.tables e below _ T4 (mkF m 322 #[.val (.int p1), .val (.int p2), .val (.int p3), .val (.int p4), .val (.int p5), .val (.int p6), .val (.int r1), .val (.int r2), .val (.int r3), .val (.int (Int32.ofNat n)), .val (.int rel), .val (.int md), .val (.int se), .val (.int pk), .val (.int dp), .val (.ref b), .val (.double (own_ap (own_g r1 r2 r3) 3 rel)), .second, .val (.int (Int32.ofNat 3)), .val (.double (own_s (own_g r1 r2 r3) 2)), .second, .unset, .unset] [(.double (own_s (own_g r1 r2 r3) 2))])
            refine own_go (fun tz kz => own_ldc2D X4 hx hown (mvT hZ (hw _ (List.mem_of_getElem? (i := 32) rfl))) rfl (hb hby at_322) kz) ?_
            show own_Go p.tables e below _ T4 (mkF m 325 #[.val (.int p1), .val (.int p2), .val (.int p3), .val (.int p4), .val (.int p5), .val (.int p6), .val (.int r1), .val (.int r2), .val (.int r3), .val (.int (Int32.ofNat n)), .val (.int rel), .val (.int md), .val (.int se), .val (.int pk), .val (.int dp), .val (.ref b), .val (.double (own_ap (own_g r1 r2 r3) 3 rel)), .second, .val (.int (Int32.ofNat 3)), .val (.double (own_s (own_g r1 r2 r3) 2)), .second, .unset, .unset] [(.double (4613937818241073152 : UInt64)), (.double (own_s (own_g r1 r2 r3) 2))])
            refine own_go (fun tz kz => XS.iload X4.here hx rfl (hb hby at_325) rfl kz) ?_
            show own_Go p.tables e below _ T4 (mkF m 327 #[.val (.int p1), .val (.int p2), .val (.int p3), .val (.int p4), .val (.int p5), .val (.int p6), .val (.int r1), .val (.int r2), .val (.int r3), .val (.int (Int32.ofNat n)), .val (.int rel), .val (.int md), .val (.int se), .val (.int pk), .val (.int dp), .val (.ref b), .val (.double (own_ap (own_g r1 r2 r3) 3 rel)), .second, .val (.int (Int32.ofNat 3)), .val (.double (own_s (own_g r1 r2 r3) 2)), .second, .unset, .unset] [(.int r3), (.double (4613937818241073152 : UInt64)), (.double (own_s (own_g r1 r2 r3) 2))])
            refine own_go (fun tz kz => XS.i2dS X4.here hx rfl (hb hby at_327) rfl rfl kz) ?_
            show own_Go p.tables e below _ T4 (mkF m 328 #[.val (.int p1), .val (.int p2), .val (.int p3), .val (.int p4), .val (.int p5), .val (.int p6), .val (.int r1), .val (.int r2), .val (.int r3), .val (.int (Int32.ofNat n)), .val (.int rel), .val (.int md), .val (.int se), .val (.int pk), .val (.int dp), .val (.ref b), .val (.double (own_ap (own_g r1 r2 r3) 3 rel)), .second, .val (.int (Int32.ofNat 3)), .val (.double (own_s (own_g r1 r2 r3) 2)), .second, .unset, .unset] [(.double (FP.i2d r3)), (.double (4613937818241073152 : UInt64)), (.double (own_s (own_g r1 r2 r3) 2))])
            rw [← own_d3]
            show own_Go p.tables e below _ T4 (mkF m 328 #[.val (.int p1), .val (.int p2), .val (.int p3), .val (.int p4), .val (.int p5), .val (.int p6), .val (.int r1), .val (.int r2), .val (.int r3), .val (.int (Int32.ofNat n)), .val (.int rel), .val (.int md), .val (.int se), .val (.int pk), .val (.int dp), .val (.ref b), .val (.double (own_ap (own_g r1 r2 r3) 3 rel)), .second, .val (.int (Int32.ofNat 3)), .val (.double (own_s (own_g r1 r2 r3) 2)), .second, .unset, .unset] [(.double (FP.i2d r3)), (.double (FP.i2d (Int32.ofNat 2 + 1))), (.double (own_s (own_g r1 r2 r3) 2))])
            refine own_go (fun tz kz => XS.ddivS X4.here hx rfl (hb hby at_328) rfl (own_nq (g := (own_g r1 r2 r3)) (k := 2) _ (hg 2 (by omega))) rfl kz) ?_
            show own_Go p.tables e below _ T4 (mkF m 329 #[.val (.int p1), .val (.int p2), .val (.int p3), .val (.int p4), .val (.int p5), .val (.int p6), .val (.int r1), .val (.int r2), .val (.int r3), .val (.int (Int32.ofNat n)), .val (.int rel), .val (.int md), .val (.int se), .val (.int pk), .val (.int dp), .val (.ref b), .val (.double (own_ap (own_g r1 r2 r3) 3 rel)), .second, .val (.int (Int32.ofNat 3)), .val (.double (own_s (own_g r1 r2 r3) 2)), .second, .unset, .unset] [(.double (FP.ddiv (FP.i2d (Int32.ofNat 2 + 1)) (FP.i2d r3))), (.double (own_s (own_g r1 r2 r3) 2))])
            refine own_go (fun tz kz => XS.daddS X4.here hx rfl (hb hby at_329) rfl (own_ns (g := (own_g r1 r2 r3)) hg (k := 3) (by omega) (by omega)) rfl kz) ?_
            show own_Go p.tables e below _ T4 (mkF m 330 #[.val (.int p1), .val (.int p2), .val (.int p3), .val (.int p4), .val (.int p5), .val (.int p6), .val (.int r1), .val (.int r2), .val (.int r3), .val (.int (Int32.ofNat n)), .val (.int rel), .val (.int md), .val (.int se), .val (.int pk), .val (.int dp), .val (.ref b), .val (.double (own_ap (own_g r1 r2 r3) 3 rel)), .second, .val (.int (Int32.ofNat 3)), .val (.double (own_s (own_g r1 r2 r3) 2)), .second, .unset, .unset] [(.double (FP.dadd (own_s (own_g r1 r2 r3) 2) (FP.ddiv (FP.i2d (Int32.ofNat 2 + 1)) (FP.i2d r3))))])
            show own_Go p.tables e below _ T4 (mkF m 330 #[.val (.int p1), .val (.int p2), .val (.int p3), .val (.int p4), .val (.int p5), .val (.int p6), .val (.int r1), .val (.int r2), .val (.int r3), .val (.int (Int32.ofNat n)), .val (.int rel), .val (.int md), .val (.int se), .val (.int pk), .val (.int dp), .val (.ref b), .val (.double (own_ap (own_g r1 r2 r3) 3 rel)), .second, .val (.int (Int32.ofNat 3)), .val (.double (own_s (own_g r1 r2 r3) 2)), .second, .unset, .unset] [(.double (own_s (own_g r1 r2 r3) 3))])
            refine own_go (fun tz kz => XS.dstore X4.here hx rfl (hb hby at_330) rfl (l' := #[.val (.int p1), .val (.int p2), .val (.int p3), .val (.int p4), .val (.int p5), .val (.int p6), .val (.int r1), .val (.int r2), .val (.int r3), .val (.int (Int32.ofNat n)), .val (.int rel), .val (.int md), .val (.int se), .val (.int pk), .val (.int dp), .val (.ref b), .val (.double (own_ap (own_g r1 r2 r3) 3 rel)), .second, .val (.int (Int32.ofNat 3)), .val (.double (own_s (own_g r1 r2 r3) 3)), .second, .unset, .unset]) rfl kz) ?_
            show own_Go p.tables e below _ T4 (mkF m 332 #[.val (.int p1), .val (.int p2), .val (.int p3), .val (.int p4), .val (.int p5), .val (.int p6), .val (.int r1), .val (.int r2), .val (.int r3), .val (.int (Int32.ofNat n)), .val (.int rel), .val (.int md), .val (.int se), .val (.int pk), .val (.int dp), .val (.ref b), .val (.double (own_ap (own_g r1 r2 r3) 3 rel)), .second, .val (.int (Int32.ofNat 3)), .val (.double (own_s (own_g r1 r2 r3) 3)), .second, .unset, .unset] [])
            refine own_go (fun tz kz => XS.iload X4.here hx rfl (hb hby at_332) rfl kz) ?_
            show own_Go p.tables e below _ T4 (mkF m 334 #[.val (.int p1), .val (.int p2), .val (.int p3), .val (.int p4), .val (.int p5), .val (.int p6), .val (.int r1), .val (.int r2), .val (.int r3), .val (.int (Int32.ofNat n)), .val (.int rel), .val (.int md), .val (.int se), .val (.int pk), .val (.int dp), .val (.ref b), .val (.double (own_ap (own_g r1 r2 r3) 3 rel)), .second, .val (.int (Int32.ofNat 3)), .val (.double (own_s (own_g r1 r2 r3) 3)), .second, .unset, .unset] [(.int rel)])
            by_cases hr0 : rel = (0 : Int32)
            ·
              refine own_go (fun tz kz => XS.ifNo X4.here hx rfl (hb hby at_334) rfl (XT.i0_ne_f hr0) kz) ?_
              show own_Go p.tables e below _ T4 (mkF m 337 #[.val (.int p1), .val (.int p2), .val (.int p3), .val (.int p4), .val (.int p5), .val (.int p6), .val (.int r1), .val (.int r2), .val (.int r3), .val (.int (Int32.ofNat n)), .val (.int rel), .val (.int md), .val (.int se), .val (.int pk), .val (.int dp), .val (.ref b), .val (.double (own_ap (own_g r1 r2 r3) 3 rel)), .second, .val (.int (Int32.ofNat 3)), .val (.double (own_s (own_g r1 r2 r3) 3)), .second, .unset, .unset] [])
              refine own_go (fun tz kz => XS.dconst0 X4.here hx rfl (hb hby at_337) rfl kz) ?_
              show own_Go p.tables e below _ T4 (mkF m 338 #[.val (.int p1), .val (.int p2), .val (.int p3), .val (.int p4), .val (.int p5), .val (.int p6), .val (.int r1), .val (.int r2), .val (.int r3), .val (.int (Int32.ofNat n)), .val (.int rel), .val (.int md), .val (.int se), .val (.int pk), .val (.int dp), .val (.ref b), .val (.double (own_ap (own_g r1 r2 r3) 3 rel)), .second, .val (.int (Int32.ofNat 3)), .val (.double (own_s (own_g r1 r2 r3) 3)), .second, .unset, .unset] [(.double FP.dconst0)])
              refine own_go (fun tz kz => XS.goto X4.here hx rfl (pc0 := 338) (pc' := 347) rfl (hb hby at_338) (by decide) (by decide) kz) ?_
              show own_Go p.tables e below _ T4 (mkF m 347 #[.val (.int p1), .val (.int p2), .val (.int p3), .val (.int p4), .val (.int p5), .val (.int p6), .val (.int r1), .val (.int r2), .val (.int r3), .val (.int (Int32.ofNat n)), .val (.int rel), .val (.int md), .val (.int se), .val (.int pk), .val (.int dp), .val (.ref b), .val (.double (own_ap (own_g r1 r2 r3) 3 rel)), .second, .val (.int (Int32.ofNat 3)), .val (.double (own_s (own_g r1 r2 r3) 3)), .second, .unset, .unset] [(.double FP.dconst0)])
              rw [show FP.dconst0 = (own_ap (own_g r1 r2 r3) 3 rel) from (if_pos hr0).symm]
              show own_Go p.tables e below _ T4 (mkF m 347 #[.val (.int p1), .val (.int p2), .val (.int p3), .val (.int p4), .val (.int p5), .val (.int p6), .val (.int r1), .val (.int r2), .val (.int r3), .val (.int (Int32.ofNat n)), .val (.int rel), .val (.int md), .val (.int se), .val (.int pk), .val (.int dp), .val (.ref b), .val (.double (own_ap (own_g r1 r2 r3) 3 rel)), .second, .val (.int (Int32.ofNat 3)), .val (.double (own_s (own_g r1 r2 r3) 3)), .second, .unset, .unset] [(.double (own_ap (own_g r1 r2 r3) 3 rel))])
              refine own_go (fun tz kz => XS.dstore X4.here hx rfl (hb hby at_347) rfl (l' := #[.val (.int p1), .val (.int p2), .val (.int p3), .val (.int p4), .val (.int p5), .val (.int p6), .val (.int r1), .val (.int r2), .val (.int r3), .val (.int (Int32.ofNat n)), .val (.int rel), .val (.int md), .val (.int se), .val (.int pk), .val (.int dp), .val (.ref b), .val (.double (own_ap (own_g r1 r2 r3) 3 rel)), .second, .val (.int (Int32.ofNat 3)), .val (.double (own_s (own_g r1 r2 r3) 3)), .second, .val (.double (own_ap (own_g r1 r2 r3) 3 rel)), .second]) rfl kz) ?_
              show own_Go p.tables e below _ T4 (mkF m 349 #[.val (.int p1), .val (.int p2), .val (.int p3), .val (.int p4), .val (.int p5), .val (.int p6), .val (.int r1), .val (.int r2), .val (.int r3), .val (.int (Int32.ofNat n)), .val (.int rel), .val (.int md), .val (.int se), .val (.int pk), .val (.int dp), .val (.ref b), .val (.double (own_ap (own_g r1 r2 r3) 3 rel)), .second, .val (.int (Int32.ofNat 3)), .val (.double (own_s (own_g r1 r2 r3) 3)), .second, .val (.double (own_ap (own_g r1 r2 r3) 3 rel)), .second] [])
              refine own_go (fun tz kz => XS.dload X4.here hx rfl (hb hby at_349) rfl kz) ?_
              show own_Go p.tables e below _ T4 (mkF m 351 #[.val (.int p1), .val (.int p2), .val (.int p3), .val (.int p4), .val (.int p5), .val (.int p6), .val (.int r1), .val (.int r2), .val (.int r3), .val (.int (Int32.ofNat n)), .val (.int rel), .val (.int md), .val (.int se), .val (.int pk), .val (.int dp), .val (.ref b), .val (.double (own_ap (own_g r1 r2 r3) 3 rel)), .second, .val (.int (Int32.ofNat 3)), .val (.double (own_s (own_g r1 r2 r3) 3)), .second, .val (.double (own_ap (own_g r1 r2 r3) 3 rel)), .second] [(.double (own_ap (own_g r1 r2 r3) 3 rel))])
              refine own_go (fun tz kz => XS.dload X4.here hx rfl (hb hby at_351) rfl kz) ?_
              show own_Go p.tables e below _ T4 (mkF m 353 #[.val (.int p1), .val (.int p2), .val (.int p3), .val (.int p4), .val (.int p5), .val (.int p6), .val (.int r1), .val (.int r2), .val (.int r3), .val (.int (Int32.ofNat n)), .val (.int rel), .val (.int md), .val (.int se), .val (.int pk), .val (.int dp), .val (.ref b), .val (.double (own_ap (own_g r1 r2 r3) 3 rel)), .second, .val (.int (Int32.ofNat 3)), .val (.double (own_s (own_g r1 r2 r3) 3)), .second, .val (.double (own_ap (own_g r1 r2 r3) 3 rel)), .second] [(.double (own_ap (own_g r1 r2 r3) 3 rel)), (.double (own_ap (own_g r1 r2 r3) 3 rel))])
              refine own_go (fun tz kz => XS.dcmpS X4.here hx rfl (hb hby at_353) rfl (dcmpV_self (own_nap hg hF (by omega) rel) _) kz) ?_
              show own_Go p.tables e below _ T4 (mkF m 354 #[.val (.int p1), .val (.int p2), .val (.int p3), .val (.int p4), .val (.int p5), .val (.int p6), .val (.int r1), .val (.int r2), .val (.int r3), .val (.int (Int32.ofNat n)), .val (.int rel), .val (.int md), .val (.int se), .val (.int pk), .val (.int dp), .val (.ref b), .val (.double (own_ap (own_g r1 r2 r3) 3 rel)), .second, .val (.int (Int32.ofNat 3)), .val (.double (own_s (own_g r1 r2 r3) 3)), .second, .val (.double (own_ap (own_g r1 r2 r3) 3 rel)), .second] [(.int (0 : Int32))])
              refine own_go (fun tz kz => XS.ifNo X4.here hx rfl (hb hby at_354) rfl (XT.i0_ne_f rfl) kz) ?_
              show own_Go p.tables e below _ T4 (mkF m 357 #[.val (.int p1), .val (.int p2), .val (.int p3), .val (.int p4), .val (.int p5), .val (.int p6), .val (.int r1), .val (.int r2), .val (.int r3), .val (.int (Int32.ofNat n)), .val (.int rel), .val (.int md), .val (.int se), .val (.int pk), .val (.int dp), .val (.ref b), .val (.double (own_ap (own_g r1 r2 r3) 3 rel)), .second, .val (.int (Int32.ofNat 3)), .val (.double (own_s (own_g r1 r2 r3) 3)), .second, .val (.double (own_ap (own_g r1 r2 r3) 3 rel)), .second] [])
              refine own_go (fun tz kz => XS.iconst X4.here hx rfl (hb hby at_357) kz) ?_
              show own_Go p.tables e below _ T4 (mkF m 358 #[.val (.int p1), .val (.int p2), .val (.int p3), .val (.int p4), .val (.int p5), .val (.int p6), .val (.int r1), .val (.int r2), .val (.int r3), .val (.int (Int32.ofNat n)), .val (.int rel), .val (.int md), .val (.int se), .val (.int pk), .val (.int dp), .val (.ref b), .val (.double (own_ap (own_g r1 r2 r3) 3 rel)), .second, .val (.int (Int32.ofNat 3)), .val (.double (own_s (own_g r1 r2 r3) 3)), .second, .val (.double (own_ap (own_g r1 r2 r3) 3 rel)), .second] [(.int (1 : Int32))])
              refine own_go (fun tz kz => XS.goto X4.here hx rfl (pc0 := 358) (pc' := 362) rfl (hb hby at_358) (by decide) (by decide) kz) ?_
              show own_Go p.tables e below _ T4 (mkF m 362 #[.val (.int p1), .val (.int p2), .val (.int p3), .val (.int p4), .val (.int p5), .val (.int p6), .val (.int r1), .val (.int r2), .val (.int r3), .val (.int (Int32.ofNat n)), .val (.int rel), .val (.int md), .val (.int se), .val (.int pk), .val (.int dp), .val (.ref b), .val (.double (own_ap (own_g r1 r2 r3) 3 rel)), .second, .val (.int (Int32.ofNat 3)), .val (.double (own_s (own_g r1 r2 r3) 3)), .second, .val (.double (own_ap (own_g r1 r2 r3) 3 rel)), .second] [(.int (1 : Int32))])
              obtain ⟨fs, hr, hrun, hended, hW, hsame⟩ := X4.leave (v := some (.int (1 : Int32))) (fun h => by rw [Bd.returns] at h; cases h) (BodyLoose.notSynchronized Bd)
              refine ⟨_, _, ?_, hrun, hended, _, _, rfl, ?_, ⟨_, rfl⟩, hW, hsame.mono (by decide) (by decide)⟩
              · exact retN X4 hx (t := .boolean) Bd.returns (by simp) (hb hby at_362) hr
              · show Q0 Z p1 p2 p3 p4 p5 p6 h0 n0 _ T4.heap _
                rw [e4]
                exact ⟨rfl, N4⟩
            ·
              refine own_go (fun tz kz => XS.ifYes X4.here hx rfl (pc0 := 334) (pc' := 341) rfl (hb hby at_334) rfl (XT.i0_ne_t hr0) (by decide) (by decide) kz) ?_
              show own_Go p.tables e below _ T4 (mkF m 341 #[.val (.int p1), .val (.int p2), .val (.int p3), .val (.int p4), .val (.int p5), .val (.int p6), .val (.int r1), .val (.int r2), .val (.int r3), .val (.int (Int32.ofNat n)), .val (.int rel), .val (.int md), .val (.int se), .val (.int pk), .val (.int dp), .val (.ref b), .val (.double (own_ap (own_g r1 r2 r3) 3 rel)), .second, .val (.int (Int32.ofNat 3)), .val (.double (own_s (own_g r1 r2 r3) 3)), .second, .unset, .unset] [])
              refine own_go (fun tz kz => XS.dload X4.here hx rfl (hb hby at_341) rfl kz) ?_
              show own_Go p.tables e below _ T4 (mkF m 343 #[.val (.int p1), .val (.int p2), .val (.int p3), .val (.int p4), .val (.int p5), .val (.int p6), .val (.int r1), .val (.int r2), .val (.int r3), .val (.int (Int32.ofNat n)), .val (.int rel), .val (.int md), .val (.int se), .val (.int pk), .val (.int dp), .val (.ref b), .val (.double (own_ap (own_g r1 r2 r3) 3 rel)), .second, .val (.int (Int32.ofNat 3)), .val (.double (own_s (own_g r1 r2 r3) 3)), .second, .unset, .unset] [(.double (own_s (own_g r1 r2 r3) 3))])
              refine own_go (fun tz kz => XS.iload X4.here hx rfl (hb hby at_343) rfl kz) ?_
              show own_Go p.tables e below _ T4 (mkF m 345 #[.val (.int p1), .val (.int p2), .val (.int p3), .val (.int p4), .val (.int p5), .val (.int p6), .val (.int r1), .val (.int r2), .val (.int r3), .val (.int (Int32.ofNat n)), .val (.int rel), .val (.int md), .val (.int se), .val (.int pk), .val (.int dp), .val (.ref b), .val (.double (own_ap (own_g r1 r2 r3) 3 rel)), .second, .val (.int (Int32.ofNat 3)), .val (.double (own_s (own_g r1 r2 r3) 3)), .second, .unset, .unset] [(.int rel), (.double (own_s (own_g r1 r2 r3) 3))])
              refine own_go (fun tz kz => XS.i2dS X4.here hx rfl (hb hby at_345) rfl rfl kz) ?_
              show own_Go p.tables e below _ T4 (mkF m 346 #[.val (.int p1), .val (.int p2), .val (.int p3), .val (.int p4), .val (.int p5), .val (.int p6), .val (.int r1), .val (.int r2), .val (.int r3), .val (.int (Int32.ofNat n)), .val (.int rel), .val (.int md), .val (.int se), .val (.int pk), .val (.int dp), .val (.ref b), .val (.double (own_ap (own_g r1 r2 r3) 3 rel)), .second, .val (.int (Int32.ofNat 3)), .val (.double (own_s (own_g r1 r2 r3) 3)), .second, .unset, .unset] [(.double (FP.i2d rel)), (.double (own_s (own_g r1 r2 r3) 3))])
              refine own_go (fun tz kz => XS.ddivS X4.here hx rfl (hb hby at_346) rfl (own_nr (g := (own_g r1 r2 r3)) hg hF (by omega) hr0) rfl kz) ?_
              show own_Go p.tables e below _ T4 (mkF m 347 #[.val (.int p1), .val (.int p2), .val (.int p3), .val (.int p4), .val (.int p5), .val (.int p6), .val (.int r1), .val (.int r2), .val (.int r3), .val (.int (Int32.ofNat n)), .val (.int rel), .val (.int md), .val (.int se), .val (.int pk), .val (.int dp), .val (.ref b), .val (.double (own_ap (own_g r1 r2 r3) 3 rel)), .second, .val (.int (Int32.ofNat 3)), .val (.double (own_s (own_g r1 r2 r3) 3)), .second, .unset, .unset] [(.double (FP.ddiv (own_s (own_g r1 r2 r3) 3) (FP.i2d rel)))])
              rw [show (FP.ddiv (own_s (own_g r1 r2 r3) 3) (FP.i2d rel)) = (own_ap (own_g r1 r2 r3) 3 rel) from (if_neg hr0).symm]
              show own_Go p.tables e below _ T4 (mkF m 347 #[.val (.int p1), .val (.int p2), .val (.int p3), .val (.int p4), .val (.int p5), .val (.int p6), .val (.int r1), .val (.int r2), .val (.int r3), .val (.int (Int32.ofNat n)), .val (.int rel), .val (.int md), .val (.int se), .val (.int pk), .val (.int dp), .val (.ref b), .val (.double (own_ap (own_g r1 r2 r3) 3 rel)), .second, .val (.int (Int32.ofNat 3)), .val (.double (own_s (own_g r1 r2 r3) 3)), .second, .unset, .unset] [(.double (own_ap (own_g r1 r2 r3) 3 rel))])
              refine own_go (fun tz kz => XS.dstore X4.here hx rfl (hb hby at_347) rfl (l' := #[.val (.int p1), .val (.int p2), .val (.int p3), .val (.int p4), .val (.int p5), .val (.int p6), .val (.int r1), .val (.int r2), .val (.int r3), .val (.int (Int32.ofNat n)), .val (.int rel), .val (.int md), .val (.int se), .val (.int pk), .val (.int dp), .val (.ref b), .val (.double (own_ap (own_g r1 r2 r3) 3 rel)), .second, .val (.int (Int32.ofNat 3)), .val (.double (own_s (own_g r1 r2 r3) 3)), .second, .val (.double (own_ap (own_g r1 r2 r3) 3 rel)), .second]) rfl kz) ?_
              show own_Go p.tables e below _ T4 (mkF m 349 #[.val (.int p1), .val (.int p2), .val (.int p3), .val (.int p4), .val (.int p5), .val (.int p6), .val (.int r1), .val (.int r2), .val (.int r3), .val (.int (Int32.ofNat n)), .val (.int rel), .val (.int md), .val (.int se), .val (.int pk), .val (.int dp), .val (.ref b), .val (.double (own_ap (own_g r1 r2 r3) 3 rel)), .second, .val (.int (Int32.ofNat 3)), .val (.double (own_s (own_g r1 r2 r3) 3)), .second, .val (.double (own_ap (own_g r1 r2 r3) 3 rel)), .second] [])
              refine own_go (fun tz kz => XS.dload X4.here hx rfl (hb hby at_349) rfl kz) ?_
              show own_Go p.tables e below _ T4 (mkF m 351 #[.val (.int p1), .val (.int p2), .val (.int p3), .val (.int p4), .val (.int p5), .val (.int p6), .val (.int r1), .val (.int r2), .val (.int r3), .val (.int (Int32.ofNat n)), .val (.int rel), .val (.int md), .val (.int se), .val (.int pk), .val (.int dp), .val (.ref b), .val (.double (own_ap (own_g r1 r2 r3) 3 rel)), .second, .val (.int (Int32.ofNat 3)), .val (.double (own_s (own_g r1 r2 r3) 3)), .second, .val (.double (own_ap (own_g r1 r2 r3) 3 rel)), .second] [(.double (own_ap (own_g r1 r2 r3) 3 rel))])
              refine own_go (fun tz kz => XS.dload X4.here hx rfl (hb hby at_351) rfl kz) ?_
              show own_Go p.tables e below _ T4 (mkF m 353 #[.val (.int p1), .val (.int p2), .val (.int p3), .val (.int p4), .val (.int p5), .val (.int p6), .val (.int r1), .val (.int r2), .val (.int r3), .val (.int (Int32.ofNat n)), .val (.int rel), .val (.int md), .val (.int se), .val (.int pk), .val (.int dp), .val (.ref b), .val (.double (own_ap (own_g r1 r2 r3) 3 rel)), .second, .val (.int (Int32.ofNat 3)), .val (.double (own_s (own_g r1 r2 r3) 3)), .second, .val (.double (own_ap (own_g r1 r2 r3) 3 rel)), .second] [(.double (own_ap (own_g r1 r2 r3) 3 rel)), (.double (own_ap (own_g r1 r2 r3) 3 rel))])
              refine own_go (fun tz kz => XS.dcmpS X4.here hx rfl (hb hby at_353) rfl (dcmpV_self (own_nap hg hF (by omega) rel) _) kz) ?_
              show own_Go p.tables e below _ T4 (mkF m 354 #[.val (.int p1), .val (.int p2), .val (.int p3), .val (.int p4), .val (.int p5), .val (.int p6), .val (.int r1), .val (.int r2), .val (.int r3), .val (.int (Int32.ofNat n)), .val (.int rel), .val (.int md), .val (.int se), .val (.int pk), .val (.int dp), .val (.ref b), .val (.double (own_ap (own_g r1 r2 r3) 3 rel)), .second, .val (.int (Int32.ofNat 3)), .val (.double (own_s (own_g r1 r2 r3) 3)), .second, .val (.double (own_ap (own_g r1 r2 r3) 3 rel)), .second] [(.int (0 : Int32))])
              refine own_go (fun tz kz => XS.ifNo X4.here hx rfl (hb hby at_354) rfl (XT.i0_ne_f rfl) kz) ?_
              show own_Go p.tables e below _ T4 (mkF m 357 #[.val (.int p1), .val (.int p2), .val (.int p3), .val (.int p4), .val (.int p5), .val (.int p6), .val (.int r1), .val (.int r2), .val (.int r3), .val (.int (Int32.ofNat n)), .val (.int rel), .val (.int md), .val (.int se), .val (.int pk), .val (.int dp), .val (.ref b), .val (.double (own_ap (own_g r1 r2 r3) 3 rel)), .second, .val (.int (Int32.ofNat 3)), .val (.double (own_s (own_g r1 r2 r3) 3)), .second, .val (.double (own_ap (own_g r1 r2 r3) 3 rel)), .second] [])
              refine own_go (fun tz kz => XS.iconst X4.here hx rfl (hb hby at_357) kz) ?_
              show own_Go p.tables e below _ T4 (mkF m 358 #[.val (.int p1), .val (.int p2), .val (.int p3), .val (.int p4), .val (.int p5), .val (.int p6), .val (.int r1), .val (.int r2), .val (.int r3), .val (.int (Int32.ofNat n)), .val (.int rel), .val (.int md), .val (.int se), .val (.int pk), .val (.int dp), .val (.ref b), .val (.double (own_ap (own_g r1 r2 r3) 3 rel)), .second, .val (.int (Int32.ofNat 3)), .val (.double (own_s (own_g r1 r2 r3) 3)), .second, .val (.double (own_ap (own_g r1 r2 r3) 3 rel)), .second] [(.int (1 : Int32))])
              refine own_go (fun tz kz => XS.goto X4.here hx rfl (pc0 := 358) (pc' := 362) rfl (hb hby at_358) (by decide) (by decide) kz) ?_
              show own_Go p.tables e below _ T4 (mkF m 362 #[.val (.int p1), .val (.int p2), .val (.int p3), .val (.int p4), .val (.int p5), .val (.int p6), .val (.int r1), .val (.int r2), .val (.int r3), .val (.int (Int32.ofNat n)), .val (.int rel), .val (.int md), .val (.int se), .val (.int pk), .val (.int dp), .val (.ref b), .val (.double (own_ap (own_g r1 r2 r3) 3 rel)), .second, .val (.int (Int32.ofNat 3)), .val (.double (own_s (own_g r1 r2 r3) 3)), .second, .val (.double (own_ap (own_g r1 r2 r3) 3 rel)), .second] [(.int (1 : Int32))])
              obtain ⟨fs, hr, hrun, hended, hW, hsame⟩ := X4.leave (v := some (.int (1 : Int32))) (fun h => by rw [Bd.returns] at h; cases h) (BodyLoose.notSynchronized Bd)
              refine ⟨_, _, ?_, hrun, hended, _, _, rfl, ?_, ⟨_, rfl⟩, hW, hsame.mono (by decide) (by decide)⟩
              · exact retN X4 hx (t := .boolean) Bd.returns (by simp) (hb hby at_362) hr
              · show Q0 Z p1 p2 p3 p4 p5 p6 h0 n0 _ T4.heap _
                rw [e4]
                exact ⟨rfl, N4⟩
        by_cases ka0 : (Int32.ofNat n) < (1 : Int32)
        ·
          refine own_go (fun tz kz => XS.icmpYes X4.here hx rfl (pc0 := 232) (pc' := 277) rfl (hb hby at_232) rfl (XT.ii_lt_t ka0) (by decide) (by decide) kz) ?_
          show own_Go p.tables e below _ T4 (mkF m 277 #[.val (.int p1), .val (.int p2), .val (.int p3), .val (.int p4), .val (.int p5), .val (.int p6), .val (.int r1), .val (.int r2), .val (.int r3), .val (.int (Int32.ofNat n)), .val (.int rel), .val (.int md), .val (.int se), .val (.int pk), .val (.int dp), .val (.ref b), .val (.double (own_ap (own_g r1 r2 r3) F0 rel)), .second, .val (.int (0 : Int32)), .unset, .unset, .unset, .unset] [])
          exact J277 _ ( if_pos ka0).symm
        ·
          refine own_go (fun tz kz => XS.icmpNo X4.here hx rfl (hb hby at_232) rfl (XT.ii_lt_f ka0) kz) ?_
          show own_Go p.tables e below _ T4 (mkF m 235 #[.val (.int p1), .val (.int p2), .val (.int p3), .val (.int p4), .val (.int p5), .val (.int p6), .val (.int r1), .val (.int r2), .val (.int r3), .val (.int (Int32.ofNat n)), .val (.int rel), .val (.int md), .val (.int se), .val (.int pk), .val (.int dp), .val (.ref b), .val (.double (own_ap (own_g r1 r2 r3) F0 rel)), .second, .val (.int (0 : Int32)), .unset, .unset, .unset, .unset] [])
          refine own_go (fun tz kz => XS.iload X4.here hx rfl (hb hby at_235) rfl kz) ?_
          show own_Go p.tables e below _ T4 (mkF m 237 #[.val (.int p1), .val (.int p2), .val (.int p3), .val (.int p4), .val (.int p5), .val (.int p6), .val (.int r1), .val (.int r2), .val (.int r3), .val (.int (Int32.ofNat n)), .val (.int rel), .val (.int md), .val (.int se), .val (.int pk), .val (.int dp), .val (.ref b), .val (.double (own_ap (own_g r1 r2 r3) F0 rel)), .second, .val (.int (0 : Int32)), .unset, .unset, .unset, .unset] [(.int r1)])
          refine own_go (fun tz kz => XS.iload X4.here hx rfl (hb hby at_237) rfl kz) ?_
          show own_Go p.tables e below _ T4 (mkF m 239 #[.val (.int p1), .val (.int p2), .val (.int p3), .val (.int p4), .val (.int p5), .val (.int p6), .val (.int r1), .val (.int r2), .val (.int r3), .val (.int (Int32.ofNat n)), .val (.int rel), .val (.int md), .val (.int se), .val (.int pk), .val (.int dp), .val (.ref b), .val (.double (own_ap (own_g r1 r2 r3) F0 rel)), .second, .val (.int (0 : Int32)), .unset, .unset, .unset, .unset] [(.int dp), (.int r1)])
          by_cases kb0 : dp < r1
          ·
            refine own_go (fun tz kz => XS.icmpYes X4.here hx rfl (pc0 := 239) (pc' := 277) rfl (hb hby at_239) rfl (XT.ii_gt_t kb0) (by decide) (by decide) kz) ?_
            show own_Go p.tables e below _ T4 (mkF m 277 #[.val (.int p1), .val (.int p2), .val (.int p3), .val (.int p4), .val (.int p5), .val (.int p6), .val (.int r1), .val (.int r2), .val (.int r3), .val (.int (Int32.ofNat n)), .val (.int rel), .val (.int md), .val (.int se), .val (.int pk), .val (.int dp), .val (.ref b), .val (.double (own_ap (own_g r1 r2 r3) F0 rel)), .second, .val (.int (0 : Int32)), .unset, .unset, .unset, .unset] [])
            exact J277 _ ((if_neg ka0).trans <| if_pos kb0).symm
          ·
            refine own_go (fun tz kz => XS.icmpNo X4.here hx rfl (hb hby at_239) rfl (XT.ii_gt_f kb0) kz) ?_
            show own_Go p.tables e below _ T4 (mkF m 242 #[.val (.int p1), .val (.int p2), .val (.int p3), .val (.int p4), .val (.int p5), .val (.int p6), .val (.int r1), .val (.int r2), .val (.int r3), .val (.int (Int32.ofNat n)), .val (.int rel), .val (.int md), .val (.int se), .val (.int pk), .val (.int dp), .val (.ref b), .val (.double (own_ap (own_g r1 r2 r3) F0 rel)), .second, .val (.int (0 : Int32)), .unset, .unset, .unset, .unset] [])
            refine own_go (fun tz kz => XS.iconst X4.here hx rfl (hb hby at_242) kz) ?_
            show own_Go p.tables e below _ T4 (mkF m 243 #[.val (.int p1), .val (.int p2), .val (.int p3), .val (.int p4), .val (.int p5), .val (.int p6), .val (.int r1), .val (.int r2), .val (.int r3), .val (.int (Int32.ofNat n)), .val (.int rel), .val (.int md), .val (.int se), .val (.int pk), .val (.int dp), .val (.ref b), .val (.double (own_ap (own_g r1 r2 r3) F0 rel)), .second, .val (.int (0 : Int32)), .unset, .unset, .unset, .unset] [(.int (1 : Int32))])
            refine own_go (fun tz kz => XS.istore X4.here hx rfl (hb hby at_243) rfl (l' := #[.val (.int p1), .val (.int p2), .val (.int p3), .val (.int p4), .val (.int p5), .val (.int p6), .val (.int r1), .val (.int r2), .val (.int r3), .val (.int (Int32.ofNat n)), .val (.int rel), .val (.int md), .val (.int se), .val (.int pk), .val (.int dp), .val (.ref b), .val (.double (own_ap (own_g r1 r2 r3) F0 rel)), .second, .val (.int (1 : Int32)), .unset, .unset, .unset, .unset]) rfl kz) ?_
            show own_Go p.tables e below _ T4 (mkF m 245 #[.val (.int p1), .val (.int p2), .val (.int p3), .val (.int p4), .val (.int p5), .val (.int p6), .val (.int r1), .val (.int r2), .val (.int r3), .val (.int (Int32.ofNat n)), .val (.int rel), .val (.int md), .val (.int se), .val (.int pk), .val (.int dp), .val (.ref b), .val (.double (own_ap (own_g r1 r2 r3) F0 rel)), .second, .val (.int (1 : Int32)), .unset, .unset, .unset, .unset] [])
            refine own_go (fun tz kz => XS.iload X4.here hx rfl (hb hby at_245) rfl kz) ?_
            show own_Go p.tables e below _ T4 (mkF m 247 #[.val (.int p1), .val (.int p2), .val (.int p3), .val (.int p4), .val (.int p5), .val (.int p6), .val (.int r1), .val (.int r2), .val (.int r3), .val (.int (Int32.ofNat n)), .val (.int rel), .val (.int md), .val (.int se), .val (.int pk), .val (.int dp), .val (.ref b), .val (.double (own_ap (own_g r1 r2 r3) F0 rel)), .second, .val (.int (1 : Int32)), .unset, .unset, .unset, .unset] [(.int (Int32.ofNat n))])
            refine own_go (fun tz kz => XS.iconst X4.here hx rfl (hb hby at_247) kz) ?_
            show own_Go p.tables e below _ T4 (mkF m 248 #[.val (.int p1), .val (.int p2), .val (.int p3), .val (.int p4), .val (.int p5), .val (.int p6), .val (.int r1), .val (.int r2), .val (.int r3), .val (.int (Int32.ofNat n)), .val (.int rel), .val (.int md), .val (.int se), .val (.int pk), .val (.int dp), .val (.ref b), .val (.double (own_ap (own_g r1 r2 r3) F0 rel)), .second, .val (.int (1 : Int32)), .unset, .unset, .unset, .unset] [(.int (2 : Int32)), (.int (Int32.ofNat n))])
            by_cases ka1 : (Int32.ofNat n) < (2 : Int32)
            ·
              refine own_go (fun tz kz => XS.icmpYes X4.here hx rfl (pc0 := 248) (pc' := 277) rfl (hb hby at_248) rfl (XT.ii_lt_t ka1) (by decide) (by decide) kz) ?_
              show own_Go p.tables e below _ T4 (mkF m 277 #[.val (.int p1), .val (.int p2), .val (.int p3), .val (.int p4), .val (.int p5), .val (.int p6), .val (.int r1), .val (.int r2), .val (.int r3), .val (.int (Int32.ofNat n)), .val (.int rel), .val (.int md), .val (.int se), .val (.int pk), .val (.int dp), .val (.ref b), .val (.double (own_ap (own_g r1 r2 r3) F0 rel)), .second, .val (.int (1 : Int32)), .unset, .unset, .unset, .unset] [])
              exact J277 _ ((if_neg ka0).trans <| (if_neg kb0).trans <| if_pos ka1).symm
            ·
              refine own_go (fun tz kz => XS.icmpNo X4.here hx rfl (hb hby at_248) rfl (XT.ii_lt_f ka1) kz) ?_
              show own_Go p.tables e below _ T4 (mkF m 251 #[.val (.int p1), .val (.int p2), .val (.int p3), .val (.int p4), .val (.int p5), .val (.int p6), .val (.int r1), .val (.int r2), .val (.int r3), .val (.int (Int32.ofNat n)), .val (.int rel), .val (.int md), .val (.int se), .val (.int pk), .val (.int dp), .val (.ref b), .val (.double (own_ap (own_g r1 r2 r3) F0 rel)), .second, .val (.int (1 : Int32)), .unset, .unset, .unset, .unset] [])
              refine own_go (fun tz kz => XS.iload X4.here hx rfl (hb hby at_251) rfl kz) ?_
              show own_Go p.tables e below _ T4 (mkF m 253 #[.val (.int p1), .val (.int p2), .val (.int p3), .val (.int p4), .val (.int p5), .val (.int p6), .val (.int r1), .val (.int r2), .val (.int r3), .val (.int (Int32.ofNat n)), .val (.int rel), .val (.int md), .val (.int se), .val (.int pk), .val (.int dp), .val (.ref b), .val (.double (own_ap (own_g r1 r2 r3) F0 rel)), .second, .val (.int (1 : Int32)), .unset, .unset, .unset, .unset] [(.int r2)])
              refine own_go (fun tz kz => XS.iload X4.here hx rfl (hb hby at_253) rfl kz) ?_
              show own_Go p.tables e below _ T4 (mkF m 255 #[.val (.int p1), .val (.int p2), .val (.int p3), .val (.int p4), .val (.int p5), .val (.int p6), .val (.int r1), .val (.int r2), .val (.int r3), .val (.int (Int32.ofNat n)), .val (.int rel), .val (.int md), .val (.int se), .val (.int pk), .val (.int dp), .val (.ref b), .val (.double (own_ap (own_g r1 r2 r3) F0 rel)), .second, .val (.int (1 : Int32)), .unset, .unset, .unset, .unset] [(.int dp), (.int r2)])
              by_cases kb1 : dp < r2
              ·
                refine own_go (fun tz kz => XS.icmpYes X4.here hx rfl (pc0 := 255) (pc' := 277) rfl (hb hby at_255) rfl (XT.ii_gt_t kb1) (by decide) (by decide) kz) ?_
                show own_Go p.tables e below _ T4 (mkF m 277 #[.val (.int p1), .val (.int p2), .val (.int p3), .val (.int p4), .val (.int p5), .val (.int p6), .val (.int r1), .val (.int r2), .val (.int r3), .val (.int (Int32.ofNat n)), .val (.int rel), .val (.int md), .val (.int se), .val (.int pk), .val (.int dp), .val (.ref b), .val (.double (own_ap (own_g r1 r2 r3) F0 rel)), .second, .val (.int (1 : Int32)), .unset, .unset, .unset, .unset] [])
                exact J277 _ ((if_neg ka0).trans <| (if_neg kb0).trans <| (if_neg ka1).trans <| if_pos kb1).symm
              ·
                refine own_go (fun tz kz => XS.icmpNo X4.here hx rfl (hb hby at_255) rfl (XT.ii_gt_f kb1) kz) ?_
                show own_Go p.tables e below _ T4 (mkF m 258 #[.val (.int p1), .val (.int p2), .val (.int p3), .val (.int p4), .val (.int p5), .val (.int p6), .val (.int r1), .val (.int r2), .val (.int r3), .val (.int (Int32.ofNat n)), .val (.int rel), .val (.int md), .val (.int se), .val (.int pk), .val (.int dp), .val (.ref b), .val (.double (own_ap (own_g r1 r2 r3) F0 rel)), .second, .val (.int (1 : Int32)), .unset, .unset, .unset, .unset] [])
                refine own_go (fun tz kz => XS.iconst X4.here hx rfl (hb hby at_258) kz) ?_
                show own_Go p.tables e below _ T4 (mkF m 259 #[.val (.int p1), .val (.int p2), .val (.int p3), .val (.int p4), .val (.int p5), .val (.int p6), .val (.int r1), .val (.int r2), .val (.int r3), .val (.int (Int32.ofNat n)), .val (.int rel), .val (.int md), .val (.int se), .val (.int pk), .val (.int dp), .val (.ref b), .val (.double (own_ap (own_g r1 r2 r3) F0 rel)), .second, .val (.int (1 : Int32)), .unset, .unset, .unset, .unset] [(.int (2 : Int32))])
                refine own_go (fun tz kz => XS.istore X4.here hx rfl (hb hby at_259) rfl (l' := #[.val (.int p1), .val (.int p2), .val (.int p3), .val (.int p4), .val (.int p5), .val (.int p6), .val (.int r1), .val (.int r2), .val (.int r3), .val (.int (Int32.ofNat n)), .val (.int rel), .val (.int md), .val (.int se), .val (.int pk), .val (.int dp), .val (.ref b), .val (.double (own_ap (own_g r1 r2 r3) F0 rel)), .second, .val (.int (2 : Int32)), .unset, .unset, .unset, .unset]) rfl kz) ?_
                show own_Go p.tables e below _ T4 (mkF m 261 #[.val (.int p1), .val (.int p2), .val (.int p3), .val (.int p4), .val (.int p5), .val (.int p6), .val (.int r1), .val (.int r2), .val (.int r3), .val (.int (Int32.ofNat n)), .val (.int rel), .val (.int md), .val (.int se), .val (.int pk), .val (.int dp), .val (.ref b), .val (.double (own_ap (own_g r1 r2 r3) F0 rel)), .second, .val (.int (2 : Int32)), .unset, .unset, .unset, .unset] [])
                refine own_go (fun tz kz => XS.iload X4.here hx rfl (hb hby at_261) rfl kz) ?_
                show own_Go p.tables e below _ T4 (mkF m 263 #[.val (.int p1), .val (.int p2), .val (.int p3), .val (.int p4), .val (.int p5), .val (.int p6), .val (.int r1), .val (.int r2), .val (.int r3), .val (.int (Int32.ofNat n)), .val (.int rel), .val (.int md), .val (.int se), .val (.int pk), .val (.int dp), .val (.ref b), .val (.double (own_ap (own_g r1 r2 r3) F0 rel)), .second, .val (.int (2 : Int32)), .unset, .unset, .unset, .unset] [(.int (Int32.ofNat n))])
                refine own_go (fun tz kz => XS.iconst X4.here hx rfl (hb hby at_263) kz) ?_
                show own_Go p.tables e below _ T4 (mkF m 264 #[.val (.int p1), .val (.int p2), .val (.int p3), .val (.int p4), .val (.int p5), .val (.int p6), .val (.int r1), .val (.int r2), .val (.int r3), .val (.int (Int32.ofNat n)), .val (.int rel), .val (.int md), .val (.int se), .val (.int pk), .val (.int dp), .val (.ref b), .val (.double (own_ap (own_g r1 r2 r3) F0 rel)), .second, .val (.int (2 : Int32)), .unset, .unset, .unset, .unset] [(.int (3 : Int32)), (.int (Int32.ofNat n))])
                by_cases ka2 : (Int32.ofNat n) < (3 : Int32)
                ·
                  refine own_go (fun tz kz => XS.icmpYes X4.here hx rfl (pc0 := 264) (pc' := 277) rfl (hb hby at_264) rfl (XT.ii_lt_t ka2) (by decide) (by decide) kz) ?_
                  show own_Go p.tables e below _ T4 (mkF m 277 #[.val (.int p1), .val (.int p2), .val (.int p3), .val (.int p4), .val (.int p5), .val (.int p6), .val (.int r1), .val (.int r2), .val (.int r3), .val (.int (Int32.ofNat n)), .val (.int rel), .val (.int md), .val (.int se), .val (.int pk), .val (.int dp), .val (.ref b), .val (.double (own_ap (own_g r1 r2 r3) F0 rel)), .second, .val (.int (2 : Int32)), .unset, .unset, .unset, .unset] [])
                  exact J277 _ ((if_neg ka0).trans <| (if_neg kb0).trans <| (if_neg ka1).trans <| (if_neg kb1).trans <| if_pos ka2).symm
                ·
                  refine own_go (fun tz kz => XS.icmpNo X4.here hx rfl (hb hby at_264) rfl (XT.ii_lt_f ka2) kz) ?_
                  show own_Go p.tables e below _ T4 (mkF m 267 #[.val (.int p1), .val (.int p2), .val (.int p3), .val (.int p4), .val (.int p5), .val (.int p6), .val (.int r1), .val (.int r2), .val (.int r3), .val (.int (Int32.ofNat n)), .val (.int rel), .val (.int md), .val (.int se), .val (.int pk), .val (.int dp), .val (.ref b), .val (.double (own_ap (own_g r1 r2 r3) F0 rel)), .second, .val (.int (2 : Int32)), .unset, .unset, .unset, .unset] [])
                  refine own_go (fun tz kz => XS.iload X4.here hx rfl (hb hby at_267) rfl kz) ?_
                  show own_Go p.tables e below _ T4 (mkF m 269 #[.val (.int p1), .val (.int p2), .val (.int p3), .val (.int p4), .val (.int p5), .val (.int p6), .val (.int r1), .val (.int r2), .val (.int r3), .val (.int (Int32.ofNat n)), .val (.int rel), .val (.int md), .val (.int se), .val (.int pk), .val (.int dp), .val (.ref b), .val (.double (own_ap (own_g r1 r2 r3) F0 rel)), .second, .val (.int (2 : Int32)), .unset, .unset, .unset, .unset] [(.int r3)])
                  refine own_go (fun tz kz => XS.iload X4.here hx rfl (hb hby at_269) rfl kz) ?_
                  show own_Go p.tables e below _ T4 (mkF m 271 #[.val (.int p1), .val (.int p2), .val (.int p3), .val (.int p4), .val (.int p5), .val (.int p6), .val (.int r1), .val (.int r2), .val (.int r3), .val (.int (Int32.ofNat n)), .val (.int rel), .val (.int md), .val (.int se), .val (.int pk), .val (.int dp), .val (.ref b), .val (.double (own_ap (own_g r1 r2 r3) F0 rel)), .second, .val (.int (2 : Int32)), .unset, .unset, .unset, .unset] [(.int dp), (.int r3)])
                  by_cases kb2 : dp < r3
                  ·
                    refine own_go (fun tz kz => XS.icmpYes X4.here hx rfl (pc0 := 271) (pc' := 277) rfl (hb hby at_271) rfl (XT.ii_gt_t kb2) (by decide) (by decide) kz) ?_
                    show own_Go p.tables e below _ T4 (mkF m 277 #[.val (.int p1), .val (.int p2), .val (.int p3), .val (.int p4), .val (.int p5), .val (.int p6), .val (.int r1), .val (.int r2), .val (.int r3), .val (.int (Int32.ofNat n)), .val (.int rel), .val (.int md), .val (.int se), .val (.int pk), .val (.int dp), .val (.ref b), .val (.double (own_ap (own_g r1 r2 r3) F0 rel)), .second, .val (.int (2 : Int32)), .unset, .unset, .unset, .unset] [])
                    exact J277 _ ((if_neg ka0).trans <| (if_neg kb0).trans <| (if_neg ka1).trans <| (if_neg kb1).trans <| (if_neg ka2).trans <| if_pos kb2).symm
                  ·
                    refine own_go (fun tz kz => XS.icmpNo X4.here hx rfl (hb hby at_271) rfl (XT.ii_gt_f kb2) kz) ?_
                    show own_Go p.tables e below _ T4 (mkF m 274 #[.val (.int p1), .val (.int p2), .val (.int p3), .val (.int p4), .val (.int p5), .val (.int p6), .val (.int r1), .val (.int r2), .val (.int r3), .val (.int (Int32.ofNat n)), .val (.int rel), .val (.int md), .val (.int se), .val (.int pk), .val (.int dp), .val (.ref b), .val (.double (own_ap (own_g r1 r2 r3) F0 rel)), .second, .val (.int (2 : Int32)), .unset, .unset, .unset, .unset] [])
                    refine own_go (fun tz kz => XS.iconst X4.here hx rfl (hb hby at_274) kz) ?_
                    show own_Go p.tables e below _ T4 (mkF m 275 #[.val (.int p1), .val (.int p2), .val (.int p3), .val (.int p4), .val (.int p5), .val (.int p6), .val (.int r1), .val (.int r2), .val (.int r3), .val (.int (Int32.ofNat n)), .val (.int rel), .val (.int md), .val (.int se), .val (.int pk), .val (.int dp), .val (.ref b), .val (.double (own_ap (own_g r1 r2 r3) F0 rel)), .second, .val (.int (2 : Int32)), .unset, .unset, .unset, .unset] [(.int (3 : Int32))])
                    refine own_go (fun tz kz => XS.istore X4.here hx rfl (hb hby at_275) rfl (l' := #[.val (.int p1), .val (.int p2), .val (.int p3), .val (.int p4), .val (.int p5), .val (.int p6), .val (.int r1), .val (.int r2), .val (.int r3), .val (.int (Int32.ofNat n)), .val (.int rel), .val (.int md), .val (.int se), .val (.int pk), .val (.int dp), .val (.ref b), .val (.double (own_ap (own_g r1 r2 r3) F0 rel)), .second, .val (.int (3 : Int32)), .unset, .unset, .unset, .unset]) rfl kz) ?_
                    show own_Go p.tables e below _ T4 (mkF m 277 #[.val (.int p1), .val (.int p2), .val (.int p3), .val (.int p4), .val (.int p5), .val (.int p6), .val (.int r1), .val (.int r2), .val (.int r3), .val (.int (Int32.ofNat n)), .val (.int rel), .val (.int md), .val (.int se), .val (.int pk), .val (.int dp), .val (.ref b), .val (.double (own_ap (own_g r1 r2 r3) F0 rel)), .second, .val (.int (3 : Int32)), .unset, .unset, .unset, .unset] [])
                    exact J277 _ ((if_neg ka0).trans <| (if_neg kb0).trans <| (if_neg ka1).trans <| (if_neg kb1).trans <| (if_neg ka2).trans <| if_neg kb2).symm
      clear hg hgz
      rcases (by omega : n = 0 ∨ n = 1 ∨ n = 2 ∨ n = 3) with rfl | rfl | rfl | rfl
      ·
        show own_Go p.tables e below _ s₁ (mkF m 140 #[.val (.int p1), .val (.int p2), .val (.int p3), .val (.int p4), .val (.int p5), .val (.int p6), .val (.int r1), .val (.int r2), .val (.int r3), .val (.int (Int32.ofNat 0)), .val (.int rel), .val (.int md), .val (.int se), .val (.int pk), .val (.int dp), .unset, .unset, .unset, .unset, .unset, .unset, .unset, .unset] [(.int (Int32.ofNat 0))])
        refine own_go (fun tz kz => XS.ifNo X0.here hx rfl (hb hby at_140) rfl (XT.i0_ne_f (by decide)) kz) ?_
        show own_Go p.tables e below _ s₁ (mkF m 143 #[.val (.int p1), .val (.int p2), .val (.int p3), .val (.int p4), .val (.int p5), .val (.int p6), .val (.int r1), .val (.int r2), .val (.int r3), .val (.int (Int32.ofNat 0)), .val (.int rel), .val (.int md), .val (.int se), .val (.int pk), .val (.int dp), .unset, .unset, .unset, .unset, .unset, .unset, .unset, .unset] [])
        refine own_go (fun tz kz => XS.iconst X0.here hx rfl (hb hby at_143) kz) ?_
        show own_Go p.tables e below _ s₁ (mkF m 144 #[.val (.int p1), .val (.int p2), .val (.int p3), .val (.int p4), .val (.int p5), .val (.int p6), .val (.int r1), .val (.int r2), .val (.int r3), .val (.int (Int32.ofNat 0)), .val (.int rel), .val (.int md), .val (.int se), .val (.int pk), .val (.int dp), .unset, .unset, .unset, .unset, .unset, .unset, .unset, .unset] [(.int (0 : Int32))])
        obtain ⟨T5, h5, k5, X5, e5, E5, A5, st5⟩ := newP X0 hx hZ (hw _ (List.mem_of_getElem? (i := 1) rfl)) e0 (g := (mkF m 144 #[.val (.int p1), .val (.int p2), .val (.int p3), .val (.int p4), .val (.int p5), .val (.int p6), .val (.int r1), .val (.int r2), .val (.int r3), .val (.int (Int32.ofNat 0)), .val (.int rel), .val (.int md), .val (.int se), .val (.int pk), .val (.int dp), .unset, .unset, .unset, .unset, .unset, .unset, .unset, .unset] [(.int (0 : Int32))])) rfl (hb hby at_144) rfl (by decide) (cap := 3) (by decide) (by decide) (by decide) (by decide)
        obtain ⟨b, eq_b⟩ : ∃ z, z = (h0).size := ⟨_, rfl⟩
        rw [← eq_b] at A5 st5
        have g_b : n0 ≤ b := Nat.le_trans Z0 (Nat.le_of_eq eq_b.symm)
        have V_b : own_Av Z h5 b .int 0 (fun _ => .int 0) := own_Av.new A5 (by decide)
        refine own_go st5 ?_
        show own_Go p.tables e below _ T5 (mkF m 146 #[.val (.int p1), .val (.int p2), .val (.int p3), .val (.int p4), .val (.int p5), .val (.int p6), .val (.int r1), .val (.int r2), .val (.int r3), .val (.int (Int32.ofNat 0)), .val (.int rel), .val (.int md), .val (.int se), .val (.int pk), .val (.int dp), .unset, .unset, .unset, .unset, .unset, .unset, .unset, .unset] [(.ref b)])
        refine own_go (fun tz kz => XS.goto X5.here hx rfl (pc0 := 146) (pc' := 206) rfl (hb hby at_146) (by decide) (by decide) kz) ?_
        show own_Go p.tables e below _ T5 (mkF m 206 #[.val (.int p1), .val (.int p2), .val (.int p3), .val (.int p4), .val (.int p5), .val (.int p6), .val (.int r1), .val (.int r2), .val (.int r3), .val (.int (Int32.ofNat 0)), .val (.int rel), .val (.int md), .val (.int se), .val (.int pk), .val (.int dp), .unset, .unset, .unset, .unset, .unset, .unset, .unset, .unset] [(.ref b)])
        exact J206 T5 _ _ X5 e5 N0 (Nat.le_trans Z0 E5.1) b g_b (own_Av.eq V_b (fun k hk => absurd hk (Nat.not_lt_zero k)))
      ·
        show own_Go p.tables e below _ s₁ (mkF m 140 #[.val (.int p1), .val (.int p2), .val (.int p3), .val (.int p4), .val (.int p5), .val (.int p6), .val (.int r1), .val (.int r2), .val (.int r3), .val (.int (Int32.ofNat 1)), .val (.int rel), .val (.int md), .val (.int se), .val (.int pk), .val (.int dp), .unset, .unset, .unset, .unset, .unset, .unset, .unset, .unset] [(.int (Int32.ofNat 1))])
        refine own_go (fun tz kz => XS.ifYes X0.here hx rfl (pc0 := 140) (pc' := 149) rfl (hb hby at_140) rfl (XT.i0_ne_t (by decide)) (by decide) (by decide) kz) ?_
        show own_Go p.tables e below _ s₁ (mkF m 149 #[.val (.int p1), .val (.int p2), .val (.int p3), .val (.int p4), .val (.int p5), .val (.int p6), .val (.int r1), .val (.int r2), .val (.int r3), .val (.int (Int32.ofNat 1)), .val (.int rel), .val (.int md), .val (.int se), .val (.int pk), .val (.int dp), .unset, .unset, .unset, .unset, .unset, .unset, .unset, .unset] [])
        refine own_go (fun tz kz => XS.iload X0.here hx rfl (hb hby at_149) rfl kz) ?_
        show own_Go p.tables e below _ s₁ (mkF m 151 #[.val (.int p1), .val (.int p2), .val (.int p3), .val (.int p4), .val (.int p5), .val (.int p6), .val (.int r1), .val (.int r2), .val (.int r3), .val (.int (Int32.ofNat 1)), .val (.int rel), .val (.int md), .val (.int se), .val (.int pk), .val (.int dp), .unset, .unset, .unset, .unset, .unset, .unset, .unset, .unset] [(.int (Int32.ofNat 1))])
        refine own_go (fun tz kz => XS.iconst X0.here hx rfl (hb hby at_151) kz) ?_
        show own_Go p.tables e below _ s₁ (mkF m 152 #[.val (.int p1), .val (.int p2), .val (.int p3), .val (.int p4), .val (.int p5), .val (.int p6), .val (.int r1), .val (.int r2), .val (.int r3), .val (.int (Int32.ofNat 1)), .val (.int rel), .val (.int md), .val (.int se), .val (.int pk), .val (.int dp), .unset, .unset, .unset, .unset, .unset, .unset, .unset, .unset] [(.int (1 : Int32)), (.int (Int32.ofNat 1))])
        refine own_go (fun tz kz => XS.icmpNo X0.here hx rfl (hb hby at_152) rfl (XT.ii_ne_f (by decide)) kz) ?_
        show own_Go p.tables e below _ s₁ (mkF m 155 #[.val (.int p1), .val (.int p2), .val (.int p3), .val (.int p4), .val (.int p5), .val (.int p6), .val (.int r1), .val (.int r2), .val (.int r3), .val (.int (Int32.ofNat 1)), .val (.int rel), .val (.int md), .val (.int se), .val (.int pk), .val (.int dp), .unset, .unset, .unset, .unset, .unset, .unset, .unset, .unset] [])
        refine own_go (fun tz kz => XS.iconst X0.here hx rfl (hb hby at_155) kz) ?_
        show own_Go p.tables e below _ s₁ (mkF m 156 #[.val (.int p1), .val (.int p2), .val (.int p3), .val (.int p4), .val (.int p5), .val (.int p6), .val (.int r1), .val (.int r2), .val (.int r3), .val (.int (Int32.ofNat 1)), .val (.int rel), .val (.int md), .val (.int se), .val (.int pk), .val (.int dp), .unset, .unset, .unset, .unset, .unset, .unset, .unset, .unset] [(.int (1 : Int32))])
        obtain ⟨T6, h6, k6, X6, e6, E6, A6, st6⟩ := newP X0 hx hZ (hw _ (List.mem_of_getElem? (i := 1) rfl)) e0 (g := (mkF m 156 #[.val (.int p1), .val (.int p2), .val (.int p3), .val (.int p4), .val (.int p5), .val (.int p6), .val (.int r1), .val (.int r2), .val (.int r3), .val (.int (Int32.ofNat 1)), .val (.int rel), .val (.int md), .val (.int se), .val (.int pk), .val (.int dp), .unset, .unset, .unset, .unset, .unset, .unset, .unset, .unset] [(.int (1 : Int32))])) rfl (hb hby at_156) rfl (by decide) (cap := 3) (by decide) (by decide) (by decide) (by decide)
        obtain ⟨b, eq_b⟩ : ∃ z, z = (h0).size := ⟨_, rfl⟩
        rw [← eq_b] at A6 st6
        have g_b : n0 ≤ b := Nat.le_trans Z0 (Nat.le_of_eq eq_b.symm)
        have V_b : own_Av Z h6 b .int 1 (fun _ => .int 0) := own_Av.new A6 (by decide)
        refine own_go st6 ?_
        show own_Go p.tables e below _ T6 (mkF m 158 #[.val (.int p1), .val (.int p2), .val (.int p3), .val (.int p4), .val (.int p5), .val (.int p6), .val (.int r1), .val (.int r2), .val (.int r3), .val (.int (Int32.ofNat 1)), .val (.int rel), .val (.int md), .val (.int se), .val (.int pk), .val (.int dp), .unset, .unset, .unset, .unset, .unset, .unset, .unset, .unset] [(.ref b)])
        refine own_go (fun tz kz => XS.dup X6.here hx rfl (hb hby at_158) rfl rfl kz) ?_
        show own_Go p.tables e below _ T6 (mkF m 159 #[.val (.int p1), .val (.int p2), .val (.int p3), .val (.int p4), .val (.int p5), .val (.int p6), .val (.int r1), .val (.int r2), .val (.int r3), .val (.int (Int32.ofNat 1)), .val (.int rel), .val (.int md), .val (.int se), .val (.int pk), .val (.int dp), .unset, .unset, .unset, .unset, .unset, .unset, .unset, .unset] [(.ref b), (.ref b)])
        refine own_go (fun tz kz => XS.iconst X6.here hx rfl (hb hby at_159) kz) ?_
        show own_Go p.tables e below _ T6 (mkF m 160 #[.val (.int p1), .val (.int p2), .val (.int p3), .val (.int p4), .val (.int p5), .val (.int p6), .val (.int r1), .val (.int r2), .val (.int r3), .val (.int (Int32.ofNat 1)), .val (.int rel), .val (.int md), .val (.int se), .val (.int pk), .val (.int dp), .unset, .unset, .unset, .unset, .unset, .unset, .unset, .unset] [(.int (0 : Int32)), (.ref b), (.ref b)])
        refine own_go (fun tz kz => XS.iload X6.here hx rfl (hb hby at_160) rfl kz) ?_
        show own_Go p.tables e below _ T6 (mkF m 162 #[.val (.int p1), .val (.int p2), .val (.int p3), .val (.int p4), .val (.int p5), .val (.int p6), .val (.int r1), .val (.int r2), .val (.int r3), .val (.int (Int32.ofNat 1)), .val (.int rel), .val (.int md), .val (.int se), .val (.int pk), .val (.int dp), .unset, .unset, .unset, .unset, .unset, .unset, .unset, .unset] [(.int r1), (.int (0 : Int32)), (.ref b), (.ref b)])
        obtain ⟨c7, Ar7, Sz7, Ge7⟩ := id (V_b)
        obtain ⟨T7, h7, X7, e7, W7, st7⟩ := stI X6 hx hZ e6 Ar7 (j := (0 : Int32)) (own_inb (i := 0) Sz7 ⟨by decide, by decide⟩ (by decide)) (g := (mkF m 162 #[.val (.int p1), .val (.int p2), .val (.int p3), .val (.int p4), .val (.int p5), .val (.int p6), .val (.int r1), .val (.int r2), .val (.int r3), .val (.int (Int32.ofNat 1)), .val (.int rel), .val (.int md), .val (.int se), .val (.int pk), .val (.int dp), .unset, .unset, .unset, .unset, .unset, .unset, .unset, .unset] [(.int r1), (.int (0 : Int32)), (.ref b), (.ref b)])) rfl rfl (hb hby at_162)
        have V0 := own_Av.set (V_b) W7 (⟨by decide, by decide⟩ : ¬ (0 : Int32) < 0 ∧ ((0 : Int32)).toNatClampNeg = 0).2
        have N7 := Fr.snoc X7 N0 g_b
        refine own_go st7 ?_
        show own_Go p.tables e below _ T7 (mkF m 163 #[.val (.int p1), .val (.int p2), .val (.int p3), .val (.int p4), .val (.int p5), .val (.int p6), .val (.int r1), .val (.int r2), .val (.int r3), .val (.int (Int32.ofNat 1)), .val (.int rel), .val (.int md), .val (.int se), .val (.int pk), .val (.int dp), .unset, .unset, .unset, .unset, .unset, .unset, .unset, .unset] [(.ref b)])
        refine own_go (fun tz kz => XS.goto X7.here hx rfl (pc0 := 163) (pc' := 206) rfl (hb hby at_163) (by decide) (by decide) kz) ?_
        show own_Go p.tables e below _ T7 (mkF m 206 #[.val (.int p1), .val (.int p2), .val (.int p3), .val (.int p4), .val (.int p5), .val (.int p6), .val (.int r1), .val (.int r2), .val (.int r3), .val (.int (Int32.ofNat 1)), .val (.int rel), .val (.int md), .val (.int se), .val (.int pk), .val (.int dp), .unset, .unset, .unset, .unset, .unset, .unset, .unset, .unset] [(.ref b)])
        exact J206 T7 _ _ X7 e7 N7 (Nat.le_trans (Nat.le_trans Z0 E6.1) (Keep.of_wr W7).1) b g_b (own_Av.eq V0 (fun k hk => by rcases (by omega : k = 0) with rfl <;> rfl))
      ·
        show own_Go p.tables e below _ s₁ (mkF m 140 #[.val (.int p1), .val (.int p2), .val (.int p3), .val (.int p4), .val (.int p5), .val (.int p6), .val (.int r1), .val (.int r2), .val (.int r3), .val (.int (Int32.ofNat 2)), .val (.int rel), .val (.int md), .val (.int se), .val (.int pk), .val (.int dp), .unset, .unset, .unset, .unset, .unset, .unset, .unset, .unset] [(.int (Int32.ofNat 2))])
        refine own_go (fun tz kz => XS.ifYes X0.here hx rfl (pc0 := 140) (pc' := 149) rfl (hb hby at_140) rfl (XT.i0_ne_t (by decide)) (by decide) (by decide) kz) ?_
        show own_Go p.tables e below _ s₁ (mkF m 149 #[.val (.int p1), .val (.int p2), .val (.int p3), .val (.int p4), .val (.int p5), .val (.int p6), .val (.int r1), .val (.int r2), .val (.int r3), .val (.int (Int32.ofNat 2)), .val (.int rel), .val (.int md), .val (.int se), .val (.int pk), .val (.int dp), .unset, .unset, .unset, .unset, .unset, .unset, .unset, .unset] [])
        refine own_go (fun tz kz => XS.iload X0.here hx rfl (hb hby at_149) rfl kz) ?_
        show own_Go p.tables e below _ s₁ (mkF m 151 #[.val (.int p1), .val (.int p2), .val (.int p3), .val (.int p4), .val (.int p5), .val (.int p6), .val (.int r1), .val (.int r2), .val (.int r3), .val (.int (Int32.ofNat 2)), .val (.int rel), .val (.int md), .val (.int se), .val (.int pk), .val (.int dp), .unset, .unset, .unset, .unset, .unset, .unset, .unset, .unset] [(.int (Int32.ofNat 2))])
        refine own_go (fun tz kz => XS.iconst X0.here hx rfl (hb hby at_151) kz) ?_
        show own_Go p.tables e below _ s₁ (mkF m 152 #[.val (.int p1), .val (.int p2), .val (.int p3), .val (.int p4), .val (.int p5), .val (.int p6), .val (.int r1), .val (.int r2), .val (.int r3), .val (.int (Int32.ofNat 2)), .val (.int rel), .val (.int md), .val (.int se), .val (.int pk), .val (.int dp), .unset, .unset, .unset, .unset, .unset, .unset, .unset, .unset] [(.int (1 : Int32)), (.int (Int32.ofNat 2))])
        refine own_go (fun tz kz => XS.icmpYes X0.here hx rfl (pc0 := 152) (pc' := 166) rfl (hb hby at_152) rfl (XT.ii_ne_t (by decide)) (by decide) (by decide) kz) ?_
        show own_Go p.tables e below _ s₁ (mkF m 166 #[.val (.int p1), .val (.int p2), .val (.int p3), .val (.int p4), .val (.int p5), .val (.int p6), .val (.int r1), .val (.int r2), .val (.int r3), .val (.int (Int32.ofNat 2)), .val (.int rel), .val (.int md), .val (.int se), .val (.int pk), .val (.int dp), .unset, .unset, .unset, .unset, .unset, .unset, .unset, .unset] [])
        refine own_go (fun tz kz => XS.iload X0.here hx rfl (hb hby at_166) rfl kz) ?_
        show own_Go p.tables e below _ s₁ (mkF m 168 #[.val (.int p1), .val (.int p2), .val (.int p3), .val (.int p4), .val (.int p5), .val (.int p6), .val (.int r1), .val (.int r2), .val (.int r3), .val (.int (Int32.ofNat 2)), .val (.int rel), .val (.int md), .val (.int se), .val (.int pk), .val (.int dp), .unset, .unset, .unset, .unset, .unset, .unset, .unset, .unset] [(.int (Int32.ofNat 2))])
        refine own_go (fun tz kz => XS.iconst X0.here hx rfl (hb hby at_168) kz) ?_
        show own_Go p.tables e below _ s₁ (mkF m 169 #[.val (.int p1), .val (.int p2), .val (.int p3), .val (.int p4), .val (.int p5), .val (.int p6), .val (.int r1), .val (.int r2), .val (.int r3), .val (.int (Int32.ofNat 2)), .val (.int rel), .val (.int md), .val (.int se), .val (.int pk), .val (.int dp), .unset, .unset, .unset, .unset, .unset, .unset, .unset, .unset] [(.int (2 : Int32)), (.int (Int32.ofNat 2))])
        refine own_go (fun tz kz => XS.icmpNo X0.here hx rfl (hb hby at_169) rfl (XT.ii_ne_f (by decide)) kz) ?_
        show own_Go p.tables e below _ s₁ (mkF m 172 #[.val (.int p1), .val (.int p2), .val (.int p3), .val (.int p4), .val (.int p5), .val (.int p6), .val (.int r1), .val (.int r2), .val (.int r3), .val (.int (Int32.ofNat 2)), .val (.int rel), .val (.int md), .val (.int se), .val (.int pk), .val (.int dp), .unset, .unset, .unset, .unset, .unset, .unset, .unset, .unset] [])
        refine own_go (fun tz kz => XS.iconst X0.here hx rfl (hb hby at_172) kz) ?_
        show own_Go p.tables e below _ s₁ (mkF m 173 #[.val (.int p1), .val (.int p2), .val (.int p3), .val (.int p4), .val (.int p5), .val (.int p6), .val (.int r1), .val (.int r2), .val (.int r3), .val (.int (Int32.ofNat 2)), .val (.int rel), .val (.int md), .val (.int se), .val (.int pk), .val (.int dp), .unset, .unset, .unset, .unset, .unset, .unset, .unset, .unset] [(.int (2 : Int32))])
        obtain ⟨T8, h8, k8, X8, e8, E8, A8, st8⟩ := newP X0 hx hZ (hw _ (List.mem_of_getElem? (i := 1) rfl)) e0 (g := (mkF m 173 #[.val (.int p1), .val (.int p2), .val (.int p3), .val (.int p4), .val (.int p5), .val (.int p6), .val (.int r1), .val (.int r2), .val (.int r3), .val (.int (Int32.ofNat 2)), .val (.int rel), .val (.int md), .val (.int se), .val (.int pk), .val (.int dp), .unset, .unset, .unset, .unset, .unset, .unset, .unset, .unset] [(.int (2 : Int32))])) rfl (hb hby at_173) rfl (by decide) (cap := 3) (by decide) (by decide) (by decide) (by decide)
        obtain ⟨b, eq_b⟩ : ∃ z, z = (h0).size := ⟨_, rfl⟩
        rw [← eq_b] at A8 st8
        have g_b : n0 ≤ b := Nat.le_trans Z0 (Nat.le_of_eq eq_b.symm)
        have V_b : own_Av Z h8 b .int 2 (fun _ => .int 0) := own_Av.new A8 (by decide)
        refine own_go st8 ?_
        show own_Go p.tables e below _ T8 (mkF m 175 #[.val (.int p1), .val (.int p2), .val (.int p3), .val (.int p4), .val (.int p5), .val (.int p6), .val (.int r1), .val (.int r2), .val (.int r3), .val (.int (Int32.ofNat 2)), .val (.int rel), .val (.int md), .val (.int se), .val (.int pk), .val (.int dp), .unset, .unset, .unset, .unset, .unset, .unset, .unset, .unset] [(.ref b)])
        refine own_go (fun tz kz => XS.dup X8.here hx rfl (hb hby at_175) rfl rfl kz) ?_
        show own_Go p.tables e below _ T8 (mkF m 176 #[.val (.int p1), .val (.int p2), .val (.int p3), .val (.int p4), .val (.int p5), .val (.int p6), .val (.int r1), .val (.int r2), .val (.int r3), .val (.int (Int32.ofNat 2)), .val (.int rel), .val (.int md), .val (.int se), .val (.int pk), .val (.int dp), .unset, .unset, .unset, .unset, .unset, .unset, .unset, .unset] [(.ref b), (.ref b)])
        refine own_go (fun tz kz => XS.iconst X8.here hx rfl (hb hby at_176) kz) ?_
        show own_Go p.tables e below _ T8 (mkF m 177 #[.val (.int p1), .val (.int p2), .val (.int p3), .val (.int p4), .val (.int p5), .val (.int p6), .val (.int r1), .val (.int r2), .val (.int r3), .val (.int (Int32.ofNat 2)), .val (.int rel), .val (.int md), .val (.int se), .val (.int pk), .val (.int dp), .unset, .unset, .unset, .unset, .unset, .unset, .unset, .unset] [(.int (0 : Int32)), (.ref b), (.ref b)])
        refine own_go (fun tz kz => XS.iload X8.here hx rfl (hb hby at_177) rfl kz) ?_
        show own_Go p.tables e below _ T8 (mkF m 179 #[.val (.int p1), .val (.int p2), .val (.int p3), .val (.int p4), .val (.int p5), .val (.int p6), .val (.int r1), .val (.int r2), .val (.int r3), .val (.int (Int32.ofNat 2)), .val (.int rel), .val (.int md), .val (.int se), .val (.int pk), .val (.int dp), .unset, .unset, .unset, .unset, .unset, .unset, .unset, .unset] [(.int r1), (.int (0 : Int32)), (.ref b), (.ref b)])
        obtain ⟨c9, Ar9, Sz9, Ge9⟩ := id (V_b)
        obtain ⟨T9, h9, X9, e9, W9, st9⟩ := stI X8 hx hZ e8 Ar9 (j := (0 : Int32)) (own_inb (i := 0) Sz9 ⟨by decide, by decide⟩ (by decide)) (g := (mkF m 179 #[.val (.int p1), .val (.int p2), .val (.int p3), .val (.int p4), .val (.int p5), .val (.int p6), .val (.int r1), .val (.int r2), .val (.int r3), .val (.int (Int32.ofNat 2)), .val (.int rel), .val (.int md), .val (.int se), .val (.int pk), .val (.int dp), .unset, .unset, .unset, .unset, .unset, .unset, .unset, .unset] [(.int r1), (.int (0 : Int32)), (.ref b), (.ref b)])) rfl rfl (hb hby at_179)
        have V0 := own_Av.set (V_b) W9 (⟨by decide, by decide⟩ : ¬ (0 : Int32) < 0 ∧ ((0 : Int32)).toNatClampNeg = 0).2
        have N9 := Fr.snoc X9 N0 g_b
        refine own_go st9 ?_
        show own_Go p.tables e below _ T9 (mkF m 180 #[.val (.int p1), .val (.int p2), .val (.int p3), .val (.int p4), .val (.int p5), .val (.int p6), .val (.int r1), .val (.int r2), .val (.int r3), .val (.int (Int32.ofNat 2)), .val (.int rel), .val (.int md), .val (.int se), .val (.int pk), .val (.int dp), .unset, .unset, .unset, .unset, .unset, .unset, .unset, .unset] [(.ref b)])
        refine own_go (fun tz kz => XS.dup X9.here hx rfl (hb hby at_180) rfl rfl kz) ?_
        show own_Go p.tables e below _ T9 (mkF m 181 #[.val (.int p1), .val (.int p2), .val (.int p3), .val (.int p4), .val (.int p5), .val (.int p6), .val (.int r1), .val (.int r2), .val (.int r3), .val (.int (Int32.ofNat 2)), .val (.int rel), .val (.int md), .val (.int se), .val (.int pk), .val (.int dp), .unset, .unset, .unset, .unset, .unset, .unset, .unset, .unset] [(.ref b), (.ref b)])
        refine own_go (fun tz kz => XS.iconst X9.here hx rfl (hb hby at_181) kz) ?_
        show own_Go p.tables e below _ T9 (mkF m 182 #[.val (.int p1), .val (.int p2), .val (.int p3), .val (.int p4), .val (.int p5), .val (.int p6), .val (.int r1), .val (.int r2), .val (.int r3), .val (.int (Int32.ofNat 2)), .val (.int rel), .val (.int md), .val (.int se), .val (.int pk), .val (.int dp), .unset, .unset, .unset, .unset, .unset, .unset, .unset, .unset] [(.int (1 : Int32)), (.ref b), (.ref b)])
        refine own_go (fun tz kz => XS.iload X9.here hx rfl (hb hby at_182) rfl kz) ?_
        show own_Go p.tables e below _ T9 (mkF m 184 #[.val (.int p1), .val (.int p2), .val (.int p3), .val (.int p4), .val (.int p5), .val (.int p6), .val (.int r1), .val (.int r2), .val (.int r3), .val (.int (Int32.ofNat 2)), .val (.int rel), .val (.int md), .val (.int se), .val (.int pk), .val (.int dp), .unset, .unset, .unset, .unset, .unset, .unset, .unset, .unset] [(.int r2), (.int (1 : Int32)), (.ref b), (.ref b)])
        obtain ⟨c10, Ar10, Sz10, Ge10⟩ := id (V0)
        obtain ⟨T10, h10, X10, e10, W10, st10⟩ := stI X9 hx hZ e9 Ar10 (j := (1 : Int32)) (own_inb (i := 1) Sz10 ⟨by decide, by decide⟩ (by decide)) (g := (mkF m 184 #[.val (.int p1), .val (.int p2), .val (.int p3), .val (.int p4), .val (.int p5), .val (.int p6), .val (.int r1), .val (.int r2), .val (.int r3), .val (.int (Int32.ofNat 2)), .val (.int rel), .val (.int md), .val (.int se), .val (.int pk), .val (.int dp), .unset, .unset, .unset, .unset, .unset, .unset, .unset, .unset] [(.int r2), (.int (1 : Int32)), (.ref b), (.ref b)])) rfl rfl (hb hby at_184)
        have V1 := own_Av.set (V0) W10 (⟨by decide, by decide⟩ : ¬ (1 : Int32) < 0 ∧ ((1 : Int32)).toNatClampNeg = 1).2
        have N10 := Fr.snoc X10 N9 g_b
        refine own_go st10 ?_
        show own_Go p.tables e below _ T10 (mkF m 185 #[.val (.int p1), .val (.int p2), .val (.int p3), .val (.int p4), .val (.int p5), .val (.int p6), .val (.int r1), .val (.int r2), .val (.int r3), .val (.int (Int32.ofNat 2)), .val (.int rel), .val (.int md), .val (.int se), .val (.int pk), .val (.int dp), .unset, .unset, .unset, .unset, .unset, .unset, .unset, .unset] [(.ref b)])
        refine own_go (fun tz kz => XS.goto X10.here hx rfl (pc0 := 185) (pc' := 206) rfl (hb hby at_185) (by decide) (by decide) kz) ?_
        show own_Go p.tables e below _ T10 (mkF m 206 #[.val (.int p1), .val (.int p2), .val (.int p3), .val (.int p4), .val (.int p5), .val (.int p6), .val (.int r1), .val (.int r2), .val (.int r3), .val (.int (Int32.ofNat 2)), .val (.int rel), .val (.int md), .val (.int se), .val (.int pk), .val (.int dp), .unset, .unset, .unset, .unset, .unset, .unset, .unset, .unset] [(.ref b)])
        exact J206 T10 _ _ X10 e10 N10 (Nat.le_trans (Nat.le_trans (Nat.le_trans Z0 E8.1) (Keep.of_wr W9).1) (Keep.of_wr W10).1) b g_b (own_Av.eq V1 (fun k hk => by rcases (by omega : k = 0 ∨ k = 1) with rfl | rfl <;> rfl))
      ·
        show own_Go p.tables e below _ s₁ (mkF m 140 #[.val (.int p1), .val (.int p2), .val (.int p3), .val (.int p4), .val (.int p5), .val (.int p6), .val (.int r1), .val (.int r2), .val (.int r3), .val (.int (Int32.ofNat 3)), .val (.int rel), .val (.int md), .val (.int se), .val (.int pk), .val (.int dp), .unset, .unset, .unset, .unset, .unset, .unset, .unset, .unset] [(.int (Int32.ofNat 3))])
        refine own_go (fun tz kz => XS.ifYes X0.here hx rfl (pc0 := 140) (pc' := 149) rfl (hb hby at_140) rfl (XT.i0_ne_t (by decide)) (by decide) (by decide) kz) ?_
        show own_Go p.tables e below _ s₁ (mkF m 149 #[.val (.int p1), .val (.int p2), .val (.int p3), .val (.int p4), .val (.int p5), .val (.int p6), .val (.int r1), .val (.int r2), .val (.int r3), .val (.int (Int32.ofNat 3)), .val (.int rel), .val (.int md), .val (.int se), .val (.int pk), .val (.int dp), .unset, .unset, .unset, .unset, .unset, .unset, .unset, .unset] [])
        refine own_go (fun tz kz => XS.iload X0.here hx rfl (hb hby at_149) rfl kz) ?_
        show own_Go p.tables e below _ s₁ (mkF m 151 #[.val (.int p1), .val (.int p2), .val (.int p3), .val (.int p4), .val (.int p5), .val (.int p6), .val (.int r1), .val (.int r2), .val (.int r3), .val (.int (Int32.ofNat 3)), .val (.int rel), .val (.int md), .val (.int se), .val (.int pk), .val (.int dp), .unset, .unset, .unset, .unset, .unset, .unset, .unset, .unset] [(.int (Int32.ofNat 3))])
        refine own_go (fun tz kz => XS.iconst X0.here hx rfl (hb hby at_151) kz) ?_
        show own_Go p.tables e below _ s₁ (mkF m 152 #[.val (.int p1), .val (.int p2), .val (.int p3), .val (.int p4), .val (.int p5), .val (.int p6), .val (.int r1), .val (.int r2), .val (.int r3), .val (.int (Int32.ofNat 3)), .val (.int rel), .val (.int md), .val (.int se), .val (.int pk), .val (.int dp), .unset, .unset, .unset, .unset, .unset, .unset, .unset, .unset] [(.int (1 : Int32)), (.int (Int32.ofNat 3))])
        refine own_go (fun tz kz => XS.icmpYes X0.here hx rfl (pc0 := 152) (pc' := 166) rfl (hb hby at_152) rfl (XT.ii_ne_t (by decide)) (by decide) (by decide) kz) ?_
        show own_Go p.tables e below _ s₁ (mkF m 166 #[.val (.int p1), .val (.int p2), .val (.int p3), .val (.int p4), .val (.int p5), .val (.int p6), .val (.int r1), .val (.int r2), .val (.int r3), .val (.int (Int32.ofNat 3)), .val (.int rel), .val (.int md), .val (.int se), .val (.int pk), .val (.int dp), .unset, .unset, .unset, .unset, .unset, .unset, .unset, .unset] [])
        refine own_go (fun tz kz => XS.iload X0.here hx rfl (hb hby at_166) rfl kz) ?_
        show own_Go p.tables e below _ s₁ (mkF m 168 #[.val (.int p1), .val (.int p2), .val (.int p3), .val (.int p4), .val (.int p5), .val (.int p6), .val (.int r1), .val (.int r2), .val (.int r3), .val (.int (Int32.ofNat 3)), .val (.int rel), .val (.int md), .val (.int se), .val (.int pk), .val (.int dp), .unset, .unset, .unset, .unset, .unset, .unset, .unset, .unset] [(.int (Int32.ofNat 3))])
        refine own_go (fun tz kz => XS.iconst X0.here hx rfl (hb hby at_168) kz) ?_
        show own_Go p.tables e below _ s₁ (mkF m 169 #[.val (.int p1), .val (.int p2), .val (.int p3), .val (.int p4), .val (.int p5), .val (.int p6), .val (.int r1), .val (.int r2), .val (.int r3), .val (.int (Int32.ofNat 3)), .val (.int rel), .val (.int md), .val (.int se), .val (.int pk), .val (.int dp), .unset, .unset, .unset, .unset, .unset, .unset, .unset, .unset] [(.int (2 : Int32)), (.int (Int32.ofNat 3))])
        refine own_go (fun tz kz => XS.icmpYes X0.here hx rfl (pc0 := 169) (pc' := 188) rfl (hb hby at_169) rfl (XT.ii_ne_t (by decide)) (by decide) (by decide) kz) ?_
        show own_Go p.tables e below _ s₁ (mkF m 188 #[.val (.int p1), .val (.int p2), .val (.int p3), .val (.int p4), .val (.int p5), .val (.int p6), .val (.int r1), .val (.int r2), .val (.int r3), .val (.int (Int32.ofNat 3)), .val (.int rel), .val (.int md), .val (.int se), .val (.int pk), .val (.int dp), .unset, .unset, .unset, .unset, .unset, .unset, .unset, .unset] [])
        refine own_go (fun tz kz => XS.iconst X0.here hx rfl (hb hby at_188) kz) ?_
        show own_Go p.tables e below _ s₁ (mkF m 189 #[.val (.int p1), .val (.int p2), .val (.int p3), .val (.int p4), .val (.int p5), .val (.int p6), .val (.int r1), .val (.int r2), .val (.int r3), .val (.int (Int32.ofNat 3)), .val (.int rel), .val (.int md), .val (.int se), .val (.int pk), .val (.int dp), .unset, .unset, .unset, .unset, .unset, .unset, .unset, .unset] [(.int (3 : Int32))])
        obtain ⟨T11, h11, k11, X11, e11, E11, A11, st11⟩ := newP X0 hx hZ (hw _ (List.mem_of_getElem? (i := 1) rfl)) e0 (g := (mkF m 189 #[.val (.int p1), .val (.int p2), .val (.int p3), .val (.int p4), .val (.int p5), .val (.int p6), .val (.int r1), .val (.int r2), .val (.int r3), .val (.int (Int32.ofNat 3)), .val (.int rel), .val (.int md), .val (.int se), .val (.int pk), .val (.int dp), .unset, .unset, .unset, .unset, .unset, .unset, .unset, .unset] [(.int (3 : Int32))])) rfl (hb hby at_189) rfl (by decide) (cap := 3) (by decide) (by decide) (by decide) (by decide)
        obtain ⟨b, eq_b⟩ : ∃ z, z = (h0).size := ⟨_, rfl⟩
        rw [← eq_b] at A11 st11
        have g_b : n0 ≤ b := Nat.le_trans Z0 (Nat.le_of_eq eq_b.symm)
        have V_b : own_Av Z h11 b .int 3 (fun _ => .int 0) := own_Av.new A11 (by decide)
        refine own_go st11 ?_
        show own_Go p.tables e below _ T11 (mkF m 191 #[.val (.int p1), .val (.int p2), .val (.int p3), .val (.int p4), .val (.int p5), .val (.int p6), .val (.int r1), .val (.int r2), .val (.int r3), .val (.int (Int32.ofNat 3)), .val (.int rel), .val (.int md), .val (.int se), .val (.int pk), .val (.int dp), .unset, .unset, .unset, .unset, .unset, .unset, .unset, .unset] [(.ref b)])
        refine own_go (fun tz kz => XS.dup X11.here hx rfl (hb hby at_191) rfl rfl kz) ?_
        show own_Go p.tables e below _ T11 (mkF m 192 #[.val (.int p1), .val (.int p2), .val (.int p3), .val (.int p4), .val (.int p5), .val (.int p6), .val (.int r1), .val (.int r2), .val (.int r3), .val (.int (Int32.ofNat 3)), .val (.int rel), .val (.int md), .val (.int se), .val (.int pk), .val (.int dp), .unset, .unset, .unset, .unset, .unset, .unset, .unset, .unset] [(.ref b), (.ref b)])
        refine own_go (fun tz kz => XS.iconst X11.here hx rfl (hb hby at_192) kz) ?_
        show own_Go p.tables e below _ T11 (mkF m 193 #[.val (.int p1), .val (.int p2), .val (.int p3), .val (.int p4), .val (.int p5), .val (.int p6), .val (.int r1), .val (.int r2), .val (.int r3), .val (.int (Int32.ofNat 3)), .val (.int rel), .val (.int md), .val (.int se), .val (.int pk), .val (.int dp), .unset, .unset, .unset, .unset, .unset, .unset, .unset, .unset] [(.int (0 : Int32)), (.ref b), (.ref b)])
        refine own_go (fun tz kz => XS.iload X11.here hx rfl (hb hby at_193) rfl kz) ?_
        show own_Go p.tables e below _ T11 (mkF m 195 #[.val (.int p1), .val (.int p2), .val (.int p3), .val (.int p4), .val (.int p5), .val (.int p6), .val (.int r1), .val (.int r2), .val (.int r3), .val (.int (Int32.ofNat 3)), .val (.int rel), .val (.int md), .val (.int se), .val (.int pk), .val (.int dp), .unset, .unset, .unset, .unset, .unset, .unset, .unset, .unset] [(.int r1), (.int (0 : Int32)), (.ref b), (.ref b)])
        obtain ⟨c12, Ar12, Sz12, Ge12⟩ := id (V_b)
        obtain ⟨T12, h12, X12, e12, W12, st12⟩ := stI X11 hx hZ e11 Ar12 (j := (0 : Int32)) (own_inb (i := 0) Sz12 ⟨by decide, by decide⟩ (by decide)) (g := (mkF m 195 #[.val (.int p1), .val (.int p2), .val (.int p3), .val (.int p4), .val (.int p5), .val (.int p6), .val (.int r1), .val (.int r2), .val (.int r3), .val (.int (Int32.ofNat 3)), .val (.int rel), .val (.int md), .val (.int se), .val (.int pk), .val (.int dp), .unset, .unset, .unset, .unset, .unset, .unset, .unset, .unset] [(.int r1), (.int (0 : Int32)), (.ref b), (.ref b)])) rfl rfl (hb hby at_195)
        have V0 := own_Av.set (V_b) W12 (⟨by decide, by decide⟩ : ¬ (0 : Int32) < 0 ∧ ((0 : Int32)).toNatClampNeg = 0).2
        have N12 := Fr.snoc X12 N0 g_b
        refine own_go st12 ?_
        show own_Go p.tables e below _ T12 (mkF m 196 #[.val (.int p1), .val (.int p2), .val (.int p3), .val (.int p4), .val (.int p5), .val (.int p6), .val (.int r1), .val (.int r2), .val (.int r3), .val (.int (Int32.ofNat 3)), .val (.int rel), .val (.int md), .val (.int se), .val (.int pk), .val (.int dp), .unset, .unset, .unset, .unset, .unset, .unset, .unset, .unset] [(.ref b)])
        refine own_go (fun tz kz => XS.dup X12.here hx rfl (hb hby at_196) rfl rfl kz) ?_
        show own_Go p.tables e below _ T12 (mkF m 197 #[.val (.int p1), .val (.int p2), .val (.int p3), .val (.int p4), .val (.int p5), .val (.int p6), .val (.int r1), .val (.int r2), .val (.int r3), .val (.int (Int32.ofNat 3)), .val (.int rel), .val (.int md), .val (.int se), .val (.int pk), .val (.int dp), .unset, .unset, .unset, .unset, .unset, .unset, .unset, .unset] [(.ref b), (.ref b)])
        refine own_go (fun tz kz => XS.iconst X12.here hx rfl (hb hby at_197) kz) ?_
        show own_Go p.tables e below _ T12 (mkF m 198 #[.val (.int p1), .val (.int p2), .val (.int p3), .val (.int p4), .val (.int p5), .val (.int p6), .val (.int r1), .val (.int r2), .val (.int r3), .val (.int (Int32.ofNat 3)), .val (.int rel), .val (.int md), .val (.int se), .val (.int pk), .val (.int dp), .unset, .unset, .unset, .unset, .unset, .unset, .unset, .unset] [(.int (1 : Int32)), (.ref b), (.ref b)])
        refine own_go (fun tz kz => XS.iload X12.here hx rfl (hb hby at_198) rfl kz) ?_
        show own_Go p.tables e below _ T12 (mkF m 200 #[.val (.int p1), .val (.int p2), .val (.int p3), .val (.int p4), .val (.int p5), .val (.int p6), .val (.int r1), .val (.int r2), .val (.int r3), .val (.int (Int32.ofNat 3)), .val (.int rel), .val (.int md), .val (.int se), .val (.int pk), .val (.int dp), .unset, .unset, .unset, .unset, .unset, .unset, .unset, .unset] [(.int r2), (.int (1 : Int32)), (.ref b), (.ref b)])
        obtain ⟨c13, Ar13, Sz13, Ge13⟩ := id (V0)
        obtain ⟨T13, h13, X13, e13, W13, st13⟩ := stI X12 hx hZ e12 Ar13 (j := (1 : Int32)) (own_inb (i := 1) Sz13 ⟨by decide, by decide⟩ (by decide)) (g := (mkF m 200 #[.val (.int p1), .val (.int p2), .val (.int p3), .val (.int p4), .val (.int p5), .val (.int p6), .val (.int r1), .val (.int r2), .val (.int r3), .val (.int (Int32.ofNat 3)), .val (.int rel), .val (.int md), .val (.int se), .val (.int pk), .val (.int dp), .unset, .unset, .unset, .unset, .unset, .unset, .unset, .unset] [(.int r2), (.int (1 : Int32)), (.ref b), (.ref b)])) rfl rfl (hb hby at_200)
        have V1 := own_Av.set (V0) W13 (⟨by decide, by decide⟩ : ¬ (1 : Int32) < 0 ∧ ((1 : Int32)).toNatClampNeg = 1).2
        have N13 := Fr.snoc X13 N12 g_b
        refine own_go st13 ?_
        show own_Go p.tables e below _ T13 (mkF m 201 #[.val (.int p1), .val (.int p2), .val (.int p3), .val (.int p4), .val (.int p5), .val (.int p6), .val (.int r1), .val (.int r2), .val (.int r3), .val (.int (Int32.ofNat 3)), .val (.int rel), .val (.int md), .val (.int se), .val (.int pk), .val (.int dp), .unset, .unset, .unset, .unset, .unset, .unset, .unset, .unset] [(.ref b)])
        refine own_go (fun tz kz => XS.dup X13.here hx rfl (hb hby at_201) rfl rfl kz) ?_
        show own_Go p.tables e below _ T13 (mkF m 202 #[.val (.int p1), .val (.int p2), .val (.int p3), .val (.int p4), .val (.int p5), .val (.int p6), .val (.int r1), .val (.int r2), .val (.int r3), .val (.int (Int32.ofNat 3)), .val (.int rel), .val (.int md), .val (.int se), .val (.int pk), .val (.int dp), .unset, .unset, .unset, .unset, .unset, .unset, .unset, .unset] [(.ref b), (.ref b)])
        refine own_go (fun tz kz => XS.iconst X13.here hx rfl (hb hby at_202) kz) ?_
        show own_Go p.tables e below _ T13 (mkF m 203 #[.val (.int p1), .val (.int p2), .val (.int p3), .val (.int p4), .val (.int p5), .val (.int p6), .val (.int r1), .val (.int r2), .val (.int r3), .val (.int (Int32.ofNat 3)), .val (.int rel), .val (.int md), .val (.int se), .val (.int pk), .val (.int dp), .unset, .unset, .unset, .unset, .unset, .unset, .unset, .unset] [(.int (2 : Int32)), (.ref b), (.ref b)])
        refine own_go (fun tz kz => XS.iload X13.here hx rfl (hb hby at_203) rfl kz) ?_
        show own_Go p.tables e below _ T13 (mkF m 205 #[.val (.int p1), .val (.int p2), .val (.int p3), .val (.int p4), .val (.int p5), .val (.int p6), .val (.int r1), .val (.int r2), .val (.int r3), .val (.int (Int32.ofNat 3)), .val (.int rel), .val (.int md), .val (.int se), .val (.int pk), .val (.int dp), .unset, .unset, .unset, .unset, .unset, .unset, .unset, .unset] [(.int r3), (.int (2 : Int32)), (.ref b), (.ref b)])
        obtain ⟨c14, Ar14, Sz14, Ge14⟩ := id (V1)
        obtain ⟨T14, h14, X14, e14, W14, st14⟩ := stI X13 hx hZ e13 Ar14 (j := (2 : Int32)) (own_inb (i := 2) Sz14 ⟨by decide, by decide⟩ (by decide)) (g := (mkF m 205 #[.val (.int p1), .val (.int p2), .val (.int p3), .val (.int p4), .val (.int p5), .val (.int p6), .val (.int r1), .val (.int r2), .val (.int r3), .val (.int (Int32.ofNat 3)), .val (.int rel), .val (.int md), .val (.int se), .val (.int pk), .val (.int dp), .unset, .unset, .unset, .unset, .unset, .unset, .unset, .unset] [(.int r3), (.int (2 : Int32)), (.ref b), (.ref b)])) rfl rfl (hb hby at_205)
        have V2 := own_Av.set (V1) W14 (⟨by decide, by decide⟩ : ¬ (2 : Int32) < 0 ∧ ((2 : Int32)).toNatClampNeg = 2).2
        have N14 := Fr.snoc X14 N13 g_b
        refine own_go st14 ?_
        show own_Go p.tables e below _ T14 (mkF m 206 #[.val (.int p1), .val (.int p2), .val (.int p3), .val (.int p4), .val (.int p5), .val (.int p6), .val (.int r1), .val (.int r2), .val (.int r3), .val (.int (Int32.ofNat 3)), .val (.int rel), .val (.int md), .val (.int se), .val (.int pk), .val (.int dp), .unset, .unset, .unset, .unset, .unset, .unset, .unset, .unset] [(.ref b)])
        exact J206 T14 _ _ X14 e14 N14 (Nat.le_trans (Nat.le_trans (Nat.le_trans (Nat.le_trans Z0 E11.1) (Keep.of_wr W12).1) (Keep.of_wr W13).1) (Keep.of_wr W14).1) b g_b (own_Av.eq V2 (fun k hk => by rcases (by omega : k = 0 ∨ k = 1 ∨ k = 2) with rfl | rfl | rfl <;> rfl))
    by_cases m0 : md = (0 : Int32)
    ·
      refine own_go (fun tz kz => XS.ifNo X0.here hx rfl (hb hby at_90) rfl (XT.i0_ne_f m0) kz) ?_
      show own_Go p.tables e below _ s₁ (mkF m 93 #[.val (.int p1), .val (.int p2), .val (.int p3), .val (.int p4), .val (.int p5), .val (.int p6), .val (.int r1), .val (.int r2), .val (.int r3), .val (.int (Int32.ofNat n)), .val (.int rel), .val (.int md), .val (.int se), .val (.int pk), .unset, .unset, .unset, .unset, .unset, .unset, .unset, .unset, .unset] [])
      refine own_go (fun tz kz => XS.iload X0.here hx rfl (hb hby at_93) rfl kz) ?_
      show own_Go p.tables e below _ s₁ (mkF m 95 #[.val (.int p1), .val (.int p2), .val (.int p3), .val (.int p4), .val (.int p5), .val (.int p6), .val (.int r1), .val (.int r2), .val (.int r3), .val (.int (Int32.ofNat n)), .val (.int rel), .val (.int md), .val (.int se), .val (.int pk), .unset, .unset, .unset, .unset, .unset, .unset, .unset, .unset, .unset] [(.int p5)])
      refine own_go (fun tz kz => XS.istore X0.here hx rfl (hb hby at_95) rfl (l' := #[.val (.int p1), .val (.int p2), .val (.int p3), .val (.int p4), .val (.int p5), .val (.int p6), .val (.int r1), .val (.int r2), .val (.int r3), .val (.int (Int32.ofNat n)), .val (.int rel), .val (.int md), .val (.int se), .val (.int pk), .val (.int p5), .unset, .unset, .unset, .unset, .unset, .unset, .unset, .unset]) rfl kz) ?_
      show own_Go p.tables e below _ s₁ (mkF m 97 #[.val (.int p1), .val (.int p2), .val (.int p3), .val (.int p4), .val (.int p5), .val (.int p6), .val (.int r1), .val (.int r2), .val (.int r3), .val (.int (Int32.ofNat n)), .val (.int rel), .val (.int md), .val (.int se), .val (.int pk), .val (.int p5), .unset, .unset, .unset, .unset, .unset, .unset, .unset, .unset] [])
      refine own_go (fun tz kz => XS.goto X0.here hx rfl (pc0 := 97) (pc' := 138) rfl (hb hby at_97) (by decide) (by decide) kz) ?_
      show own_Go p.tables e below _ s₁ (mkF m 138 #[.val (.int p1), .val (.int p2), .val (.int p3), .val (.int p4), .val (.int p5), .val (.int p6), .val (.int r1), .val (.int r2), .val (.int r3), .val (.int (Int32.ofNat n)), .val (.int rel), .val (.int md), .val (.int se), .val (.int pk), .val (.int p5), .unset, .unset, .unset, .unset, .unset, .unset, .unset, .unset] [])
      exact J138 _
    ·
      refine own_go (fun tz kz => XS.ifYes X0.here hx rfl (pc0 := 90) (pc' := 100) rfl (hb hby at_90) rfl (XT.i0_ne_t m0) (by decide) (by decide) kz) ?_
      show own_Go p.tables e below _ s₁ (mkF m 100 #[.val (.int p1), .val (.int p2), .val (.int p3), .val (.int p4), .val (.int p5), .val (.int p6), .val (.int r1), .val (.int r2), .val (.int r3), .val (.int (Int32.ofNat n)), .val (.int rel), .val (.int md), .val (.int se), .val (.int pk), .unset, .unset, .unset, .unset, .unset, .unset, .unset, .unset, .unset] [])
      refine own_go (fun tz kz => XS.iload X0.here hx rfl (hb hby at_100) rfl kz) ?_
      show own_Go p.tables e below _ s₁ (mkF m 102 #[.val (.int p1), .val (.int p2), .val (.int p3), .val (.int p4), .val (.int p5), .val (.int p6), .val (.int r1), .val (.int r2), .val (.int r3), .val (.int (Int32.ofNat n)), .val (.int rel), .val (.int md), .val (.int se), .val (.int pk), .unset, .unset, .unset, .unset, .unset, .unset, .unset, .unset, .unset] [(.int md)])
      refine own_go (fun tz kz => XS.iconst X0.here hx rfl (hb hby at_102) kz) ?_
      show own_Go p.tables e below _ s₁ (mkF m 103 #[.val (.int p1), .val (.int p2), .val (.int p3), .val (.int p4), .val (.int p5), .val (.int p6), .val (.int r1), .val (.int r2), .val (.int r3), .val (.int (Int32.ofNat n)), .val (.int rel), .val (.int md), .val (.int se), .val (.int pk), .unset, .unset, .unset, .unset, .unset, .unset, .unset, .unset, .unset] [(.int (1 : Int32)), (.int md)])
      by_cases m1 : md = (1 : Int32)
      ·
        refine own_go (fun tz kz => XS.icmpNo X0.here hx rfl (hb hby at_103) rfl (XT.ii_ne_f m1) kz) ?_
        show own_Go p.tables e below _ s₁ (mkF m 106 #[.val (.int p1), .val (.int p2), .val (.int p3), .val (.int p4), .val (.int p5), .val (.int p6), .val (.int r1), .val (.int r2), .val (.int r3), .val (.int (Int32.ofNat n)), .val (.int rel), .val (.int md), .val (.int se), .val (.int pk), .unset, .unset, .unset, .unset, .unset, .unset, .unset, .unset, .unset] [])
        refine own_go (fun tz kz => XS.iload X0.here hx rfl (hb hby at_106) rfl kz) ?_
        show own_Go p.tables e below _ s₁ (mkF m 108 #[.val (.int p1), .val (.int p2), .val (.int p3), .val (.int p4), .val (.int p5), .val (.int p6), .val (.int r1), .val (.int r2), .val (.int r3), .val (.int (Int32.ofNat n)), .val (.int rel), .val (.int md), .val (.int se), .val (.int pk), .unset, .unset, .unset, .unset, .unset, .unset, .unset, .unset, .unset] [(.int p5)])
        refine own_go (fun tz kz => X0.ldcI hx hown (mvT hZ (hw _ (List.mem_of_getElem? (i := 33) rfl))) rfl (hb hby at_108) kz) ?_
        show own_Go p.tables e below _ s₁ (mkF m 110 #[.val (.int p1), .val (.int p2), .val (.int p3), .val (.int p4), .val (.int p5), .val (.int p6), .val (.int r1), .val (.int r2), .val (.int r3), .val (.int (Int32.ofNat n)), .val (.int rel), .val (.int md), .val (.int se), .val (.int pk), .unset, .unset, .unset, .unset, .unset, .unset, .unset, .unset, .unset] [(.int (4194303 : Int32)), (.int p5)])
        refine own_go (fun tz kz => XS.iand X0.here hx rfl (hb hby at_110) rfl kz) ?_
        show own_Go p.tables e below _ s₁ (mkF m 111 #[.val (.int p1), .val (.int p2), .val (.int p3), .val (.int p4), .val (.int p5), .val (.int p6), .val (.int r1), .val (.int r2), .val (.int r3), .val (.int (Int32.ofNat n)), .val (.int rel), .val (.int md), .val (.int se), .val (.int pk), .unset, .unset, .unset, .unset, .unset, .unset, .unset, .unset, .unset] [(.int (p5 &&& (4194303 : Int32)))])
        refine own_go (fun tz kz => XS.istore X0.here hx rfl (hb hby at_111) rfl (l' := #[.val (.int p1), .val (.int p2), .val (.int p3), .val (.int p4), .val (.int p5), .val (.int p6), .val (.int r1), .val (.int r2), .val (.int r3), .val (.int (Int32.ofNat n)), .val (.int rel), .val (.int md), .val (.int se), .val (.int pk), .val (.int (p5 &&& (4194303 : Int32))), .unset, .unset, .unset, .unset, .unset, .unset, .unset, .unset]) rfl kz) ?_
        show own_Go p.tables e below _ s₁ (mkF m 113 #[.val (.int p1), .val (.int p2), .val (.int p3), .val (.int p4), .val (.int p5), .val (.int p6), .val (.int r1), .val (.int r2), .val (.int r3), .val (.int (Int32.ofNat n)), .val (.int rel), .val (.int md), .val (.int se), .val (.int pk), .val (.int (p5 &&& (4194303 : Int32))), .unset, .unset, .unset, .unset, .unset, .unset, .unset, .unset] [])
        refine own_go (fun tz kz => XS.goto X0.here hx rfl (pc0 := 113) (pc' := 138) rfl (hb hby at_113) (by decide) (by decide) kz) ?_
        show own_Go p.tables e below _ s₁ (mkF m 138 #[.val (.int p1), .val (.int p2), .val (.int p3), .val (.int p4), .val (.int p5), .val (.int p6), .val (.int r1), .val (.int r2), .val (.int r3), .val (.int (Int32.ofNat n)), .val (.int rel), .val (.int md), .val (.int se), .val (.int pk), .val (.int (p5 &&& (4194303 : Int32))), .unset, .unset, .unset, .unset, .unset, .unset, .unset, .unset] [])
        exact J138 _
      ·
        refine own_go (fun tz kz => XS.icmpYes X0.here hx rfl (pc0 := 103) (pc' := 116) rfl (hb hby at_103) rfl (XT.ii_ne_t m1) (by decide) (by decide) kz) ?_
        show own_Go p.tables e below _ s₁ (mkF m 116 #[.val (.int p1), .val (.int p2), .val (.int p3), .val (.int p4), .val (.int p5), .val (.int p6), .val (.int r1), .val (.int r2), .val (.int r3), .val (.int (Int32.ofNat n)), .val (.int rel), .val (.int md), .val (.int se), .val (.int pk), .unset, .unset, .unset, .unset, .unset, .unset, .unset, .unset, .unset] [])
        refine own_go (fun tz kz => XS.iload X0.here hx rfl (hb hby at_116) rfl kz) ?_
        show own_Go p.tables e below _ s₁ (mkF m 118 #[.val (.int p1), .val (.int p2), .val (.int p3), .val (.int p4), .val (.int p5), .val (.int p6), .val (.int r1), .val (.int r2), .val (.int r3), .val (.int (Int32.ofNat n)), .val (.int rel), .val (.int md), .val (.int se), .val (.int pk), .unset, .unset, .unset, .unset, .unset, .unset, .unset, .unset, .unset] [(.int md)])
        refine own_go (fun tz kz => XS.iconst X0.here hx rfl (hb hby at_118) kz) ?_
        show own_Go p.tables e below _ s₁ (mkF m 119 #[.val (.int p1), .val (.int p2), .val (.int p3), .val (.int p4), .val (.int p5), .val (.int p6), .val (.int r1), .val (.int r2), .val (.int r3), .val (.int (Int32.ofNat n)), .val (.int rel), .val (.int md), .val (.int se), .val (.int pk), .unset, .unset, .unset, .unset, .unset, .unset, .unset, .unset, .unset] [(.int (2 : Int32)), (.int md)])
        by_cases m2 : md = (2 : Int32)
        ·
          refine own_go (fun tz kz => XS.icmpNo X0.here hx rfl (hb hby at_119) rfl (XT.ii_ne_f m2) kz) ?_
          show own_Go p.tables e below _ s₁ (mkF m 122 #[.val (.int p1), .val (.int p2), .val (.int p3), .val (.int p4), .val (.int p5), .val (.int p6), .val (.int r1), .val (.int r2), .val (.int r3), .val (.int (Int32.ofNat n)), .val (.int rel), .val (.int md), .val (.int se), .val (.int pk), .unset, .unset, .unset, .unset, .unset, .unset, .unset, .unset, .unset] [])
          refine own_go (fun tz kz => XS.iload X0.here hx rfl (hb hby at_122) rfl kz) ?_
          show own_Go p.tables e below _ s₁ (mkF m 124 #[.val (.int p1), .val (.int p2), .val (.int p3), .val (.int p4), .val (.int p5), .val (.int p6), .val (.int r1), .val (.int r2), .val (.int r3), .val (.int (Int32.ofNat n)), .val (.int rel), .val (.int md), .val (.int se), .val (.int pk), .unset, .unset, .unset, .unset, .unset, .unset, .unset, .unset, .unset] [(.int pk)])
          refine own_go (fun tz kz => XS.iload X0.here hx rfl (hb hby at_124) rfl kz) ?_
          show own_Go p.tables e below _ s₁ (mkF m 126 #[.val (.int p1), .val (.int p2), .val (.int p3), .val (.int p4), .val (.int p5), .val (.int p6), .val (.int r1), .val (.int r2), .val (.int r3), .val (.int (Int32.ofNat n)), .val (.int rel), .val (.int md), .val (.int se), .val (.int pk), .unset, .unset, .unset, .unset, .unset, .unset, .unset, .unset, .unset] [(.int p5), (.int pk)])
          refine own_go (fun tz kz => XS.iconst X0.here hx rfl (hb hby at_126) kz) ?_
          show own_Go p.tables e below _ s₁ (mkF m 127 #[.val (.int p1), .val (.int p2), .val (.int p3), .val (.int p4), .val (.int p5), .val (.int p6), .val (.int r1), .val (.int r2), .val (.int r3), .val (.int (Int32.ofNat n)), .val (.int rel), .val (.int md), .val (.int se), .val (.int pk), .unset, .unset, .unset, .unset, .unset, .unset, .unset, .unset, .unset] [(.int (2 : Int32)), (.int p5), (.int pk)])
          refine own_go (fun tz kz => iremM X0 hx rfl (hb hby at_127) rfl (by decide) kz) ?_
          show own_Go p.tables e below _ s₁ (mkF m 128 #[.val (.int p1), .val (.int p2), .val (.int p3), .val (.int p4), .val (.int p5), .val (.int p6), .val (.int r1), .val (.int r2), .val (.int r3), .val (.int (Int32.ofNat n)), .val (.int rel), .val (.int md), .val (.int se), .val (.int pk), .unset, .unset, .unset, .unset, .unset, .unset, .unset, .unset, .unset] [(.int (p5 % (2 : Int32))), (.int pk)])
          refine own_go (fun tz kz => XS.iadd X0.here hx rfl (hb hby at_128) rfl kz) ?_
          show own_Go p.tables e below _ s₁ (mkF m 129 #[.val (.int p1), .val (.int p2), .val (.int p3), .val (.int p4), .val (.int p5), .val (.int p6), .val (.int r1), .val (.int r2), .val (.int r3), .val (.int (Int32.ofNat n)), .val (.int rel), .val (.int md), .val (.int se), .val (.int pk), .unset, .unset, .unset, .unset, .unset, .unset, .unset, .unset, .unset] [(.int (pk + (p5 % (2 : Int32))))])
          refine own_go (fun tz kz => XS.istore X0.here hx rfl (hb hby at_129) rfl (l' := #[.val (.int p1), .val (.int p2), .val (.int p3), .val (.int p4), .val (.int p5), .val (.int p6), .val (.int r1), .val (.int r2), .val (.int r3), .val (.int (Int32.ofNat n)), .val (.int rel), .val (.int md), .val (.int se), .val (.int pk), .val (.int (pk + (p5 % (2 : Int32)))), .unset, .unset, .unset, .unset, .unset, .unset, .unset, .unset]) rfl kz) ?_
          show own_Go p.tables e below _ s₁ (mkF m 131 #[.val (.int p1), .val (.int p2), .val (.int p3), .val (.int p4), .val (.int p5), .val (.int p6), .val (.int r1), .val (.int r2), .val (.int r3), .val (.int (Int32.ofNat n)), .val (.int rel), .val (.int md), .val (.int se), .val (.int pk), .val (.int (pk + (p5 % (2 : Int32)))), .unset, .unset, .unset, .unset, .unset, .unset, .unset, .unset] [])
          refine own_go (fun tz kz => XS.goto X0.here hx rfl (pc0 := 131) (pc' := 138) rfl (hb hby at_131) (by decide) (by decide) kz) ?_
          show own_Go p.tables e below _ s₁ (mkF m 138 #[.val (.int p1), .val (.int p2), .val (.int p3), .val (.int p4), .val (.int p5), .val (.int p6), .val (.int r1), .val (.int r2), .val (.int r3), .val (.int (Int32.ofNat n)), .val (.int rel), .val (.int md), .val (.int se), .val (.int pk), .val (.int (pk + (p5 % (2 : Int32)))), .unset, .unset, .unset, .unset, .unset, .unset, .unset, .unset] [])
          exact J138 _
        ·
          refine own_go (fun tz kz => XS.icmpYes X0.here hx rfl (pc0 := 119) (pc' := 134) rfl (hb hby at_119) rfl (XT.ii_ne_t m2) (by decide) (by decide) kz) ?_
          show own_Go p.tables e below _ s₁ (mkF m 134 #[.val (.int p1), .val (.int p2), .val (.int p3), .val (.int p4), .val (.int p5), .val (.int p6), .val (.int r1), .val (.int r2), .val (.int r3), .val (.int (Int32.ofNat n)), .val (.int rel), .val (.int md), .val (.int se), .val (.int pk), .unset, .unset, .unset, .unset, .unset, .unset, .unset, .unset, .unset] [])
          refine own_go (fun tz kz => X0.ldcI hx hown (mvT hZ (hw _ (List.mem_of_getElem? (i := 30) rfl))) rfl (hb hby at_134) kz) ?_
          show own_Go p.tables e below _ s₁ (mkF m 136 #[.val (.int p1), .val (.int p2), .val (.int p3), .val (.int p4), .val (.int p5), .val (.int p6), .val (.int r1), .val (.int r2), .val (.int r3), .val (.int (Int32.ofNat n)), .val (.int rel), .val (.int md), .val (.int se), .val (.int pk), .unset, .unset, .unset, .unset, .unset, .unset, .unset, .unset, .unset] [(.int (2147483647 : Int32))])
          refine own_go (fun tz kz => XS.istore X0.here hx rfl (hb hby at_136) rfl (l' := #[.val (.int p1), .val (.int p2), .val (.int p3), .val (.int p4), .val (.int p5), .val (.int p6), .val (.int r1), .val (.int r2), .val (.int r3), .val (.int (Int32.ofNat n)), .val (.int rel), .val (.int md), .val (.int se), .val (.int pk), .val (.int (2147483647 : Int32)), .unset, .unset, .unset, .unset, .unset, .unset, .unset, .unset]) rfl kz) ?_
          show own_Go p.tables e below _ s₁ (mkF m 138 #[.val (.int p1), .val (.int p2), .val (.int p3), .val (.int p4), .val (.int p5), .val (.int p6), .val (.int r1), .val (.int r2), .val (.int r3), .val (.int (Int32.ofNat n)), .val (.int rel), .val (.int md), .val (.int se), .val (.int pk), .val (.int (2147483647 : Int32)), .unset, .unset, .unset, .unset, .unset, .unset, .unset, .unset] [])
          exact J138 _
  by_cases e0' : se = (0 : Int32)
  ·
    refine own_go (fun tz kz => XS.ifNo X0.here hx rfl (hb hby at_65) rfl (XT.i0_ne_f e0') kz) ?_
    show own_Go p.tables e below _ s₁ (mkF m 68 #[.val (.int p1), .val (.int p2), .val (.int p3), .val (.int p4), .val (.int p5), .val (.int p6), .val (.int r1), .val (.int r2), .val (.int r3), .val (.int (Int32.ofNat n)), .val (.int rel), .val (.int md), .val (.int se), .unset, .unset, .unset, .unset, .unset, .unset, .unset, .unset, .unset, .unset] [])
    refine own_go (fun tz kz => XS.iload X0.here hx rfl (hb hby at_68) rfl kz) ?_
    show own_Go p.tables e below _ s₁ (mkF m 70 #[.val (.int p1), .val (.int p2), .val (.int p3), .val (.int p4), .val (.int p5), .val (.int p6), .val (.int r1), .val (.int r2), .val (.int r3), .val (.int (Int32.ofNat n)), .val (.int rel), .val (.int md), .val (.int se), .unset, .unset, .unset, .unset, .unset, .unset, .unset, .unset, .unset, .unset] [(.int r1)])
    refine own_go (fun tz kz => XS.goto X0.here hx rfl (pc0 := 70) (pc' := 86) rfl (hb hby at_70) (by decide) (by decide) kz) ?_
    show own_Go p.tables e below _ s₁ (mkF m 86 #[.val (.int p1), .val (.int p2), .val (.int p3), .val (.int p4), .val (.int p5), .val (.int p6), .val (.int r1), .val (.int r2), .val (.int r3), .val (.int (Int32.ofNat n)), .val (.int rel), .val (.int md), .val (.int se), .unset, .unset, .unset, .unset, .unset, .unset, .unset, .unset, .unset, .unset] [(.int r1)])
    exact J86 _
  ·
    refine own_go (fun tz kz => XS.ifYes X0.here hx rfl (pc0 := 65) (pc' := 73) rfl (hb hby at_65) rfl (XT.i0_ne_t e0') (by decide) (by decide) kz) ?_
    show own_Go p.tables e below _ s₁ (mkF m 73 #[.val (.int p1), .val (.int p2), .val (.int p3), .val (.int p4), .val (.int p5), .val (.int p6), .val (.int r1), .val (.int r2), .val (.int r3), .val (.int (Int32.ofNat n)), .val (.int rel), .val (.int md), .val (.int se), .unset, .unset, .unset, .unset, .unset, .unset, .unset, .unset, .unset, .unset] [])
    refine own_go (fun tz kz => XS.iload X0.here hx rfl (hb hby at_73) rfl kz) ?_
    show own_Go p.tables e below _ s₁ (mkF m 75 #[.val (.int p1), .val (.int p2), .val (.int p3), .val (.int p4), .val (.int p5), .val (.int p6), .val (.int r1), .val (.int r2), .val (.int r3), .val (.int (Int32.ofNat n)), .val (.int rel), .val (.int md), .val (.int se), .unset, .unset, .unset, .unset, .unset, .unset, .unset, .unset, .unset, .unset] [(.int se)])
    refine own_go (fun tz kz => XS.iconst X0.here hx rfl (hb hby at_75) kz) ?_
    show own_Go p.tables e below _ s₁ (mkF m 76 #[.val (.int p1), .val (.int p2), .val (.int p3), .val (.int p4), .val (.int p5), .val (.int p6), .val (.int r1), .val (.int r2), .val (.int r3), .val (.int (Int32.ofNat n)), .val (.int rel), .val (.int md), .val (.int se), .unset, .unset, .unset, .unset, .unset, .unset, .unset, .unset, .unset, .unset] [(.int (1 : Int32)), (.int se)])
    by_cases e1' : se = (1 : Int32)
    ·
      refine own_go (fun tz kz => XS.icmpNo X0.here hx rfl (hb hby at_76) rfl (XT.ii_ne_f e1') kz) ?_
      show own_Go p.tables e below _ s₁ (mkF m 79 #[.val (.int p1), .val (.int p2), .val (.int p3), .val (.int p4), .val (.int p5), .val (.int p6), .val (.int r1), .val (.int r2), .val (.int r3), .val (.int (Int32.ofNat n)), .val (.int rel), .val (.int md), .val (.int se), .unset, .unset, .unset, .unset, .unset, .unset, .unset, .unset, .unset, .unset] [])
      refine own_go (fun tz kz => XS.iload X0.here hx rfl (hb hby at_79) rfl kz) ?_
      show own_Go p.tables e below _ s₁ (mkF m 81 #[.val (.int p1), .val (.int p2), .val (.int p3), .val (.int p4), .val (.int p5), .val (.int p6), .val (.int r1), .val (.int r2), .val (.int r3), .val (.int (Int32.ofNat n)), .val (.int rel), .val (.int md), .val (.int se), .unset, .unset, .unset, .unset, .unset, .unset, .unset, .unset, .unset, .unset] [(.int r2)])
      refine own_go (fun tz kz => XS.goto X0.here hx rfl (pc0 := 81) (pc' := 86) rfl (hb hby at_81) (by decide) (by decide) kz) ?_
      show own_Go p.tables e below _ s₁ (mkF m 86 #[.val (.int p1), .val (.int p2), .val (.int p3), .val (.int p4), .val (.int p5), .val (.int p6), .val (.int r1), .val (.int r2), .val (.int r3), .val (.int (Int32.ofNat n)), .val (.int rel), .val (.int md), .val (.int se), .unset, .unset, .unset, .unset, .unset, .unset, .unset, .unset, .unset, .unset] [(.int r2)])
      exact J86 _
    ·
      refine own_go (fun tz kz => XS.icmpYes X0.here hx rfl (pc0 := 76) (pc' := 84) rfl (hb hby at_76) rfl (XT.ii_ne_t e1') (by decide) (by decide) kz) ?_
      show own_Go p.tables e below _ s₁ (mkF m 84 #[.val (.int p1), .val (.int p2), .val (.int p3), .val (.int p4), .val (.int p5), .val (.int p6), .val (.int r1), .val (.int r2), .val (.int r3), .val (.int (Int32.ofNat n)), .val (.int rel), .val (.int md), .val (.int se), .unset, .unset, .unset, .unset, .unset, .unset, .unset, .unset, .unset, .unset] [])
      refine own_go (fun tz kz => XS.iload X0.here hx rfl (hb hby at_84) rfl kz) ?_
      show own_Go p.tables e below _ s₁ (mkF m 86 #[.val (.int p1), .val (.int p2), .val (.int p3), .val (.int p4), .val (.int p5), .val (.int p6), .val (.int r1), .val (.int r2), .val (.int r3), .val (.int (Int32.ofNat n)), .val (.int rel), .val (.int md), .val (.int se), .unset, .unset, .unset, .unset, .unset, .unset, .unset, .unset, .unset, .unset] [(.int r3)])
      exact J86 _
set_option maxRecDepth 65536 in
set_option maxHeartbeats 40000000 in
theorem comes_1 {Post : Tables → Env → Array Value → State → Outcome → State → Prop} (hpost : ∀ tb e args s v u, (limb_1_1.after args s (.returned v) u = true ∧ limb_1_2.after args s (.returned v) u = true ∧ True) → FrameEnd s (.returned v) u (Jvm.fieldLocs frame_1_writes args s ++ Jvm.arrayLocs frame_1_arrays args s ++ Jvm.staticLocs frame_1_statics s) 16 128 → Post tb e args s (.returned v) u) :
    ArmFor flags0 classFile x code maxLocals ret World_1 tables_1 room_1 Calls_1 rest_1 Pre_1 Post := by
  intro l hfl _ _ p e ha hc hk s m args below hf hA hF happ hP
  obtain ⟨hcalls, hrest, hpre⟩ := hP
  obtain ⟨-, -, -, hnamed, -, -, -, hat⟩ := (Spec.applies_iff hf).mp happ
  obtain ⟨hg, hn⟩ := and_e (Cond.before_iff.mp (show (Jvm.Cond.and given_1 narrow_1).before args s = true from hpre))
  obtain ⟨gc, ga0⟩ := and_e hg
  obtain ⟨gv0, ga1⟩ := and_e ga0
  obtain ⟨gv1, ga2⟩ := and_e ga1
  obtain ⟨gv2, ga3⟩ := and_e ga2
  obtain ⟨gv3, ga4⟩ := and_e ga3
  obtain ⟨gv4, ga5⟩ := and_e ga4
  have gv5 := ga5
  obtain ⟨w0, w1, w2, w3, w4, w5, rfl⟩ : ∃ w0 w1 w2 w3 w4 w5 : Value, args = #[w0, w1, w2, w3, w4, w5] := by
    have hs : args.size = 6 := by simpa [Cond.value, given_1] using gc
    obtain ⟨L⟩ := args
    match L, hs with
    | [w0, w1, w2, w3, w4, w5], _ => exact ⟨w0, w1, w2, w3, w4, w5, rfl⟩
  have hw := fun d (hd : d ∈ tables_1) => atoms_spec (ws := Jvm.Cond.code x code maxLocals ret :: tables_1) hat d (List.mem_cons_of_mem _ hd)
  have hfit : Fit s := fun {y c} hc i hi => by
    obtain ⟨ha, rfl⟩ := Array.getElem?_eq_some_iff.mp hc
    have q := List.all_eq_true.mp ((Array.all_eq_true_iff_forall_mem.mp hF) _ (Array.getElem_mem ha)) i (List.mem_range.mpr hi)
    simpa [Array.getElem?_eq_getElem hi] using q
  obtain ⟨i0, ei0⟩ := is_v gv0
  obtain rfl : w0 = (.int i0) := Option.some.inj ei0
  obtain ⟨i1, ei1⟩ := is_v gv1
  obtain rfl : w1 = (.int i1) := Option.some.inj ei1
  obtain ⟨i2, ei2⟩ := is_v gv2
  obtain rfl : w2 = (.int i2) := Option.some.inj ei2
  obtain ⟨i3, ei3⟩ := is_v gv3
  obtain rfl : w3 = (.int i3) := Option.some.inj ei3
  obtain ⟨i4, ei4⟩ := is_v gv4
  obtain rfl : w4 = (.int i4) := Option.some.inj ei4
  obtain ⟨i5, ei5⟩ := is_v gv5
  obtain rfl : w5 = (.int i5) := Option.some.inj ei5
  obtain ⟨n, o, h1, h2, h3, _, L, rfl, ⟨rfl, N⟩, hq⟩ := rm0 l s _ hw tables_1 i0 i1 i2 i3 i4 i5  s.heap s.heap.size (Nat.le_refl _)  p e ha hc hk s m _ below hf ((Spec.applies_iff_loose hf).mp happ).1 ⟨rfl, State.Warmed39.refl s, rfl⟩ trivial
  exact ⟨n, _, h1, h2, h3, hpost _ _ _ _ _ _ ⟨Cond.after_iff.mpr rfl, Cond.after_iff.mpr (eq_i res_at (Term.int_eval (1)) rfl), trivial⟩ ⟨hq.1, hq.2.1, (hq.2.2.sift fun y hy => Or.inr (N y hy)).mono (by decide) (by decide)⟩⟩
theorem main_1_1 : Claimed_1_1 := comes_1 fun _ _ _ _ _ _ h hF => ⟨h.1, hF⟩
theorem main_1_2 : Claimed_1_2 := comes_1 fun _ _ _ _ _ _ h hF => ⟨h.2.1, hF⟩
end Jvm.Pilot.@@N@@
namespace Jvm.Pilot.@@N@@
open Jvm Jvm.ClassFile Sem Op Lib Jvm.Free Jvm.Stand Jvm.Pilot.@@N@@.Jvm.D
/-! MADE BY PROGRAM (witnessworld.py) out of the Statement's table words and the real class files: 10 classes; the members and pool entries that the words name. The judged class is class 1, her method 1. -/
namespace start1
open Jvm.ClassFile
def u (s : String) : CpInfo := .utf8 (stringToUtf16 s)
/-- a pool by its gaps: so many unusable entries, then the entry; so many at the end -/
def gap : Nat → List CpInfo → List CpInfo
  | 0, r => r
  | n + 1, r => .unusable :: gap n r
def poolList (es : List (Nat × CpInfo)) (last : Nat) : List CpInfo := es.foldr (fun e r => gap e.1 (e.2 :: r)) (gap last [])
def pool (es : List (Nat × CpInfo)) (last : Nat) : Array CpInfo := ⟨poolList es last⟩
def fileOf (pool : Array CpInfo) (this : Nat) (attrs : Array Attribute := #[]) (ms : Array MethodInfo := #[]) (fl : Nat := 33) (sup : Nat := 0) (ifs : Array Nat := #[]) (fds : Array FieldInfo := #[]) : ClassFile where
  minorVersion := 0
  majorVersion := 65
  constantPool := pool
  accessFlags := fl
  thisClass := this
  superClass := sup
  interfaces := ifs
  fields := fds
  methods := ms
  attributes := attrs
def plain (name : String) (sup : Option ClassId) : Class where
  name := name
  kind := .ordinary
  loader := none
  accessFlags := 33
  super := sup
  interfaces := #[]
  cf := none
  fields := #[]
  methods := #[]
  instanceTypes := #[]
  staticTypes := #[]
  resolved := #[]
  callSites := []
  init := .initialized
  statics := none
  mirror := none

def pool0 : Array CpInfo := pool [(5, u "<init>"), (0, u "()V"), (1, .class_ 10), (1, u "java/lang/Object")] 113

def k0c0 : Code := { maxStack := 0, maxLocals := 1, code := object_method_1_code, exceptionTable := #[], attributes := #[] }
def k0m0 : Method := { name := "<init>", desc := "()V", sig := { parameters := [], returnType := none }, accessFlags := 1, code := some k0c0 }
/-- java/lang/Object -/
def k0 : Class := { plain "java/lang/Object" none with
  accessFlags := 33
  interfaces := #[]
  cf := some (fileOf pool0 8 #[] #[{ accessFlags := 1, nameIndex := 5, descriptorIndex := 6, attributes := #[] }] 33 0 #[] #[])
  fields := #[]
  methods := #[k0m0]
  instanceTypes := #[]
  staticTypes := #[]
  resolved := Array.replicate 124 none
  statics := none }

def pool1 : Array CpInfo := pool [(2, .class_ 4), (1, u "java/lang/Object"), (0, u "<init>"), (0, u "()V"), (0, .integer 1048575), (0, .integer 4194303), (0, .class_ 10), (0, u "com/example/chalk_outline/chalkoutline/Placement"), (0, .integer 2147483647), (0, .methodref 9 13), (0, .nameAndType 5 14), (0, u "([II)V"), (0, .methodref 9 16), (0, .nameAndType 17 18), (0, u "averagePrecision"), (0, u "(I)D"), (0, .double 4611686018427387904), (1, .double 4613937818241073152), (1, .class_ 24), (0, u "com/example/chalk_outline/chalkoutline/PlacementAveragePrecisionPinLaw"), (2, u "law"), (0, u "(IIIIII)Z")] 5

def k1m0 : Method := { name := "<init>", desc := "()V", sig := { parameters := [], returnType := none }, accessFlags := 1, code := none }
def k1c1 : Code := { maxStack := 6, maxLocals := 23, code := code, exceptionTable := #[], attributes := #[] }
def k1m1 : Method := { name := "law", desc := "(IIIIII)Z", sig := { parameters := [.int, .int, .int, .int, .int, .int], returnType := some .boolean }, accessFlags := 9, code := some k1c1 }
/-- com/example/chalk_outline/chalkoutline/PlacementAveragePrecisionPinLaw -/
def k1 : Class := { plain "com/example/chalk_outline/chalkoutline/PlacementAveragePrecisionPinLaw" (some 0) with
  accessFlags := 49
  interfaces := #[]
  cf := some (fileOf pool1 23 #[] #[{ accessFlags := 1, nameIndex := 5, descriptorIndex := 6, attributes := #[] }, { accessFlags := 9, nameIndex := 27, descriptorIndex := 28, attributes := #[] }] 49 2 #[] #[])
  fields := #[]
  methods := #[k1m0, k1m1]
  instanceTypes := #[]
  staticTypes := #[]
  resolved := Array.replicate 34 none
  statics := none }

def pool2 : Array CpInfo := pool [(1, .methodref 2 3), (0, .class_ 4), (0, .nameAndType 5 6), (0, u "java/lang/Object"), (0, u "<init>"), (0, u "()V"), (0, .class_ 8), (0, u "java/lang/Record")] 13

def k2c0 : Code := { maxStack := 1, maxLocals := 1, code := jdk_30_method_1_code, exceptionTable := #[], attributes := #[] }
def k2m0 : Method := { name := "<init>", desc := "()V", sig := { parameters := [], returnType := none }, accessFlags := 4, code := some k2c0 }
/-- java/lang/Record -/
def k2 : Class := { plain "java/lang/Record" (some 0) with
  accessFlags := 1057
  interfaces := #[]
  cf := some (fileOf pool2 7 #[] #[{ accessFlags := 4, nameIndex := 5, descriptorIndex := 6, attributes := #[] }] 1057 2 #[] #[])
  fields := #[]
  methods := #[k2m0]
  instanceTypes := #[]
  staticTypes := #[]
  resolved := Array.replicate 22 none
  statics := none }

def pool3 : Array CpInfo := pool [(3, .methodref 4 5), (0, .class_ 6), (0, .nameAndType 7 8), (0, u "java/lang/Record"), (0, u "<init>"), (0, u "()V"), (0, .fieldref 10 11), (0, .class_ 12), (0, .nameAndType 13 14), (0, u "com/example/chalk_outline/chalkoutline/Placement"), (0, u "ranks"), (0, u "[I"), (0, .fieldref 10 16), (0, .nameAndType 17 18), (0, u "relevant"), (0, u "I"), (25, u "([II)V"), (0, .methodref 10 46), (0, .nameAndType 47 48), (0, u "found"), (0, u "(I)I"), (12, u "ALL"), (12, u "averagePrecision"), (0, u "(I)D")] 26

def k3c0 : Code := { maxStack := 2, maxLocals := 3, code := prog_11_method_1_code, exceptionTable := #[], attributes := #[] }
def k3m0 : Method := { name := "<init>", desc := "([II)V", sig := { parameters := [(.array .int), .int], returnType := none }, accessFlags := 0, code := some k3c0 }
def k3c1 : Code := { maxStack := 2, maxLocals := 3, code := prog_11_method_4_code, exceptionTable := #[], attributes := #[] }
def k3m1 : Method := { name := "found", desc := "(I)I", sig := { parameters := [.int], returnType := some .int }, accessFlags := 0, code := some k3c1 }
def k3c2 : Code := { maxStack := 6, maxLocals := 6, code := prog_11_method_5_code, exceptionTable := #[], attributes := #[] }
def k3m2 : Method := { name := "averagePrecision", desc := "(I)D", sig := { parameters := [.int], returnType := some .double }, accessFlags := 0, code := some k3c2 }
/-- com/example/chalk_outline/chalkoutline/Placement -/
def k3 : Class := { plain "com/example/chalk_outline/chalkoutline/Placement" (some 2) with
  accessFlags := 48
  interfaces := #[]
  cf := some (fileOf pool3 10 #[] #[{ accessFlags := 0, nameIndex := 7, descriptorIndex := 44, attributes := #[] }, { accessFlags := 0, nameIndex := 47, descriptorIndex := 48, attributes := #[] }, { accessFlags := 0, nameIndex := 74, descriptorIndex := 75, attributes := #[] }] 48 4 #[] #[{ accessFlags := 18, nameIndex := 13, descriptorIndex := 14, attributes := #[] }, { accessFlags := 18, nameIndex := 17, descriptorIndex := 18, attributes := #[] }, { accessFlags := 24, nameIndex := 61, descriptorIndex := 18, attributes := #[] }])
  fields := #[{ name := "ranks", type := (.array .int), accessFlags := 18, slot := 0, constantValue := 0 }, { name := "relevant", type := .int, accessFlags := 18, slot := 1, constantValue := 0 }, { name := "ALL", type := .int, accessFlags := 24, slot := 0, constantValue := 0 }]
  methods := #[k3m0, k3m1, k3m2]
  instanceTypes := #[(.array .int), .int]
  staticTypes := #[.int]
  resolved := Array.replicate 102 none
  statics := none }

def pool4 : Array CpInfo := pool [(1, u "java/lang/Cloneable"), (0, .class_ 1), (0, u "java/lang/Object"), (0, .class_ 3)] 3

/-- java/lang/Cloneable -/
def k4 : Class := { plain "java/lang/Cloneable" (some 0) with
  accessFlags := 1537
  interfaces := #[]
  cf := some (fileOf pool4 2 #[] #[] 1537 4 #[] #[])
  fields := #[]
  methods := #[]
  instanceTypes := #[]
  staticTypes := #[]
  resolved := Array.replicate 8 none
  statics := none }

def pool5 : Array CpInfo := pool [(1, u "java/io/Serializable"), (0, .class_ 1), (0, u "java/lang/Object"), (0, .class_ 3)] 3

/-- java/io/Serializable -/
def k5 : Class := { plain "java/io/Serializable" (some 0) with
  accessFlags := 1537
  interfaces := #[]
  cf := some (fileOf pool5 2 #[] #[] 1537 4 #[] #[])
  fields := #[]
  methods := #[]
  instanceTypes := #[]
  staticTypes := #[]
  resolved := Array.replicate 8 none
  statics := none }

/-- the primitive byte -/
def k6 : Class := { plain "byte" none with kind := .primitive 'B', accessFlags := 0x411 }
/-- [B -/
def k7 : Class := { plain "[B" (some 0) with kind := .array 6 .byte, interfaces := #[4, 5], accessFlags := 1041 }

/-- the primitive int -/
def k8 : Class := { plain "int" none with kind := .primitive 'I', accessFlags := 0x411 }
/-- [I -/
def k9 : Class := { plain "[I" (some 0) with kind := .array 8 .int, interfaces := #[4, 5], accessFlags := 1041 }

def heap : Heap := #[]
def classes : Array Class := #[k0, k1, k2, k3, k4, k5, k6, k7, k8, k9]
def interned : List (Array UInt16 × Addr) := []
def slotsUsed : Nat := 0
def theMethod : MethodId := ⟨1, 1⟩
def args0 : Array Value := #[.int 5, .int 300, .int 7, .int 1, .int 2, .int 3]
def aboutOver (below : List Frame) : State where
  vm := { classes := classes, interned := interned.toArray }
  heap := heap
  slotsUsed := slotsUsed
  threads := #[{ frames := .invoking theMethod args0 :: below }]
def below0 : List Frame := [.native { method := ⟨0, 0⟩, args := #[] }]
def about1 : State := aboutOver below0
def p0 : Program := .bare "" "" ""
def e0 : Env := launch0.env 0 0 0
theorem w_frames : about1.frames = Frame.invoking theMethod args0 :: below0 := rfl
set_option maxRecDepth 65536 in
theorem w_args : argsFit about1.vm theMethod args0 = true := by decide +kernel
set_option maxRecDepth 65536 in
theorem w_heap : heapFits about1 = true := by decide +kernel
set_option maxRecDepth 65536 in
theorem w_runnable : about1.curStatus? = some .runnable := by decide +kernel
set_option maxRecDepth 65536 in
theorem w_alone : about1.alone = true := by decide +kernel
set_option maxRecDepth 65536 in
theorem w_named : about1.methodNamed? x = some theMethod := by decide +kernel
set_option maxRecDepth 65536 in
theorem w_hears : about1.hears theMethod below0 = true := by decide +kernel
set_option maxRecDepth 65536 in
theorem w_ripe : about1.ripe theMethod args0 below0 = true := by decide +kernel
theorem w_running : about1.status = .running := rfl
set_option maxRecDepth 65536 in
theorem w_room : about1.hasRoom e0.platform room_1 = true :=
  launch0.hasRoom_least _ room_1 (by decide +kernel) (by decide +kernel) (by decide +kernel) (by decide +kernel) (by decide +kernel) (by decide +kernel)
theorem allAtoms_all (ts : List Jvm.Cond) (a : Array Jvm.Value) (st : Jvm.State) : (allAtoms ts).before a st = ts.all (fun c => c.before a st) := by
  induction ts with
  | nil => rfl
  | cons c t ih =>
    show (Jvm.Cond.and c (allAtoms t)).before a st = _
    rw [Jvm.Cond.before_and, ih, List.all_cons]
def words1 : List Jvm.Cond := Jvm.Cond.code x code maxLocals ret :: tables_1
/-- a 'code' word, met by the world's own term for the bytes: nothing is compared byte by byte -/
theorem code_word {y : MethodName} {bytes : ByteArray} {mx : Nat} {rt : Option FieldType} {a : Array Value} {s : State} {m : MethodId} {meth : Method} {c : Code} (h1 : s.methodNamed? y = some m) (h2 : s.vm.method? m = some meth) (h3 : meth.code = some c) (h4 : c.code = bytes)
    (h5 : (c.maxLocals == mx && c.exceptionTable.isEmpty && decide (c.maxStack ≤ mostOperands) && decide (meth.sig.returnType = rt) && !meth.locks && decide (parseMethodDescriptor y.desc = some meth.sig)) = true) : (Jvm.Cond.code y bytes mx rt).before a s = true := by
  simp only [Bool.and_eq_true, beq_iff_eq, Bool.not_eq_true', decide_eq_true_eq] at h5
  obtain ⟨⟨⟨⟨⟨g1, g2⟩, g3⟩, g4⟩, g5⟩, g6⟩ := h5
  simp [Cond.before, Cond.holds, Cond.value, h1, h2, h3, h4, g1, g2, g3, g4, g5, g6]
def isCode : Jvm.Cond → Bool
  | .code _ _ _ _ => true
  | _ => false
theorem all_split {L : List Jvm.Cond} {P : Jvm.Cond → Bool} (h1 : L.all (fun c => isCode c || P c) = true) (h2 : ∀ c ∈ L.filter isCode, P c = true) : L.all P = true := by
  refine List.all_eq_true.mpr fun c hc => ?_
  have h := List.all_eq_true.mp h1 c hc
  rcases Bool.eq_false_or_eq_true (isCode c) with hi | hi
  · exact h2 c (List.mem_filter.mpr ⟨hc, hi⟩)
  · simpa [hi] using h
set_option maxRecDepth 65536 in
theorem w_c0 : (Jvm.Cond.code x code maxLocals ret).before args0 about1 = true := code_word (m := ⟨1, 1⟩) (meth := k1m1) (c := k1c1) (by decide +kernel) rfl rfl rfl (by decide +kernel)
set_option maxRecDepth 65536 in
theorem w_c1 : (Jvm.Cond.code ({ cls := "com/example/chalk_outline/chalkoutline/Placement", name := "<init>", desc := "([II)V" } : Jvm.MethodName) prog_11_method_1_code (3 : Nat) (Option.none : Option Jvm.ClassFile.FieldType)).before args0 about1 = true := code_word (m := ⟨3, 0⟩) (meth := k3m0) (c := k3c0) (by decide +kernel) rfl rfl rfl (by decide +kernel)
set_option maxRecDepth 65536 in
theorem w_c2 : (Jvm.Cond.code ({ cls := "java/lang/Record", name := "<init>", desc := "()V" } : Jvm.MethodName) jdk_30_method_1_code (1 : Nat) (Option.none : Option Jvm.ClassFile.FieldType)).before args0 about1 = true := code_word (m := ⟨2, 0⟩) (meth := k2m0) (c := k2c0) (by decide +kernel) rfl rfl rfl (by decide +kernel)
set_option maxRecDepth 65536 in
theorem w_c3 : (Jvm.Cond.code ({ cls := "java/lang/Object", name := "<init>", desc := "()V" } : Jvm.MethodName) object_method_1_code (1 : Nat) (Option.none : Option Jvm.ClassFile.FieldType)).before args0 about1 = true := code_word (m := ⟨0, 0⟩) (meth := k0m0) (c := k0c0) (by decide +kernel) rfl rfl rfl (by decide +kernel)
set_option maxRecDepth 65536 in
theorem w_c4 : (Jvm.Cond.code ({ cls := "com/example/chalk_outline/chalkoutline/Placement", name := "averagePrecision", desc := "(I)D" } : Jvm.MethodName) prog_11_method_5_code (6 : Nat) (Option.some Jvm.ClassFile.FieldType.double)).before args0 about1 = true := code_word (m := ⟨3, 2⟩) (meth := k3m2) (c := k3c2) (by decide +kernel) rfl rfl rfl (by decide +kernel)
set_option maxRecDepth 65536 in
theorem w_c5 : (Jvm.Cond.code ({ cls := "com/example/chalk_outline/chalkoutline/Placement", name := "found", desc := "(I)I" } : Jvm.MethodName) prog_11_method_4_code (3 : Nat) (Option.some Jvm.ClassFile.FieldType.int)).before args0 about1 = true := code_word (m := ⟨3, 1⟩) (meth := k3m1) (c := k3c1) (by decide +kernel) rfl rfl rfl (by decide +kernel)
def codes1 : List Jvm.Cond := [Jvm.Cond.code x code maxLocals ret, Jvm.Cond.code ({ cls := "com/example/chalk_outline/chalkoutline/Placement", name := "<init>", desc := "([II)V" } : Jvm.MethodName) prog_11_method_1_code (3 : Nat) (Option.none : Option Jvm.ClassFile.FieldType), Jvm.Cond.code ({ cls := "java/lang/Record", name := "<init>", desc := "()V" } : Jvm.MethodName) jdk_30_method_1_code (1 : Nat) (Option.none : Option Jvm.ClassFile.FieldType), Jvm.Cond.code ({ cls := "java/lang/Object", name := "<init>", desc := "()V" } : Jvm.MethodName) object_method_1_code (1 : Nat) (Option.none : Option Jvm.ClassFile.FieldType), Jvm.Cond.code ({ cls := "com/example/chalk_outline/chalkoutline/Placement", name := "averagePrecision", desc := "(I)D" } : Jvm.MethodName) prog_11_method_5_code (6 : Nat) (Option.some Jvm.ClassFile.FieldType.double), Jvm.Cond.code ({ cls := "com/example/chalk_outline/chalkoutline/Placement", name := "found", desc := "(I)I" } : Jvm.MethodName) prog_11_method_4_code (3 : Nat) (Option.some Jvm.ClassFile.FieldType.int)]
set_option maxRecDepth 65536 in
theorem codes_eq : words1.filter isCode = codes1 := rfl
theorem w_codes : ∀ c ∈ words1.filter isCode, c.before args0 about1 = true := by
  rw [codes_eq]
  intro c hc
  simp only [codes1, List.mem_cons, List.not_mem_nil, or_false] at hc
  rcases hc with rfl | rfl | rfl | rfl | rfl | rfl
  · exact w_c0
  · exact w_c1
  · exact w_c2
  · exact w_c3
  · exact w_c4
  · exact w_c5
set_option maxRecDepth 65536 in
theorem w_t1 : (words1.take 24).all (fun c => isCode c || c.before args0 about1) = true := by decide +kernel
set_option maxRecDepth 65536 in
theorem w_t2 : (words1.drop 24).all (fun c => isCode c || c.before args0 about1) = true := by decide +kernel
theorem w_tables : (allAtoms (Jvm.Cond.code x code maxLocals ret :: tables_1)).before args0 about1 = true := by
  rw [allAtoms_all]
  show words1.all (fun c => c.before args0 about1) = true
  refine all_split ?_ w_codes
  rw [← List.take_append_drop 24 words1, List.all_append, w_t1, w_t2]
  rfl
set_option maxRecDepth 65536 in
theorem w_case : (Jvm.Cond.and given_1 narrow_1).before args0 about1 = true := by decide +kernel
theorem w_applies : (headSpec (Jvm.Cond.code x code maxLocals ret :: tables_1) room_1).applies x e0.platform about1 = true :=
  (Spec.applies_iff w_frames).mpr ⟨w_running, w_runnable, w_alone, w_named, w_hears, w_ripe, w_room, w_tables⟩
theorem atStart : AtStart classFile x code maxLocals ret World_1 tables_1 room_1 Calls_1 rest_1 Pre_1 launch0 p0 e0 about1 theMethod args0 below0 :=
  ⟨lists_1, trivial, launch0.admits_env _ _ _, launch0.least_env, fairChoices_fair.cas, fairChoices_fair.clock, w_frames, w_args, w_heap, w_applies, trivial, trivial, w_case⟩
end start1
theorem witness_1 : WitnessClaimed_1 := ⟨start1.p0, start1.e0, start1.about1, start1.theMethod, start1.args0, start1.below0, start1.atStart⟩
end Jvm.Pilot.@@N@@
