import JvmDerived
import JvmDerived.Pilot.@@N@@Statement
import JvmDerived.Pilot.@@N@@Code
set_option linter.unusedVariables false
set_option linter.unusedSimpArgs false
namespace Jvm.RoadKit
open Sem ClassFile Op Lib Jvm.Stand Jvm.Free Jvm.LawKit
section New
variable {p : Program} {l : Launch} {e : Env} {R : Room} {s : State} {m : MethodId} {args : Array Value} {below : List Frame} {meth : Method} {c : Code} {T : State} {locs : List Loc} {cells slots : Nat}
theorem retI (X : Stand p l e R s m args below meth c T locs cells slots) (hx : p.tables.exec = Jvm.exec) {pc : Nat} {Ls : Array Slot} {z : Int32} {rest : List Value} (hret : meth.sig.returnType = some .int) (hd : decode c.code pc = .ok (.ireturn, 1)) {fs : List Frame}
    (hl : ∀ (f : JFrame) (acts : List Action), f.method = m → f.locked = none → f.entered = [] → (doReturn e (T.setTop f) acts (some (.int z))).1 = T.setFrames fs) : Steps p.tables e below (T.setTop (mkF m pc Ls (.int z :: rest))) (T.setFrames fs) := by
  have hm' : T.vm.method? m = some meth := X.method'
  have hn : narrow .int (.int z) = .int z := rfl
  show Steps p.tables e below (T.setTop { method := m, pc := pc, locals := Ls, stack := _ :: rest, locked := none }) _
  jvm_step X.here [X.here.top, hx, hd, hm', hret, hn]
  first | (intro acts; rw [hl _ acts rfl rfl rfl]) | rw [hl _ _ rfl rfl rfl]
  exact Steps.refl _
end New
end Jvm.RoadKit
namespace Jvm.Pilot.@@N@@
open Jvm Jvm.ClassFile Sem Op Lib Jvm.Free Jvm.Stand Jvm.LawKit Jvm.RoadKit Bundle Jvm.Pilot.@@N@@.Jvm.D
/-- the run from here ends well -/
def own_Go (tb : Tables) (e : Env) (below : List Frame) (P : Outcome → State → Prop) (T : State) (f : JFrame) : Prop := ∃ s₂ o, Steps tb e below (T.setTop f) s₂ ∧ s₂.status = .running ∧ Ended s₂ below o ∧ P o s₂
theorem own_go {tb : Tables} {e : Env} {below : List Frame} {P : Outcome → State → Prop} {T T' : State} {f f' : JFrame} (k : ∀ t, Steps tb e below (T'.setTop f') t → Steps tb e below (T.setTop f) t) (h : own_Go tb e below P T' f') : own_Go tb e below P T f := by
  obtain ⟨s₂, o, h1, h2⟩ := h
  exact ⟨s₂, o, k _ h1, h2⟩
theorem own_keep1 {h0 h h' : Heap} {ws : List Addr} {b : Addr} (K : Keep h0 h ws) (K' : Keep h h' [b]) (q : h0.size ≤ b) : Keep h0 h' ws := K.trans K' fun x hx => Or.inr (by cases List.mem_singleton.mp hx; exact q)
theorem own_eqi {a b : Term} {args : Array Value} {first s : State} {o : Option Outcome} {idx : List Nat} {y : Int32} (h : (Jvm.Cond.eq a b).value args first o s idx = some true) (hb : b.eval args first o idx s = some (.int y)) : a.eval args first o idx s = some (.int y) := by
  cases ha : a.eval args first o idx s with
  | none => simp [Cond.value, ha] at h
  | some x => cases x <;> simp [Cond.value, ha, hb] at h; subst h; rfl
theorem own_not1 {a b : Addr} (q : a ≠ b) : a ∉ [b] := fun h => q (List.mem_singleton.mp h)
def own_PW (s : State) (Q : Option Value → Heap → List Loc → Prop) (k n : Nat) (o : Outcome) (U : State) : Prop := ∃ v L, o = .returned v ∧ Q v U.heap L ∧ ReturnedEndW s o U L k n
def own_P (s : State) (Q : Option Value → Heap → List Loc → Prop) (k n : Nat) (o : Outcome) (U : State) : Prop := ∃ v L, o = .returned v ∧ Q v U.heap L ∧ FrameEnd s o U L k n
/-- the array at a has n places; place k holds f k -/
def own_Av (Z : State) (h : Heap) (a : Addr) (ty : FieldType) (n : Nat) (f : Nat → Value) : Prop := ∃ c : Cell, Arr Z h a c ty ∧ c.slots.size = n ∧ ∀ k, k < n → c.slots[k]? = some (f k)
theorem own_Av.lt {Z : State} {h : Heap} {a : Addr} {ty : FieldType} {n : Nat} {f : Nat → Value} (F : own_Av Z h a ty n f) : a < h.size := by obtain ⟨c, A, -⟩ := F; exact A.lt
theorem own_Av.ext {Z : State} {h h' : Heap} {a : Addr} {ty : FieldType} {n : Nat} {f : Nat → Value} (F : own_Av Z h a ty n f) (E : Ext h h') : own_Av Z h' a ty n f := by obtain ⟨c, A, r⟩ := F; exact ⟨c, A.ext E, r⟩
theorem own_Av.other {Z : State} {h h' : Heap} {a b : Addr} {ty : FieldType} {n sl : Nat} {v : Value} {f : Nat → Value} (F : own_Av Z h b ty n f) (W : Wr h h' a sl v) (q : b ≠ a) : own_Av Z h' b ty n f := by obtain ⟨c, A, r⟩ := F; exact ⟨c, A.other W q, r⟩
theorem own_Av.keep {Z : State} {h h' : Heap} {a : Addr} {ty : FieldType} {n : Nat} {ws : List Addr} {f : Nat → Value} (F : own_Av Z h a ty n f) (K : Keep h h' ws) (q : a ∉ ws) : own_Av Z h' a ty n f := by obtain ⟨c, A, r⟩ := F; exact ⟨c, ⟨K.2.1 a c A.1 q, A.2⟩, r⟩
theorem own_Av.new {Z : State} {h : Heap} {a : Addr} {ty : FieldType} {k : ClassId} {z : Int32} {n : Nat} (A : Arr Z h a (newA k ty z) ty) (hz : z.toNatClampNeg = n) : own_Av Z h a ty n (fun _ => defaultValue ty) := by
  refine ⟨_, A, (sz_new _ _ _).trans hz, fun i hi => ?_⟩
  subst hz
  simp [newA, hi]
theorem own_Av.set {Z : State} {h h' : Heap} {a : Addr} {ty : FieldType} {n i j : Nat} {v : Value} {f : Nat → Value} (F : own_Av Z h a ty n f) (W : Wr h h' a j v) (hj : j = i) : own_Av Z h' a ty n (fun k => if k = i then v else f k) := by
  subst hj
  obtain ⟨c, A, S, G⟩ := F
  have hlt : j < c.slots.size := by
    obtain ⟨cell, h1, h2, h3, -⟩ := W
    cases A.1.symm.trans h1; exact h3
  refine ⟨_, A.same W, (sz_set _ _ _).trans S, fun k hk => ?_⟩
  by_cases q : k = j
  · subst q; simp [Cell.setSlot, hlt]
  · show (c.setSlot j v).slots[k]? = some (if k = j then v else f k)
    rw [if_neg q, ← G k hk]; simp [Cell.setSlot, Array.getElem?_setIfInBounds, Ne.symm q]
theorem own_Av.eq {Z : State} {h : Heap} {a : Addr} {ty : FieldType} {n : Nat} {f g : Nat → Value} (F : own_Av Z h a ty n f) (q : ∀ k, k < n → f k = g k) : own_Av Z h a ty n g := by
  obtain ⟨c, A, S, G⟩ := F
  exact ⟨c, A, S, fun k hk => by rw [G k hk, q k hk]⟩
theorem own_inb {c : Cell} {n i : Nat} {j : Int32} (S : c.slots.size = n) (hj : ¬ j < 0 ∧ j.toNatClampNeg = i) (hi : i < n) : ¬ (j < 0 ∨ c.slots.size ≤ j.toNatClampNeg) := by
  rw [S, hj.2]
  exact fun q => q.elim hj.1 (Nat.not_le.mpr hi)
theorem own_at {c : Cell} {n i : Nat} {j : Int32} {f : Nat → Value} {v : Value} (G : ∀ k, k < n → c.slots[k]? = some (f k)) (hj : ¬ j < 0 ∧ j.toNatClampNeg = i) (hi : i < n) (hv : f i = v) : c.slots[j.toNatClampNeg]? = some v := by
  rw [hj.2, G i hi, hv]
theorem own_nat {i : Nat} (h : i < 2 ^ 31) : ¬ Int32.ofNat i < 0 ∧ (Int32.ofNat i).toNatClampNeg = i := by
  have e : (Int32.ofNat i).toInt = i := Int32.toInt_ofNat_of_lt h
  refine ⟨?_, ?_⟩
  · rw [Int32.lt_iff_toInt_lt, e, Int32.toInt_zero]; omega
  · show (Int32.ofNat i).toInt.toNat = i
    rw [e]; rfl
theorem own_low (x : Int32) : ∃ j, j < 16 ∧ x &&& 15 = Int32.ofNat j := by
  refine ⟨(x &&& 15).toBitVec.toNat, ?_, ?_⟩
  · rw [Int32.toBitVec_and, BitVec.toNat_and]
    exact Nat.lt_of_le_of_lt Nat.and_le_right (by decide)
  · apply Int32.toBitVec_inj.mp
    show _ = BitVec.ofNat 32 _
    rw [BitVec.ofNat_toNat, BitVec.setWidth_eq]
theorem own_ltn {i j : Nat} (hi : i < 2 ^ 31) (hj : j < 2 ^ 31) : Int32.ofNat i < Int32.ofNat j ↔ i < j := by
  rw [Int32.lt_iff_toInt_lt, Int32.toInt_ofNat_of_lt hi, Int32.toInt_ofNat_of_lt hj]; omega
theorem own_pred {j : Nat} (h : 0 < j) (hj : j < 2 ^ 31) : Int32.ofNat j - 1 = Int32.ofNat (j - 1) := by
  apply Int32.toInt_inj.mp
  rw [Int32.toInt_sub, Int32.toInt_ofNat_of_lt hj, Int32.toInt_ofNat_of_lt (by omega), show (1 : Int32).toInt = 1 from by decide, Int.bmod_eq_of_le] <;> omega
theorem own_succ (i : Nat) : Int32.ofNat i + 1 = Int32.ofNat (i + 1) := by
  apply Int32.toBitVec_inj.mp
  show BitVec.ofNat 32 i + BitVec.ofNat 32 1 = BitVec.ofNat 32 (i + 1)
  rw [BitVec.ofNat_add_ofNat]
theorem own_ofNat_inj {i j : Nat} (hi : i < 2 ^ 31) (hj : j < 2 ^ 31) : Int32.ofNat i = Int32.ofNat j ↔ i = j := by
  rw [← Int32.toInt_inj, Int32.toInt_ofNat_of_lt hi, Int32.toInt_ofNat_of_lt hj]; omega
theorem own_b8 (x : Int32) : x.toInt8.toInt32.toInt8.toInt32 = x.toInt8.toInt32 := by simp
def own_b (x : Int32) : Prop := ∀ i, 8 ≤ i → x.toBitVec.getLsbD i = false
theorem own_b_mask (x : Int32) : own_b (x &&& 255) := fun i hi => by
  rw [Int32.toBitVec_and, BitVec.getLsbD_and]
  have : (255 : Int32).toBitVec.getLsbD i = false := by
    show (BitVec.ofNat 32 255).getLsbD i = false
    rw [BitVec.getLsbD_ofNat]
    have : Nat.testBit 255 i = false := Nat.testBit_lt_two_pow (Nat.lt_of_lt_of_le (by decide : 255 < 2 ^ 8) (Nat.pow_le_pow_right (by decide) hi))
    simp [this]
  rw [this, Bool.and_false]
theorem own_b3 : own_b 3 := by have := own_b_mask 3; exact this
theorem own_b8' : own_b 8 := by have := own_b_mask 8; exact this
theorem own_b0 : own_b 0 := by have := own_b_mask 0; exact this
def own_w (b0 b1 b2 b3 : Int32) : Int32 := b0 ||| (b1 <<< ((8 : Int32) &&& 31)) ||| (b2 <<< ((16 : Int32) &&& 31)) ||| (b3 <<< ((24 : Int32) &&& 31))
theorem own_w_bv (b0 b1 b2 b3 : Int32) : (own_w b0 b1 b2 b3).toBitVec = b0.toBitVec ||| b1.toBitVec <<< 8 ||| b2.toBitVec <<< 16 ||| b3.toBitVec <<< 24 := rfl
theorem own_w_bit (b0 b1 b2 b3 : Int32) (i : Nat) : (own_w b0 b1 b2 b3).toBitVec.getLsbD i = (b0.toBitVec.getLsbD i || (decide (i < 32) && !decide (i < 8) && b1.toBitVec.getLsbD (i - 8)) || (decide (i < 32) && !decide (i < 16) && b2.toBitVec.getLsbD (i - 16)) || (decide (i < 32) && !decide (i < 24) && b3.toBitVec.getLsbD (i - 24))) := by
  rw [own_w_bv]; simp only [BitVec.getLsbD_or, BitVec.getLsbD_shiftLeft]
theorem own_255 (x y : BitVec 32) (n : Nat) (hy : ∀ i, 8 ≤ i → y.getLsbD i = false) (h : ∀ i, i < 8 → x.getLsbD (n + i) = y.getLsbD i) : (x >>> n) &&& 255#32 = y := by
  apply BitVec.eq_of_getLsbD_eq
  intro i hi
  have e : ∀ i, i < 32 → (255#32).getLsbD i = decide (i < 8) := by decide +kernel
  rw [BitVec.getLsbD_and, BitVec.getLsbD_ushiftRight, e i hi]
  by_cases q : i < 8
  · rw [h i q]; simp [q]
  · rw [hy i (by omega)]; simp [q]
theorem own_w_eq {b0 b1 b2 b3 : Int32} (h0 : own_b b0) (h1 : own_b b1) (h2 : own_b b2) (h3 : own_b b3) : own_w b0 b1 b2 b3 = 524291 ↔ b0 = 3 ∧ b1 = 0 ∧ b2 = 8 ∧ b3 = 0 := by
  constructor
  · intro h
    have q0 := own_255 (own_w b0 b1 b2 b3).toBitVec b0.toBitVec 0 h0 (fun i hi => by
      rw [own_w_bit, Nat.zero_add]; simp [show i < 8 from hi, show i < 16 from by omega, show i < 24 from by omega])
    have q1 := own_255 (own_w b0 b1 b2 b3).toBitVec b1.toBitVec 8 h1 (fun i hi => by
      rw [own_w_bit, h0 (8 + i) (by omega)]; simp [show 8 + i < 32 from by omega, show 8 + i < 16 from by omega, show 8 + i < 24 from by omega])
    have q2 := own_255 (own_w b0 b1 b2 b3).toBitVec b2.toBitVec 16 h2 (fun i hi => by
      rw [own_w_bit, h0 (16 + i) (by omega), h1 (16 + i - 8) (by omega)]; simp [show 16 + i < 32 from by omega, show 16 + i < 24 from by omega])
    have q3 := own_255 (own_w b0 b1 b2 b3).toBitVec b3.toBitVec 24 h3 (fun i hi => by
      rw [own_w_bit, h0 (24 + i) (by omega), h1 (24 + i - 8) (by omega), h2 (24 + i - 16) (by omega)]; simp [show 24 + i < 32 from by omega])
    rw [h] at q0 q1 q2 q3
    exact ⟨Int32.toBitVec_inj.mp (q0.symm.trans (by decide)), Int32.toBitVec_inj.mp (q1.symm.trans (by decide)), Int32.toBitVec_inj.mp (q2.symm.trans (by decide)), Int32.toBitVec_inj.mp (q3.symm.trans (by decide))⟩
  · rintro ⟨rfl, rfl, rfl, rfl⟩; decide
theorem own_byte {b k : Int32} (h : own_b b) (hk : own_b k) (h8 : k.toInt8.toInt32 = k) : b.toInt8.toInt32 = k ↔ b = k := by
  constructor
  · intro q
    have q' : b.toInt8.toInt32.toInt8 = k.toInt8 := by rw [q]
    have q2 : b.toInt8 = k.toInt8 := by simpa using q'
    apply Int32.toBitVec_inj.mp
    apply BitVec.eq_of_getLsbD_eq
    intro i hi
    by_cases hh : i < 8
    · have := congrArg (fun z => z.toBitVec.getLsbD i) q2
      have e : ∀ x : Int32, x.toInt8.toBitVec.getLsbD i = x.toBitVec.getLsbD i := fun x => by
        show (x.toBitVec.signExtend 8).getLsbD i = _
        rw [BitVec.getLsbD_signExtend]; simp [hh, show i < 32 from by omega]
      rw [← e b, ← e k]; exact this
    · rw [h i (by omega), hk i (by omega)]
  · rintro rfl; exact h8
def own_ic (n : Nat) (b0 b1 b2 b3 : Int32) : Int32 := if Int32.ofNat n < 8 then 0 else if b0 = 3 then if b1 = 0 then if b2 = 8 then if b3 = 0 then 1 else 0 else 0 else 0 else 0
theorem own_ic_yes {n : Nat} {b0 b1 b2 b3 : Int32} (h0 : own_b b0) (h1 : own_b b1) (h2 : own_b b2) (h3 : own_b b3) (hn : ¬ Int32.ofNat n < 8) (h : own_w b0 b1 b2 b3 = 524291) : own_ic n b0.toInt8.toInt32 b1.toInt8.toInt32 b2.toInt8.toInt32 b3.toInt8.toInt32 = 1 := by
  obtain ⟨rfl, rfl, rfl, rfl⟩ := (own_w_eq h0 h1 h2 h3).mp h
  rw [own_ic, if_neg hn]; decide
theorem own_ic_no {n : Nat} {b0 b1 b2 b3 : Int32} (h0 : own_b b0) (h1 : own_b b1) (h2 : own_b b2) (h3 : own_b b3) (h : ¬ own_w b0 b1 b2 b3 = 524291) : own_ic n b0.toInt8.toInt32 b1.toInt8.toInt32 b2.toInt8.toInt32 b3.toInt8.toInt32 = 0 := by
  unfold own_ic
  by_cases q : Int32.ofNat n < 8
  · rw [if_pos q]
  · rw [if_neg q]
    simp only [own_byte h0 own_b3 (by decide), own_byte h1 own_b0 (by decide), own_byte h2 own_b8' (by decide), own_byte h3 own_b0 (by decide)]
    rw [own_w_eq h0 h1 h2 h3] at h
    by_cases a : b0 = 3 <;> by_cases b : b1 = 0 <;> by_cases c : b2 = 8 <;> by_cases d : b3 = 0 <;> simp [a, b, c, d]
    exact h ⟨a, b, c, d⟩
theorem own_ic_short {n : Nat} {b0 b1 b2 b3 : Int32} (hn : Int32.ofNat n < 8) : own_ic n b0 b1 b2 b3 = 0 := by rw [own_ic, if_pos hn]
theorem d1_0 : decode prog_5_method_2_code 0 = .ok (.aload_n 0, 1) := by decide +kernel
theorem d1_1 : decode prog_5_method_2_code 1 = .ok (.arraylength, 1) := by decide +kernel
theorem d1_2 : decode prog_5_method_2_code 2 = .ok (.bipush 8, 2) := by decide +kernel
theorem d1_4 : decode prog_5_method_2_code 4 = .ok (.if_icmp .lt 34, 3) := by decide +kernel
theorem d1_7 : decode prog_5_method_2_code 7 = .ok (.aload_n 0, 1) := by decide +kernel
theorem d1_8 : decode prog_5_method_2_code 8 = .ok (.iconst 0, 1) := by decide +kernel
theorem d1_9 : decode prog_5_method_2_code 9 = .ok (.baload, 1) := by decide +kernel
theorem d1_10 : decode prog_5_method_2_code 10 = .ok (.iconst 3, 1) := by decide +kernel
theorem d1_11 : decode prog_5_method_2_code 11 = .ok (.if_icmp .ne 27, 3) := by decide +kernel
theorem d1_14 : decode prog_5_method_2_code 14 = .ok (.aload_n 0, 1) := by decide +kernel
theorem d1_15 : decode prog_5_method_2_code 15 = .ok (.iconst 1, 1) := by decide +kernel
theorem d1_16 : decode prog_5_method_2_code 16 = .ok (.baload, 1) := by decide +kernel
theorem d1_17 : decode prog_5_method_2_code 17 = .ok (.ifCond .ne 21, 3) := by decide +kernel
theorem d1_20 : decode prog_5_method_2_code 20 = .ok (.aload_n 0, 1) := by decide +kernel
theorem d1_21 : decode prog_5_method_2_code 21 = .ok (.iconst 2, 1) := by decide +kernel
theorem d1_22 : decode prog_5_method_2_code 22 = .ok (.baload, 1) := by decide +kernel
theorem d1_23 : decode prog_5_method_2_code 23 = .ok (.bipush 8, 2) := by decide +kernel
theorem d1_25 : decode prog_5_method_2_code 25 = .ok (.if_icmp .ne 13, 3) := by decide +kernel
theorem d1_28 : decode prog_5_method_2_code 28 = .ok (.aload_n 0, 1) := by decide +kernel
theorem d1_29 : decode prog_5_method_2_code 29 = .ok (.iconst 3, 1) := by decide +kernel
theorem d1_30 : decode prog_5_method_2_code 30 = .ok (.baload, 1) := by decide +kernel
theorem d1_31 : decode prog_5_method_2_code 31 = .ok (.ifCond .ne 7, 3) := by decide +kernel
theorem d1_34 : decode prog_5_method_2_code 34 = .ok (.iconst 1, 1) := by decide +kernel
theorem d1_35 : decode prog_5_method_2_code 35 = .ok (.goto 4, 3) := by decide +kernel
theorem d1_38 : decode prog_5_method_2_code 38 = .ok (.iconst 0, 1) := by decide +kernel
theorem d1_39 : decode prog_5_method_2_code 39 = .ok (.ireturn, 1) := by decide +kernel
theorem pn_0 : plainName "dexterous/io/BinaryXml" = true := by first | (simp [plainName, overriddenIn]; done) | decide +kernel
theorem ef_1 (m : MethodId) {a1 : Addr} : entryFrame m #[(.ref a1)] 1 = mkF m 0 #[.val (.ref a1)] [] := by first | (simp [entryFrame, mkF, argsToLocals, Value.category]; done) | rfl
def Q1 (Z : State) (a1 : Addr) (n : Nat) (f : Nat → Value) (b0 : Int32) (b1 : Int32) (b2 : Int32) (b3 : Int32) (h0 : Heap) (n0 : Nat) (v : Option Value) (h : Heap) (L : List Loc) : Prop := v = some (.int (own_ic n b0 b1 b2 b3)) ∧ Fr n0 L ∧ h = h0
set_option maxRecDepth 65536 in
set_option maxHeartbeats 40000000 in
theorem rm1 (l : Launch) (Z : State) (a0 : Array Value) (hw : ∀ d ∈ tables_1, d.before a0 Z = true) (ws : List Jvm.Cond) (a1 : Addr) (n : Nat) (f : Nat → Value) (b0 : Int32) (b1 : Int32) (b2 : Int32) (b3 : Int32) (h0 : Heap) (n0 : Nat) (Z0 : n0 ≤ h0.size) (Va : own_Av Z h0 a1 .byte n f) (hn : n < 2 ^ 31) (hf0 : 0 < n → f 0 = .int b0) (hf1 : 1 < n → f 1 = .int b1) (hf2 : 2 < n → f 2 = .int b2) (hf3 : 3 < n → f 3 = .int b3) :
    MetFree l (⟨"dexterous/io/BinaryXml", "isCompiled", "([B)Z"⟩ : MethodName) (head1 (Jvm.Cond.code (⟨"dexterous/io/BinaryXml", "isCompiled", "([B)Z"⟩ : MethodName) prog_5_method_2_code 1 (some .boolean) :: ws) ({ frames := 0, cells := 0, slots := 0, locals := 0 } : Room)) (fun a U => a = #[(.ref a1)] ∧ Z.Warmed39 U.vm ∧ U.heap = h0) (fun _ _ _ _ _ => True) (fun _ U o U' => ∃ v L, o = .returned v ∧ Q1 Z a1 n f b0 b1 b2 b3 h0 n0 v U'.heap L ∧ FrameEnd U o U' L (({ frames := 0, cells := 0, slots := 0, locals := 0 } : Room)).cells (({ frames := 0, cells := 0, slots := 0, locals := 0 } : Room)).slots) := by
  refine MetFree.of_bodySF (plainFor_of_name pn_0) hisR ?_
  intro p e s m args below meth c s₁ Bd hml0 hP hK
  obtain ⟨rfl, hZ, hh⟩ := hP
  have hx := Bd.exec
  have hby := Bd.bytes
  have hml : c.maxLocals = 1 := hml0
  have hown : s.vm.findClass "dexterous/io/BinaryXml" = some m.cls := findClass_of_methodNamed Bd.named
  have hnm := (name_of_methodNamed Bd.named Bd.method).1
  have X0 : Stand p l e ({ frames := 0, cells := 0, slots := 0, locals := 0 } : Room) s m #[(.ref a1)] below meth c s₁ [] 0 0 := Stand.of_body Bd
  have e0 : s₁.heap = h0 := by rw [← hh, Bd.state]; rfl
  have N0 := Fr.nil n0
  show own_Go p.tables e below (own_P s (Q1 Z a1 n f b0 b1 b2 b3 h0 n0) ({ frames := 0, cells := 0, slots := 0, locals := 0 } : Room).cells ({ frames := 0, cells := 0, slots := 0, locals := 0 } : Room).slots) s₁ _
  rw [ef_1]
  show own_Go p.tables e below _ s₁ (mkF m 0 #[.val (.ref a1)] [])
  refine own_go (fun tz kz => XS.aloadN X0.here hx rfl (hb hby d1_0) rfl rfl kz) ?_
  show own_Go p.tables e below _ s₁ (mkF m 1 #[.val (.ref a1)] [(.ref a1)])
  obtain ⟨c1, Ar1, Sz1, Ge1⟩ := id (Va)
  refine own_go (fun tz kz => X0.arraylength hx (by rw [e0]; exact Ar1.1) (State.isArrayOf_alike hZ.alike Ar1.2.1) (g := (mkF m 1 #[.val (.ref a1)] [(.ref a1)])) rfl rfl (hb hby d1_1) tz kz) ?_
  rw [Sz1]
  show own_Go p.tables e below _ s₁ (mkF m 2 #[.val (.ref a1)] [(.int (Int32.ofNat n))])
  refine own_go (fun tz kz => XS.bipush X0.here hx rfl (hb hby d1_2) kz) ?_
  show own_Go p.tables e below _ s₁ (mkF m 4 #[.val (.ref a1)] [(.int (8 : Int32)), (.int (Int32.ofNat n))])
  by_cases h0' : (Int32.ofNat n) < (8 : Int32)
  ·
    refine own_go (fun tz kz => XS.icmpYes X0.here hx rfl (pc0 := 4) (pc' := 38) rfl (hb hby d1_4) rfl (XT.ii_lt_t h0') (by decide) (by decide) kz) ?_
    show own_Go p.tables e below _ s₁ (mkF m 38 #[.val (.ref a1)] [])
    refine own_go (fun tz kz => XS.iconst X0.here hx rfl (hb hby d1_38) kz) ?_
    show own_Go p.tables e below _ s₁ (mkF m 39 #[.val (.ref a1)] [(.int (0 : Int32))])
    obtain ⟨fs, hr, hrun, hended, hW, hsame⟩ := X0.leave (v := some (.int (0 : Int32))) (fun h => by rw [Bd.returns] at h; cases h)
    refine ⟨_, _, ?_, hrun, hended, _, _, rfl, ?_, ⟨_, rfl⟩, hW, hsame.mono (by decide) (by decide)⟩
    · exact retN X0 hx (t := .boolean) Bd.returns (by simp) (hb hby d1_39) hr
    · show Q1 Z a1 n f b0 b1 b2 b3 h0 n0 _ s₁.heap _
      rw [e0]
      exact ⟨congrArg (fun z => some (Value.int z)) (Eq.symm (by rw [own_ic, if_pos h0'])), N0, rfl⟩
  ·
    refine own_go (fun tz kz => XS.icmpNo X0.here hx rfl (hb hby d1_4) rfl (XT.ii_lt_f h0') kz) ?_
    show own_Go p.tables e below _ s₁ (mkF m 7 #[.val (.ref a1)] [])
    have h8 : 8 ≤ n := Nat.not_lt.mp fun q => h0' ((own_ltn (j := 8) hn (by decide)).mpr q)
    refine own_go (fun tz kz => XS.aloadN X0.here hx rfl (hb hby d1_7) rfl rfl kz) ?_
    show own_Go p.tables e below _ s₁ (mkF m 8 #[.val (.ref a1)] [(.ref a1)])
    refine own_go (fun tz kz => XS.iconst X0.here hx rfl (hb hby d1_8) kz) ?_
    show own_Go p.tables e below _ s₁ (mkF m 9 #[.val (.ref a1)] [(.int (0 : Int32)), (.ref a1)])
    obtain ⟨c2, Ar2, Sz2, Ge2⟩ := id (Va)
    refine own_go (fun tz kz => X0.baloadBytes hx (j := (0 : Int32)) (v := (.int b0)) (by rw [e0]; exact Ar2.1) (State.isArrayOf_alike hZ.alike Ar2.2.1) Ar2.2.2 (own_inb Sz2 (own_nat (i := 0) (by decide)) (by omega)) (own_at Ge2 (own_nat (i := 0) (by decide)) (by omega) (hf0 (by omega))) (g := (mkF m 9 #[.val (.ref a1)] [(.int (0 : Int32)), (.ref a1)])) rfl rfl (hb hby d1_9) tz kz) ?_
    show own_Go p.tables e below _ s₁ (mkF m 10 #[.val (.ref a1)] [(.int b0)])
    refine own_go (fun tz kz => XS.iconst X0.here hx rfl (hb hby d1_10) kz) ?_
    show own_Go p.tables e below _ s₁ (mkF m 11 #[.val (.ref a1)] [(.int (3 : Int32)), (.int b0)])
    by_cases c0 : b0 = (3 : Int32)
    ·
      refine own_go (fun tz kz => XS.icmpNo X0.here hx rfl (hb hby d1_11) rfl (XT.ii_ne_f c0) kz) ?_
      show own_Go p.tables e below _ s₁ (mkF m 14 #[.val (.ref a1)] [])
      refine own_go (fun tz kz => XS.aloadN X0.here hx rfl (hb hby d1_14) rfl rfl kz) ?_
      show own_Go p.tables e below _ s₁ (mkF m 15 #[.val (.ref a1)] [(.ref a1)])
      refine own_go (fun tz kz => XS.iconst X0.here hx rfl (hb hby d1_15) kz) ?_
      show own_Go p.tables e below _ s₁ (mkF m 16 #[.val (.ref a1)] [(.int (1 : Int32)), (.ref a1)])
      obtain ⟨c3, Ar3, Sz3, Ge3⟩ := id (Va)
      refine own_go (fun tz kz => X0.baloadBytes hx (j := (1 : Int32)) (v := (.int b1)) (by rw [e0]; exact Ar3.1) (State.isArrayOf_alike hZ.alike Ar3.2.1) Ar3.2.2 (own_inb Sz3 (own_nat (i := 1) (by decide)) (by omega)) (own_at Ge3 (own_nat (i := 1) (by decide)) (by omega) (hf1 (by omega))) (g := (mkF m 16 #[.val (.ref a1)] [(.int (1 : Int32)), (.ref a1)])) rfl rfl (hb hby d1_16) tz kz) ?_
      show own_Go p.tables e below _ s₁ (mkF m 17 #[.val (.ref a1)] [(.int b1)])
      by_cases c1 : b1 = (0 : Int32)
      ·
        refine own_go (fun tz kz => XS.ifNo X0.here hx rfl (hb hby d1_17) rfl (XT.i0_ne_f c1) kz) ?_
        show own_Go p.tables e below _ s₁ (mkF m 20 #[.val (.ref a1)] [])
        refine own_go (fun tz kz => XS.aloadN X0.here hx rfl (hb hby d1_20) rfl rfl kz) ?_
        show own_Go p.tables e below _ s₁ (mkF m 21 #[.val (.ref a1)] [(.ref a1)])
        refine own_go (fun tz kz => XS.iconst X0.here hx rfl (hb hby d1_21) kz) ?_
        show own_Go p.tables e below _ s₁ (mkF m 22 #[.val (.ref a1)] [(.int (2 : Int32)), (.ref a1)])
        obtain ⟨c4, Ar4, Sz4, Ge4⟩ := id (Va)
        refine own_go (fun tz kz => X0.baloadBytes hx (j := (2 : Int32)) (v := (.int b2)) (by rw [e0]; exact Ar4.1) (State.isArrayOf_alike hZ.alike Ar4.2.1) Ar4.2.2 (own_inb Sz4 (own_nat (i := 2) (by decide)) (by omega)) (own_at Ge4 (own_nat (i := 2) (by decide)) (by omega) (hf2 (by omega))) (g := (mkF m 22 #[.val (.ref a1)] [(.int (2 : Int32)), (.ref a1)])) rfl rfl (hb hby d1_22) tz kz) ?_
        show own_Go p.tables e below _ s₁ (mkF m 23 #[.val (.ref a1)] [(.int b2)])
        refine own_go (fun tz kz => XS.bipush X0.here hx rfl (hb hby d1_23) kz) ?_
        show own_Go p.tables e below _ s₁ (mkF m 25 #[.val (.ref a1)] [(.int (8 : Int32)), (.int b2)])
        by_cases c2 : b2 = (8 : Int32)
        ·
          refine own_go (fun tz kz => XS.icmpNo X0.here hx rfl (hb hby d1_25) rfl (XT.ii_ne_f c2) kz) ?_
          show own_Go p.tables e below _ s₁ (mkF m 28 #[.val (.ref a1)] [])
          refine own_go (fun tz kz => XS.aloadN X0.here hx rfl (hb hby d1_28) rfl rfl kz) ?_
          show own_Go p.tables e below _ s₁ (mkF m 29 #[.val (.ref a1)] [(.ref a1)])
          refine own_go (fun tz kz => XS.iconst X0.here hx rfl (hb hby d1_29) kz) ?_
          show own_Go p.tables e below _ s₁ (mkF m 30 #[.val (.ref a1)] [(.int (3 : Int32)), (.ref a1)])
          obtain ⟨c5, Ar5, Sz5, Ge5⟩ := id (Va)
          refine own_go (fun tz kz => X0.baloadBytes hx (j := (3 : Int32)) (v := (.int b3)) (by rw [e0]; exact Ar5.1) (State.isArrayOf_alike hZ.alike Ar5.2.1) Ar5.2.2 (own_inb Sz5 (own_nat (i := 3) (by decide)) (by omega)) (own_at Ge5 (own_nat (i := 3) (by decide)) (by omega) (hf3 (by omega))) (g := (mkF m 30 #[.val (.ref a1)] [(.int (3 : Int32)), (.ref a1)])) rfl rfl (hb hby d1_30) tz kz) ?_
          show own_Go p.tables e below _ s₁ (mkF m 31 #[.val (.ref a1)] [(.int b3)])
          by_cases c3 : b3 = (0 : Int32)
          ·
            refine own_go (fun tz kz => XS.ifNo X0.here hx rfl (hb hby d1_31) rfl (XT.i0_ne_f c3) kz) ?_
            show own_Go p.tables e below _ s₁ (mkF m 34 #[.val (.ref a1)] [])
            refine own_go (fun tz kz => XS.iconst X0.here hx rfl (hb hby d1_34) kz) ?_
            show own_Go p.tables e below _ s₁ (mkF m 35 #[.val (.ref a1)] [(.int (1 : Int32))])
            refine own_go (fun tz kz => XS.goto X0.here hx rfl (pc0 := 35) (pc' := 39) rfl (hb hby d1_35) (by decide) (by decide) kz) ?_
            show own_Go p.tables e below _ s₁ (mkF m 39 #[.val (.ref a1)] [(.int (1 : Int32))])
            obtain ⟨fs, hr, hrun, hended, hW, hsame⟩ := X0.leave (v := some (.int (1 : Int32))) (fun h => by rw [Bd.returns] at h; cases h)
            refine ⟨_, _, ?_, hrun, hended, _, _, rfl, ?_, ⟨_, rfl⟩, hW, hsame.mono (by decide) (by decide)⟩
            · exact retN X0 hx (t := .boolean) Bd.returns (by simp) (hb hby d1_39) hr
            · show Q1 Z a1 n f b0 b1 b2 b3 h0 n0 _ s₁.heap _
              rw [e0]
              exact ⟨congrArg (fun z => some (Value.int z)) (Eq.symm (by rw [own_ic, if_neg h0', if_pos c0, if_pos c1, if_pos c2, if_pos c3])), N0, rfl⟩
          ·
            refine own_go (fun tz kz => XS.ifYes X0.here hx rfl (pc0 := 31) (pc' := 38) rfl (hb hby d1_31) rfl (XT.i0_ne_t c3) (by decide) (by decide) kz) ?_
            show own_Go p.tables e below _ s₁ (mkF m 38 #[.val (.ref a1)] [])
            refine own_go (fun tz kz => XS.iconst X0.here hx rfl (hb hby d1_38) kz) ?_
            show own_Go p.tables e below _ s₁ (mkF m 39 #[.val (.ref a1)] [(.int (0 : Int32))])
            obtain ⟨fs, hr, hrun, hended, hW, hsame⟩ := X0.leave (v := some (.int (0 : Int32))) (fun h => by rw [Bd.returns] at h; cases h)
            refine ⟨_, _, ?_, hrun, hended, _, _, rfl, ?_, ⟨_, rfl⟩, hW, hsame.mono (by decide) (by decide)⟩
            · exact retN X0 hx (t := .boolean) Bd.returns (by simp) (hb hby d1_39) hr
            · show Q1 Z a1 n f b0 b1 b2 b3 h0 n0 _ s₁.heap _
              rw [e0]
              exact ⟨congrArg (fun z => some (Value.int z)) (Eq.symm (by rw [own_ic, if_neg h0', if_pos c0, if_pos c1, if_pos c2, if_neg c3])), N0, rfl⟩
        ·
          refine own_go (fun tz kz => XS.icmpYes X0.here hx rfl (pc0 := 25) (pc' := 38) rfl (hb hby d1_25) rfl (XT.ii_ne_t c2) (by decide) (by decide) kz) ?_
          show own_Go p.tables e below _ s₁ (mkF m 38 #[.val (.ref a1)] [])
          refine own_go (fun tz kz => XS.iconst X0.here hx rfl (hb hby d1_38) kz) ?_
          show own_Go p.tables e below _ s₁ (mkF m 39 #[.val (.ref a1)] [(.int (0 : Int32))])
          obtain ⟨fs, hr, hrun, hended, hW, hsame⟩ := X0.leave (v := some (.int (0 : Int32))) (fun h => by rw [Bd.returns] at h; cases h)
          refine ⟨_, _, ?_, hrun, hended, _, _, rfl, ?_, ⟨_, rfl⟩, hW, hsame.mono (by decide) (by decide)⟩
          · exact retN X0 hx (t := .boolean) Bd.returns (by simp) (hb hby d1_39) hr
          · show Q1 Z a1 n f b0 b1 b2 b3 h0 n0 _ s₁.heap _
            rw [e0]
            exact ⟨congrArg (fun z => some (Value.int z)) (Eq.symm (by rw [own_ic, if_neg h0', if_pos c0, if_pos c1, if_neg c2])), N0, rfl⟩
      ·
        refine own_go (fun tz kz => XS.ifYes X0.here hx rfl (pc0 := 17) (pc' := 38) rfl (hb hby d1_17) rfl (XT.i0_ne_t c1) (by decide) (by decide) kz) ?_
        show own_Go p.tables e below _ s₁ (mkF m 38 #[.val (.ref a1)] [])
        refine own_go (fun tz kz => XS.iconst X0.here hx rfl (hb hby d1_38) kz) ?_
        show own_Go p.tables e below _ s₁ (mkF m 39 #[.val (.ref a1)] [(.int (0 : Int32))])
        obtain ⟨fs, hr, hrun, hended, hW, hsame⟩ := X0.leave (v := some (.int (0 : Int32))) (fun h => by rw [Bd.returns] at h; cases h)
        refine ⟨_, _, ?_, hrun, hended, _, _, rfl, ?_, ⟨_, rfl⟩, hW, hsame.mono (by decide) (by decide)⟩
        · exact retN X0 hx (t := .boolean) Bd.returns (by simp) (hb hby d1_39) hr
        · show Q1 Z a1 n f b0 b1 b2 b3 h0 n0 _ s₁.heap _
          rw [e0]
          exact ⟨congrArg (fun z => some (Value.int z)) (Eq.symm (by rw [own_ic, if_neg h0', if_pos c0, if_neg c1])), N0, rfl⟩
    ·
      refine own_go (fun tz kz => XS.icmpYes X0.here hx rfl (pc0 := 11) (pc' := 38) rfl (hb hby d1_11) rfl (XT.ii_ne_t c0) (by decide) (by decide) kz) ?_
      show own_Go p.tables e below _ s₁ (mkF m 38 #[.val (.ref a1)] [])
      refine own_go (fun tz kz => XS.iconst X0.here hx rfl (hb hby d1_38) kz) ?_
      show own_Go p.tables e below _ s₁ (mkF m 39 #[.val (.ref a1)] [(.int (0 : Int32))])
      obtain ⟨fs, hr, hrun, hended, hW, hsame⟩ := X0.leave (v := some (.int (0 : Int32))) (fun h => by rw [Bd.returns] at h; cases h)
      refine ⟨_, _, ?_, hrun, hended, _, _, rfl, ?_, ⟨_, rfl⟩, hW, hsame.mono (by decide) (by decide)⟩
      · exact retN X0 hx (t := .boolean) Bd.returns (by simp) (hb hby d1_39) hr
      · show Q1 Z a1 n f b0 b1 b2 b3 h0 n0 _ s₁.heap _
        rw [e0]
        exact ⟨congrArg (fun z => some (Value.int z)) (Eq.symm (by rw [own_ic, if_neg h0', if_neg c0])), N0, rfl⟩
theorem pd_0 : parseMethodDescriptor "([B)Z" = some ⟨[(.array .byte)], some .boolean⟩ := by decide +kernel
theorem pn_1 : plainName "dexterous/io/BinaryXmlIsCompiledPinLaw" = true := by first | (simp [plainName, overriddenIn]; done) | decide +kernel
theorem ef_0 (m : MethodId) {p1 : Int32} {p2 : Int32} {p3 : Int32} {q4 : Int64} : entryFrame m #[(.int p1), (.int p2), (.int p3), (.long q4)] maxLocals = mkF m 0 #[.val (.int p1), .val (.int p2), .val (.int p3), .val (.long q4), .second, .unset, .unset, .unset, .unset, .unset, .unset, .unset, .unset, .unset] [] := by first | (simp [entryFrame, mkF, argsToLocals, Value.category, maxLocals]; done) | rfl
def Q0 (Z : State) (p1 : Int32) (p2 : Int32) (p3 : Int32) (q4 : Int64) (h0 : Heap) (n0 : Nat) (v : Option Value) (h : Heap) (L : List Loc) : Prop := v = some (.int 1) ∧ Fr n0 L
set_option maxRecDepth 65536 in
set_option maxHeartbeats 40000000 in
theorem rm0 (l : Launch) (Z : State) (a0 : Array Value) (hw : ∀ d ∈ tables_1, d.before a0 Z = true) (ws : List Jvm.Cond) (p1 : Int32) (p2 : Int32) (p3 : Int32) (q4 : Int64) (h0 : Heap) (n0 : Nat) (Z0 : n0 ≤ h0.size) :
    MetFree l x (head1 (Jvm.Cond.code x code maxLocals ret :: ws) room_1) (fun a U => a = #[(.int p1), (.int p2), (.int p3), (.long q4)] ∧ Z.Warmed39 U.vm ∧ U.heap = h0) (fun _ _ _ _ _ => True) (fun _ U o U' => ∃ v L, o = .returned v ∧ Q0 Z p1 p2 p3 q4 h0 n0 v U'.heap L ∧ FrameEnd U o U' L (room_1).cells (room_1).slots) := by
  refine MetFree.of_bodySF (plainFor_of_name pn_1) hisR ?_
  intro p e s m args below meth c s₁ Bd hml0 hP hK
  obtain ⟨rfl, hZ, hh⟩ := hP
  have hx := Bd.exec
  have hby := Bd.bytes
  have hml : c.maxLocals = 14 := hml0
  have hown : s.vm.findClass "dexterous/io/BinaryXmlIsCompiledPinLaw" = some m.cls := findClass_of_methodNamed Bd.named
  have hnm := (name_of_methodNamed Bd.named Bd.method).1
  have X0 : Stand p l e room_1 s m #[(.int p1), (.int p2), (.int p3), (.long q4)] below meth c s₁ [] 0 0 := Stand.of_body Bd
  have e0 : s₁.heap = h0 := by rw [← hh, Bd.state]; rfl
  have N0 := Fr.nil n0
  show own_Go p.tables e below (own_P s (Q0 Z p1 p2 p3 q4 h0 n0) room_1.cells room_1.slots) s₁ _
  rw [ef_0]
  show own_Go p.tables e below _ s₁ (mkF m 0 #[.val (.int p1), .val (.int p2), .val (.int p3), .val (.long q4), .second, .unset, .unset, .unset, .unset, .unset, .unset, .unset, .unset, .unset] [])
  obtain ⟨j, hj, ej⟩ := own_low p1
  have hj' : j < 2 ^ 31 := by omega
  refine own_go (fun tz kz => XS.iloadN X0.here hx rfl (hb hby at_0) rfl kz) ?_
  show own_Go p.tables e below _ s₁ (mkF m 1 #[.val (.int p1), .val (.int p2), .val (.int p3), .val (.long q4), .second, .unset, .unset, .unset, .unset, .unset, .unset, .unset, .unset, .unset] [(.int p1)])
  refine own_go (fun tz kz => XS.bipush X0.here hx rfl (hb hby at_1) kz) ?_
  show own_Go p.tables e below _ s₁ (mkF m 3 #[.val (.int p1), .val (.int p2), .val (.int p3), .val (.long q4), .second, .unset, .unset, .unset, .unset, .unset, .unset, .unset, .unset, .unset] [(.int (15 : Int32)), (.int p1)])
  refine own_go (fun tz kz => XS.iand X0.here hx rfl (hb hby at_3) rfl kz) ?_
  show own_Go p.tables e below _ s₁ (mkF m 4 #[.val (.int p1), .val (.int p2), .val (.int p3), .val (.long q4), .second, .unset, .unset, .unset, .unset, .unset, .unset, .unset, .unset, .unset] [(.int (p1 &&& (15 : Int32)))])
  rw [show (p1 &&& (15 : Int32)) = (Int32.ofNat j) from ej]
  show own_Go p.tables e below _ s₁ (mkF m 4 #[.val (.int p1), .val (.int p2), .val (.int p3), .val (.long q4), .second, .unset, .unset, .unset, .unset, .unset, .unset, .unset, .unset, .unset] [(.int (Int32.ofNat j))])
  refine own_go (fun tz kz => XS.istore X0.here hx rfl (hb hby at_4) rfl (l' := #[.val (.int p1), .val (.int p2), .val (.int p3), .val (.long q4), .second, .val (.int (Int32.ofNat j)), .unset, .unset, .unset, .unset, .unset, .unset, .unset, .unset]) rfl kz) ?_
  show own_Go p.tables e below _ s₁ (mkF m 6 #[.val (.int p1), .val (.int p2), .val (.int p3), .val (.long q4), .second, .val (.int (Int32.ofNat j)), .unset, .unset, .unset, .unset, .unset, .unset, .unset, .unset] [])
  refine own_go (fun tz kz => XS.iload X0.here hx rfl (hb hby at_6) rfl kz) ?_
  show own_Go p.tables e below _ s₁ (mkF m 8 #[.val (.int p1), .val (.int p2), .val (.int p3), .val (.long q4), .second, .val (.int (Int32.ofNat j)), .unset, .unset, .unset, .unset, .unset, .unset, .unset, .unset] [(.int (Int32.ofNat j))])
  obtain ⟨T1, h1, k1, X1, e1, E1, A1, st1⟩ := newP X0 hx hZ (hw _ (List.mem_of_getElem? (i := 0) rfl)) e0 (g := (mkF m 8 #[.val (.int p1), .val (.int p2), .val (.int p3), .val (.long q4), .second, .val (.int (Int32.ofNat j)), .unset, .unset, .unset, .unset, .unset, .unset, .unset, .unset] [(.int (Int32.ofNat j))])) rfl (hb hby at_8) rfl (own_nat hj').1 (cap := 15) (by rw [(own_nat hj').2]; omega) (by decide) (by decide) (by decide)
  obtain ⟨b, eq_b⟩ : ∃ z, z = (h0).size := ⟨_, rfl⟩
  rw [← eq_b] at A1 st1
  have g_b : n0 ≤ b := Nat.le_trans Z0 (Nat.le_of_eq eq_b.symm)
  have V_b : own_Av Z h1 b .byte j (fun _ => .int 0) := own_Av.new A1 (own_nat hj').2
  refine own_go st1 ?_
  show own_Go p.tables e below _ T1 (mkF m 10 #[.val (.int p1), .val (.int p2), .val (.int p3), .val (.long q4), .second, .val (.int (Int32.ofNat j)), .unset, .unset, .unset, .unset, .unset, .unset, .unset, .unset] [(.ref b)])
  refine own_go (fun tz kz => XS.astore X1.here hx rfl (hb hby at_10) rfl rfl (l' := #[.val (.int p1), .val (.int p2), .val (.int p3), .val (.long q4), .second, .val (.int (Int32.ofNat j)), .val (.ref b), .unset, .unset, .unset, .unset, .unset, .unset, .unset]) rfl kz) ?_
  show own_Go p.tables e below _ T1 (mkF m 12 #[.val (.int p1), .val (.int p2), .val (.int p3), .val (.long q4), .second, .val (.int (Int32.ofNat j)), .val (.ref b), .unset, .unset, .unset, .unset, .unset, .unset, .unset] [])
  refine own_go (fun tz kz => XS.iloadN X1.here hx rfl (hb hby at_12) rfl kz) ?_
  show own_Go p.tables e below _ T1 (mkF m 13 #[.val (.int p1), .val (.int p2), .val (.int p3), .val (.long q4), .second, .val (.int (Int32.ofNat j)), .val (.ref b), .unset, .unset, .unset, .unset, .unset, .unset, .unset] [(.int p2)])
  refine own_go (fun tz kz => XS.iconst X1.here hx rfl (hb hby at_13) kz) ?_
  show own_Go p.tables e below _ T1 (mkF m 14 #[.val (.int p1), .val (.int p2), .val (.int p3), .val (.long q4), .second, .val (.int (Int32.ofNat j)), .val (.ref b), .unset, .unset, .unset, .unset, .unset, .unset, .unset] [(.int (1 : Int32)), (.int p2)])
  refine own_go (fun tz kz => XS.iand X1.here hx rfl (hb hby at_14) rfl kz) ?_
  show own_Go p.tables e below _ T1 (mkF m 15 #[.val (.int p1), .val (.int p2), .val (.int p3), .val (.long q4), .second, .val (.int (Int32.ofNat j)), .val (.ref b), .unset, .unset, .unset, .unset, .unset, .unset, .unset] [(.int (p2 &&& (1 : Int32)))])
  have B0 : ∀ (b0 : Int32) (hb0 : own_b b0), own_Go p.tables e below (own_P s (Q0 Z p1 p2 p3 q4 h0 n0) room_1.cells room_1.slots) T1 (mkF m 27 #[.val (.int p1), .val (.int p2), .val (.int p3), .val (.long q4), .second, .val (.int (Int32.ofNat j)), .val (.ref b), .unset, .unset, .unset, .unset, .unset, .unset, .unset] [(.int b0)]) := by
    intro b0 hb0
    show own_Go p.tables e below _ T1 (mkF m 27 #[.val (.int p1), .val (.int p2), .val (.int p3), .val (.long q4), .second, .val (.int (Int32.ofNat j)), .val (.ref b), .unset, .unset, .unset, .unset, .unset, .unset, .unset] [(.int b0)])
    refine own_go (fun tz kz => XS.istore X1.here hx rfl (hb hby at_27) rfl (l' := #[.val (.int p1), .val (.int p2), .val (.int p3), .val (.long q4), .second, .val (.int (Int32.ofNat j)), .val (.ref b), .val (.int b0), .unset, .unset, .unset, .unset, .unset, .unset]) rfl kz) ?_
    show own_Go p.tables e below _ T1 (mkF m 29 #[.val (.int p1), .val (.int p2), .val (.int p3), .val (.long q4), .second, .val (.int (Int32.ofNat j)), .val (.ref b), .val (.int b0), .unset, .unset, .unset, .unset, .unset, .unset] [])
    refine own_go (fun tz kz => XS.iloadN X1.here hx rfl (hb hby at_29) rfl kz) ?_
    show own_Go p.tables e below _ T1 (mkF m 30 #[.val (.int p1), .val (.int p2), .val (.int p3), .val (.long q4), .second, .val (.int (Int32.ofNat j)), .val (.ref b), .val (.int b0), .unset, .unset, .unset, .unset, .unset, .unset] [(.int p2)])
    refine own_go (fun tz kz => XS.iconst X1.here hx rfl (hb hby at_30) kz) ?_
    show own_Go p.tables e below _ T1 (mkF m 31 #[.val (.int p1), .val (.int p2), .val (.int p3), .val (.long q4), .second, .val (.int (Int32.ofNat j)), .val (.ref b), .val (.int b0), .unset, .unset, .unset, .unset, .unset, .unset] [(.int (2 : Int32)), (.int p2)])
    refine own_go (fun tz kz => XS.iand X1.here hx rfl (hb hby at_31) rfl kz) ?_
    show own_Go p.tables e below _ T1 (mkF m 32 #[.val (.int p1), .val (.int p2), .val (.int p3), .val (.long q4), .second, .val (.int (Int32.ofNat j)), .val (.ref b), .val (.int b0), .unset, .unset, .unset, .unset, .unset, .unset] [(.int (p2 &&& (2 : Int32)))])
    have B1 : ∀ (b1 : Int32) (hb1 : own_b b1), own_Go p.tables e below (own_P s (Q0 Z p1 p2 p3 q4 h0 n0) room_1.cells room_1.slots) T1 (mkF m 47 #[.val (.int p1), .val (.int p2), .val (.int p3), .val (.long q4), .second, .val (.int (Int32.ofNat j)), .val (.ref b), .val (.int b0), .unset, .unset, .unset, .unset, .unset, .unset] [(.int b1)]) := by
      intro b1 hb1
      show own_Go p.tables e below _ T1 (mkF m 47 #[.val (.int p1), .val (.int p2), .val (.int p3), .val (.long q4), .second, .val (.int (Int32.ofNat j)), .val (.ref b), .val (.int b0), .unset, .unset, .unset, .unset, .unset, .unset] [(.int b1)])
      refine own_go (fun tz kz => XS.istore X1.here hx rfl (hb hby at_47) rfl (l' := #[.val (.int p1), .val (.int p2), .val (.int p3), .val (.long q4), .second, .val (.int (Int32.ofNat j)), .val (.ref b), .val (.int b0), .val (.int b1), .unset, .unset, .unset, .unset, .unset]) rfl kz) ?_
      show own_Go p.tables e below _ T1 (mkF m 49 #[.val (.int p1), .val (.int p2), .val (.int p3), .val (.long q4), .second, .val (.int (Int32.ofNat j)), .val (.ref b), .val (.int b0), .val (.int b1), .unset, .unset, .unset, .unset, .unset] [])
      refine own_go (fun tz kz => XS.iloadN X1.here hx rfl (hb hby at_49) rfl kz) ?_
      show own_Go p.tables e below _ T1 (mkF m 50 #[.val (.int p1), .val (.int p2), .val (.int p3), .val (.long q4), .second, .val (.int (Int32.ofNat j)), .val (.ref b), .val (.int b0), .val (.int b1), .unset, .unset, .unset, .unset, .unset] [(.int p2)])
      refine own_go (fun tz kz => XS.iconst X1.here hx rfl (hb hby at_50) kz) ?_
      show own_Go p.tables e below _ T1 (mkF m 51 #[.val (.int p1), .val (.int p2), .val (.int p3), .val (.long q4), .second, .val (.int (Int32.ofNat j)), .val (.ref b), .val (.int b0), .val (.int b1), .unset, .unset, .unset, .unset, .unset] [(.int (4 : Int32)), (.int p2)])
      refine own_go (fun tz kz => XS.iand X1.here hx rfl (hb hby at_51) rfl kz) ?_
      show own_Go p.tables e below _ T1 (mkF m 52 #[.val (.int p1), .val (.int p2), .val (.int p3), .val (.long q4), .second, .val (.int (Int32.ofNat j)), .val (.ref b), .val (.int b0), .val (.int b1), .unset, .unset, .unset, .unset, .unset] [(.int (p2 &&& (4 : Int32)))])
      have B2 : ∀ (b2 : Int32) (hb2 : own_b b2), own_Go p.tables e below (own_P s (Q0 Z p1 p2 p3 q4 h0 n0) room_1.cells room_1.slots) T1 (mkF m 68 #[.val (.int p1), .val (.int p2), .val (.int p3), .val (.long q4), .second, .val (.int (Int32.ofNat j)), .val (.ref b), .val (.int b0), .val (.int b1), .unset, .unset, .unset, .unset, .unset] [(.int b2)]) := by
        intro b2 hb2
        show own_Go p.tables e below _ T1 (mkF m 68 #[.val (.int p1), .val (.int p2), .val (.int p3), .val (.long q4), .second, .val (.int (Int32.ofNat j)), .val (.ref b), .val (.int b0), .val (.int b1), .unset, .unset, .unset, .unset, .unset] [(.int b2)])
        refine own_go (fun tz kz => XS.istore X1.here hx rfl (hb hby at_68) rfl (l' := #[.val (.int p1), .val (.int p2), .val (.int p3), .val (.long q4), .second, .val (.int (Int32.ofNat j)), .val (.ref b), .val (.int b0), .val (.int b1), .val (.int b2), .unset, .unset, .unset, .unset]) rfl kz) ?_
        show own_Go p.tables e below _ T1 (mkF m 70 #[.val (.int p1), .val (.int p2), .val (.int p3), .val (.long q4), .second, .val (.int (Int32.ofNat j)), .val (.ref b), .val (.int b0), .val (.int b1), .val (.int b2), .unset, .unset, .unset, .unset] [])
        refine own_go (fun tz kz => XS.iloadN X1.here hx rfl (hb hby at_70) rfl kz) ?_
        show own_Go p.tables e below _ T1 (mkF m 71 #[.val (.int p1), .val (.int p2), .val (.int p3), .val (.long q4), .second, .val (.int (Int32.ofNat j)), .val (.ref b), .val (.int b0), .val (.int b1), .val (.int b2), .unset, .unset, .unset, .unset] [(.int p2)])
        refine own_go (fun tz kz => XS.bipush X1.here hx rfl (hb hby at_71) kz) ?_
        show own_Go p.tables e below _ T1 (mkF m 73 #[.val (.int p1), .val (.int p2), .val (.int p3), .val (.long q4), .second, .val (.int (Int32.ofNat j)), .val (.ref b), .val (.int b0), .val (.int b1), .val (.int b2), .unset, .unset, .unset, .unset] [(.int (8 : Int32)), (.int p2)])
        refine own_go (fun tz kz => XS.iand X1.here hx rfl (hb hby at_73) rfl kz) ?_
        show own_Go p.tables e below _ T1 (mkF m 74 #[.val (.int p1), .val (.int p2), .val (.int p3), .val (.long q4), .second, .val (.int (Int32.ofNat j)), .val (.ref b), .val (.int b0), .val (.int b1), .val (.int b2), .unset, .unset, .unset, .unset] [(.int (p2 &&& (8 : Int32)))])
        have B3 : ∀ (b3 : Int32) (hb3 : own_b b3), own_Go p.tables e below (own_P s (Q0 Z p1 p2 p3 q4 h0 n0) room_1.cells room_1.slots) T1 (mkF m 89 #[.val (.int p1), .val (.int p2), .val (.int p3), .val (.long q4), .second, .val (.int (Int32.ofNat j)), .val (.ref b), .val (.int b0), .val (.int b1), .val (.int b2), .unset, .unset, .unset, .unset] [(.int b3)]) := by
          intro b3 hb3
          show own_Go p.tables e below _ T1 (mkF m 89 #[.val (.int p1), .val (.int p2), .val (.int p3), .val (.long q4), .second, .val (.int (Int32.ofNat j)), .val (.ref b), .val (.int b0), .val (.int b1), .val (.int b2), .unset, .unset, .unset, .unset] [(.int b3)])
          refine own_go (fun tz kz => XS.istore X1.here hx rfl (hb hby at_89) rfl (l' := #[.val (.int p1), .val (.int p2), .val (.int p3), .val (.long q4), .second, .val (.int (Int32.ofNat j)), .val (.ref b), .val (.int b0), .val (.int b1), .val (.int b2), .val (.int b3), .unset, .unset, .unset]) rfl kz) ?_
          show own_Go p.tables e below _ T1 (mkF m 91 #[.val (.int p1), .val (.int p2), .val (.int p3), .val (.long q4), .second, .val (.int (Int32.ofNat j)), .val (.ref b), .val (.int b0), .val (.int b1), .val (.int b2), .val (.int b3), .unset, .unset, .unset] [])
          refine own_go (fun tz kz => XS.iload X1.here hx rfl (hb hby at_91) rfl kz) ?_
          show own_Go p.tables e below _ T1 (mkF m 93 #[.val (.int p1), .val (.int p2), .val (.int p3), .val (.long q4), .second, .val (.int (Int32.ofNat j)), .val (.ref b), .val (.int b0), .val (.int b1), .val (.int b2), .val (.int b3), .unset, .unset, .unset] [(.int (Int32.ofNat j))])
          have A0 : ∀ (T2 : State) (h2 : Heap) (lo2 : List Loc) (X2 : Stand p l e room_1 s m #[(.int p1), (.int p2), (.int p3), (.long q4)] below meth c T2 lo2 1 15) (e2 : T2.heap = h2) (N2 : Fr n0 lo2) (Zs2 : n0 ≤ h2.size) (f0 : Nat → Value) (V0 : own_Av Z h2 b .byte j f0) (q0_0 : 0 < j → f0 0 = .int b0.toInt8.toInt32), own_Go p.tables e below (own_P s (Q0 Z p1 p2 p3 q4 h0 n0) room_1.cells room_1.slots) T2 (mkF m 103 #[.val (.int p1), .val (.int p2), .val (.int p3), .val (.long q4), .second, .val (.int (Int32.ofNat j)), .val (.ref b), .val (.int b0), .val (.int b1), .val (.int b2), .val (.int b3), .unset, .unset, .unset] []) := by
            intro T2 h2 lo2 X2 e2 N2 Zs2 f0 V0 q0_0
            show own_Go p.tables e below _ T2 (mkF m 103 #[.val (.int p1), .val (.int p2), .val (.int p3), .val (.long q4), .second, .val (.int (Int32.ofNat j)), .val (.ref b), .val (.int b0), .val (.int b1), .val (.int b2), .val (.int b3), .unset, .unset, .unset] [])
            refine own_go (fun tz kz => XS.iload X2.here hx rfl (hb hby at_103) rfl kz) ?_
            show own_Go p.tables e below _ T2 (mkF m 105 #[.val (.int p1), .val (.int p2), .val (.int p3), .val (.long q4), .second, .val (.int (Int32.ofNat j)), .val (.ref b), .val (.int b0), .val (.int b1), .val (.int b2), .val (.int b3), .unset, .unset, .unset] [(.int (Int32.ofNat j))])
            refine own_go (fun tz kz => XS.iconst X2.here hx rfl (hb hby at_105) kz) ?_
            show own_Go p.tables e below _ T2 (mkF m 106 #[.val (.int p1), .val (.int p2), .val (.int p3), .val (.long q4), .second, .val (.int (Int32.ofNat j)), .val (.ref b), .val (.int b0), .val (.int b1), .val (.int b2), .val (.int b3), .unset, .unset, .unset] [(.int (1 : Int32)), (.int (Int32.ofNat j))])
            have A1 : ∀ (T3 : State) (h3 : Heap) (lo3 : List Loc) (X3 : Stand p l e room_1 s m #[(.int p1), (.int p2), (.int p3), (.long q4)] below meth c T3 lo3 1 15) (e3 : T3.heap = h3) (N3 : Fr n0 lo3) (Zs3 : n0 ≤ h3.size) (f1 : Nat → Value) (V1 : own_Av Z h3 b .byte j f1) (q1_0 : 0 < j → f1 0 = .int b0.toInt8.toInt32) (q1_1 : 1 < j → f1 1 = .int b1.toInt8.toInt32), own_Go p.tables e below (own_P s (Q0 Z p1 p2 p3 q4 h0 n0) room_1.cells room_1.slots) T3 (mkF m 116 #[.val (.int p1), .val (.int p2), .val (.int p3), .val (.long q4), .second, .val (.int (Int32.ofNat j)), .val (.ref b), .val (.int b0), .val (.int b1), .val (.int b2), .val (.int b3), .unset, .unset, .unset] []) := by
              intro T3 h3 lo3 X3 e3 N3 Zs3 f1 V1 q1_0 q1_1
              show own_Go p.tables e below _ T3 (mkF m 116 #[.val (.int p1), .val (.int p2), .val (.int p3), .val (.long q4), .second, .val (.int (Int32.ofNat j)), .val (.ref b), .val (.int b0), .val (.int b1), .val (.int b2), .val (.int b3), .unset, .unset, .unset] [])
              refine own_go (fun tz kz => XS.iload X3.here hx rfl (hb hby at_116) rfl kz) ?_
              show own_Go p.tables e below _ T3 (mkF m 118 #[.val (.int p1), .val (.int p2), .val (.int p3), .val (.long q4), .second, .val (.int (Int32.ofNat j)), .val (.ref b), .val (.int b0), .val (.int b1), .val (.int b2), .val (.int b3), .unset, .unset, .unset] [(.int (Int32.ofNat j))])
              refine own_go (fun tz kz => XS.iconst X3.here hx rfl (hb hby at_118) kz) ?_
              show own_Go p.tables e below _ T3 (mkF m 119 #[.val (.int p1), .val (.int p2), .val (.int p3), .val (.long q4), .second, .val (.int (Int32.ofNat j)), .val (.ref b), .val (.int b0), .val (.int b1), .val (.int b2), .val (.int b3), .unset, .unset, .unset] [(.int (2 : Int32)), (.int (Int32.ofNat j))])
              have A2 : ∀ (T4 : State) (h4 : Heap) (lo4 : List Loc) (X4 : Stand p l e room_1 s m #[(.int p1), (.int p2), (.int p3), (.long q4)] below meth c T4 lo4 1 15) (e4 : T4.heap = h4) (N4 : Fr n0 lo4) (Zs4 : n0 ≤ h4.size) (f2 : Nat → Value) (V2 : own_Av Z h4 b .byte j f2) (q2_0 : 0 < j → f2 0 = .int b0.toInt8.toInt32) (q2_1 : 1 < j → f2 1 = .int b1.toInt8.toInt32) (q2_2 : 2 < j → f2 2 = .int b2.toInt8.toInt32), own_Go p.tables e below (own_P s (Q0 Z p1 p2 p3 q4 h0 n0) room_1.cells room_1.slots) T4 (mkF m 129 #[.val (.int p1), .val (.int p2), .val (.int p3), .val (.long q4), .second, .val (.int (Int32.ofNat j)), .val (.ref b), .val (.int b0), .val (.int b1), .val (.int b2), .val (.int b3), .unset, .unset, .unset] []) := by
                intro T4 h4 lo4 X4 e4 N4 Zs4 f2 V2 q2_0 q2_1 q2_2
                show own_Go p.tables e below _ T4 (mkF m 129 #[.val (.int p1), .val (.int p2), .val (.int p3), .val (.long q4), .second, .val (.int (Int32.ofNat j)), .val (.ref b), .val (.int b0), .val (.int b1), .val (.int b2), .val (.int b3), .unset, .unset, .unset] [])
                refine own_go (fun tz kz => XS.iload X4.here hx rfl (hb hby at_129) rfl kz) ?_
                show own_Go p.tables e below _ T4 (mkF m 131 #[.val (.int p1), .val (.int p2), .val (.int p3), .val (.long q4), .second, .val (.int (Int32.ofNat j)), .val (.ref b), .val (.int b0), .val (.int b1), .val (.int b2), .val (.int b3), .unset, .unset, .unset] [(.int (Int32.ofNat j))])
                refine own_go (fun tz kz => XS.iconst X4.here hx rfl (hb hby at_131) kz) ?_
                show own_Go p.tables e below _ T4 (mkF m 132 #[.val (.int p1), .val (.int p2), .val (.int p3), .val (.long q4), .second, .val (.int (Int32.ofNat j)), .val (.ref b), .val (.int b0), .val (.int b1), .val (.int b2), .val (.int b3), .unset, .unset, .unset] [(.int (3 : Int32)), (.int (Int32.ofNat j))])
                have A3 : ∀ (T5 : State) (h5 : Heap) (lo5 : List Loc) (X5 : Stand p l e room_1 s m #[(.int p1), (.int p2), (.int p3), (.long q4)] below meth c T5 lo5 1 15) (e5 : T5.heap = h5) (N5 : Fr n0 lo5) (Zs5 : n0 ≤ h5.size) (f3 : Nat → Value) (V3 : own_Av Z h5 b .byte j f3) (q3_0 : 0 < j → f3 0 = .int b0.toInt8.toInt32) (q3_1 : 1 < j → f3 1 = .int b1.toInt8.toInt32) (q3_2 : 2 < j → f3 2 = .int b2.toInt8.toInt32) (q3_3 : 3 < j → f3 3 = .int b3.toInt8.toInt32), own_Go p.tables e below (own_P s (Q0 Z p1 p2 p3 q4 h0 n0) room_1.cells room_1.slots) T5 (mkF m 142 #[.val (.int p1), .val (.int p2), .val (.int p3), .val (.long q4), .second, .val (.int (Int32.ofNat j)), .val (.ref b), .val (.int b0), .val (.int b1), .val (.int b2), .val (.int b3), .unset, .unset, .unset] []) := by
                  intro T5 h5 lo5 X5 e5 N5 Zs5 f3 V3 q3_0 q3_1 q3_2 q3_3
                  show own_Go p.tables e below _ T5 (mkF m 142 #[.val (.int p1), .val (.int p2), .val (.int p3), .val (.long q4), .second, .val (.int (Int32.ofNat j)), .val (.ref b), .val (.int b0), .val (.int b1), .val (.int b2), .val (.int b3), .unset, .unset, .unset] [])
                  refine own_go (fun tz kz => XS.iload X5.here hx rfl (hb hby at_142) rfl kz) ?_
                  show own_Go p.tables e below _ T5 (mkF m 144 #[.val (.int p1), .val (.int p2), .val (.int p3), .val (.long q4), .second, .val (.int (Int32.ofNat j)), .val (.ref b), .val (.int b0), .val (.int b1), .val (.int b2), .val (.int b3), .unset, .unset, .unset] [(.int (Int32.ofNat j))])
                  refine own_go (fun tz kz => XS.iconst X5.here hx rfl (hb hby at_144) kz) ?_
                  show own_Go p.tables e below _ T5 (mkF m 145 #[.val (.int p1), .val (.int p2), .val (.int p3), .val (.long q4), .second, .val (.int (Int32.ofNat j)), .val (.ref b), .val (.int b0), .val (.int b1), .val (.int b2), .val (.int b3), .unset, .unset, .unset] [(.int (4 : Int32)), (.int (Int32.ofNat j))])
                  have A4 : ∀ (T6 : State) (h6 : Heap) (lo6 : List Loc) (X6 : Stand p l e room_1 s m #[(.int p1), (.int p2), (.int p3), (.long q4)] below meth c T6 lo6 1 15) (e6 : T6.heap = h6) (N6 : Fr n0 lo6) (Zs6 : n0 ≤ h6.size) (f4 : Nat → Value) (V4 : own_Av Z h6 b .byte j f4) (q4_0 : 0 < j → f4 0 = .int b0.toInt8.toInt32) (q4_1 : 1 < j → f4 1 = .int b1.toInt8.toInt32) (q4_2 : 2 < j → f4 2 = .int b2.toInt8.toInt32) (q4_3 : 3 < j → f4 3 = .int b3.toInt8.toInt32), own_Go p.tables e below (own_P s (Q0 Z p1 p2 p3 q4 h0 n0) room_1.cells room_1.slots) T6 (mkF m 155 #[.val (.int p1), .val (.int p2), .val (.int p3), .val (.long q4), .second, .val (.int (Int32.ofNat j)), .val (.ref b), .val (.int b0), .val (.int b1), .val (.int b2), .val (.int b3), .unset, .unset, .unset] []) := by
                    intro T6 h6 lo6 X6 e6 N6 Zs6 f4 V4 q4_0 q4_1 q4_2 q4_3
                    show own_Go p.tables e below _ T6 (mkF m 155 #[.val (.int p1), .val (.int p2), .val (.int p3), .val (.long q4), .second, .val (.int (Int32.ofNat j)), .val (.ref b), .val (.int b0), .val (.int b1), .val (.int b2), .val (.int b3), .unset, .unset, .unset] [])
                    refine own_go (fun tz kz => XS.iload X6.here hx rfl (hb hby at_155) rfl kz) ?_
                    show own_Go p.tables e below _ T6 (mkF m 157 #[.val (.int p1), .val (.int p2), .val (.int p3), .val (.long q4), .second, .val (.int (Int32.ofNat j)), .val (.ref b), .val (.int b0), .val (.int b1), .val (.int b2), .val (.int b3), .unset, .unset, .unset] [(.int (Int32.ofNat j))])
                    refine own_go (fun tz kz => XS.iconst X6.here hx rfl (hb hby at_157) kz) ?_
                    show own_Go p.tables e below _ T6 (mkF m 158 #[.val (.int p1), .val (.int p2), .val (.int p3), .val (.long q4), .second, .val (.int (Int32.ofNat j)), .val (.ref b), .val (.int b0), .val (.int b1), .val (.int b2), .val (.int b3), .unset, .unset, .unset] [(.int (5 : Int32)), (.int (Int32.ofNat j))])
                    have A5 : ∀ (T7 : State) (h7 : Heap) (lo7 : List Loc) (X7 : Stand p l e room_1 s m #[(.int p1), (.int p2), (.int p3), (.long q4)] below meth c T7 lo7 1 15) (e7 : T7.heap = h7) (N7 : Fr n0 lo7) (Zs7 : n0 ≤ h7.size) (f5 : Nat → Value) (V5 : own_Av Z h7 b .byte j f5) (q5_0 : 0 < j → f5 0 = .int b0.toInt8.toInt32) (q5_1 : 1 < j → f5 1 = .int b1.toInt8.toInt32) (q5_2 : 2 < j → f5 2 = .int b2.toInt8.toInt32) (q5_3 : 3 < j → f5 3 = .int b3.toInt8.toInt32), own_Go p.tables e below (own_P s (Q0 Z p1 p2 p3 q4 h0 n0) room_1.cells room_1.slots) T7 (mkF m 171 #[.val (.int p1), .val (.int p2), .val (.int p3), .val (.long q4), .second, .val (.int (Int32.ofNat j)), .val (.ref b), .val (.int b0), .val (.int b1), .val (.int b2), .val (.int b3), .unset, .unset, .unset] []) := by
                      intro T7 h7 lo7 X7 e7 N7 Zs7 f5 V5 q5_0 q5_1 q5_2 q5_3
                      show own_Go p.tables e below _ T7 (mkF m 171 #[.val (.int p1), .val (.int p2), .val (.int p3), .val (.long q4), .second, .val (.int (Int32.ofNat j)), .val (.ref b), .val (.int b0), .val (.int b1), .val (.int b2), .val (.int b3), .unset, .unset, .unset] [])
                      refine own_go (fun tz kz => XS.iload X7.here hx rfl (hb hby at_171) rfl kz) ?_
                      show own_Go p.tables e below _ T7 (mkF m 173 #[.val (.int p1), .val (.int p2), .val (.int p3), .val (.long q4), .second, .val (.int (Int32.ofNat j)), .val (.ref b), .val (.int b0), .val (.int b1), .val (.int b2), .val (.int b3), .unset, .unset, .unset] [(.int (Int32.ofNat j))])
                      refine own_go (fun tz kz => XS.bipush X7.here hx rfl (hb hby at_173) kz) ?_
                      show own_Go p.tables e below _ T7 (mkF m 175 #[.val (.int p1), .val (.int p2), .val (.int p3), .val (.long q4), .second, .val (.int (Int32.ofNat j)), .val (.ref b), .val (.int b0), .val (.int b1), .val (.int b2), .val (.int b3), .unset, .unset, .unset] [(.int (6 : Int32)), (.int (Int32.ofNat j))])
                      have A6 : ∀ (T8 : State) (h8 : Heap) (lo8 : List Loc) (X8 : Stand p l e room_1 s m #[(.int p1), (.int p2), (.int p3), (.long q4)] below meth c T8 lo8 1 15) (e8 : T8.heap = h8) (N8 : Fr n0 lo8) (Zs8 : n0 ≤ h8.size) (f6 : Nat → Value) (V6 : own_Av Z h8 b .byte j f6) (q6_0 : 0 < j → f6 0 = .int b0.toInt8.toInt32) (q6_1 : 1 < j → f6 1 = .int b1.toInt8.toInt32) (q6_2 : 2 < j → f6 2 = .int b2.toInt8.toInt32) (q6_3 : 3 < j → f6 3 = .int b3.toInt8.toInt32), own_Go p.tables e below (own_P s (Q0 Z p1 p2 p3 q4 h0 n0) room_1.cells room_1.slots) T8 (mkF m 189 #[.val (.int p1), .val (.int p2), .val (.int p3), .val (.long q4), .second, .val (.int (Int32.ofNat j)), .val (.ref b), .val (.int b0), .val (.int b1), .val (.int b2), .val (.int b3), .unset, .unset, .unset] []) := by
                        intro T8 h8 lo8 X8 e8 N8 Zs8 f6 V6 q6_0 q6_1 q6_2 q6_3
                        show own_Go p.tables e below _ T8 (mkF m 189 #[.val (.int p1), .val (.int p2), .val (.int p3), .val (.long q4), .second, .val (.int (Int32.ofNat j)), .val (.ref b), .val (.int b0), .val (.int b1), .val (.int b2), .val (.int b3), .unset, .unset, .unset] [])
                        refine own_go (fun tz kz => XS.iload X8.here hx rfl (hb hby at_189) rfl kz) ?_
                        show own_Go p.tables e below _ T8 (mkF m 191 #[.val (.int p1), .val (.int p2), .val (.int p3), .val (.long q4), .second, .val (.int (Int32.ofNat j)), .val (.ref b), .val (.int b0), .val (.int b1), .val (.int b2), .val (.int b3), .unset, .unset, .unset] [(.int (Int32.ofNat j))])
                        refine own_go (fun tz kz => XS.bipush X8.here hx rfl (hb hby at_191) kz) ?_
                        show own_Go p.tables e below _ T8 (mkF m 193 #[.val (.int p1), .val (.int p2), .val (.int p3), .val (.long q4), .second, .val (.int (Int32.ofNat j)), .val (.ref b), .val (.int b0), .val (.int b1), .val (.int b2), .val (.int b3), .unset, .unset, .unset] [(.int (7 : Int32)), (.int (Int32.ofNat j))])
                        have A7 : ∀ (T9 : State) (h9 : Heap) (lo9 : List Loc) (X9 : Stand p l e room_1 s m #[(.int p1), (.int p2), (.int p3), (.long q4)] below meth c T9 lo9 1 15) (e9 : T9.heap = h9) (N9 : Fr n0 lo9) (Zs9 : n0 ≤ h9.size) (f7 : Nat → Value) (V7 : own_Av Z h9 b .byte j f7) (q7_0 : 0 < j → f7 0 = .int b0.toInt8.toInt32) (q7_1 : 1 < j → f7 1 = .int b1.toInt8.toInt32) (q7_2 : 2 < j → f7 2 = .int b2.toInt8.toInt32) (q7_3 : 3 < j → f7 3 = .int b3.toInt8.toInt32), own_Go p.tables e below (own_P s (Q0 Z p1 p2 p3 q4 h0 n0) room_1.cells room_1.slots) T9 (mkF m 207 #[.val (.int p1), .val (.int p2), .val (.int p3), .val (.long q4), .second, .val (.int (Int32.ofNat j)), .val (.ref b), .val (.int b0), .val (.int b1), .val (.int b2), .val (.int b3), .unset, .unset, .unset] []) := by
                          intro T9 h9 lo9 X9 e9 N9 Zs9 f7 V7 q7_0 q7_1 q7_2 q7_3
                          show own_Go p.tables e below _ T9 (mkF m 207 #[.val (.int p1), .val (.int p2), .val (.int p3), .val (.long q4), .second, .val (.int (Int32.ofNat j)), .val (.ref b), .val (.int b0), .val (.int b1), .val (.int b2), .val (.int b3), .unset, .unset, .unset] [])
                          refine own_go (fun tz kz => XS.iload X9.here hx rfl (hb hby at_207) rfl kz) ?_
                          show own_Go p.tables e below _ T9 (mkF m 209 #[.val (.int p1), .val (.int p2), .val (.int p3), .val (.long q4), .second, .val (.int (Int32.ofNat j)), .val (.ref b), .val (.int b0), .val (.int b1), .val (.int b2), .val (.int b3), .unset, .unset, .unset] [(.int (Int32.ofNat j))])
                          refine own_go (fun tz kz => XS.bipush X9.here hx rfl (hb hby at_209) kz) ?_
                          show own_Go p.tables e below _ T9 (mkF m 211 #[.val (.int p1), .val (.int p2), .val (.int p3), .val (.long q4), .second, .val (.int (Int32.ofNat j)), .val (.ref b), .val (.int b0), .val (.int b1), .val (.int b2), .val (.int b3), .unset, .unset, .unset] [(.int (8 : Int32)), (.int (Int32.ofNat j))])
                          have A8 : ∀ (T10 : State) (h10 : Heap) (lo10 : List Loc) (X10 : Stand p l e room_1 s m #[(.int p1), (.int p2), (.int p3), (.long q4)] below meth c T10 lo10 1 15) (e10 : T10.heap = h10) (N10 : Fr n0 lo10) (Zs10 : n0 ≤ h10.size) (f8 : Nat → Value) (V8 : own_Av Z h10 b .byte j f8) (q8_0 : 0 < j → f8 0 = .int b0.toInt8.toInt32) (q8_1 : 1 < j → f8 1 = .int b1.toInt8.toInt32) (q8_2 : 2 < j → f8 2 = .int b2.toInt8.toInt32) (q8_3 : 3 < j → f8 3 = .int b3.toInt8.toInt32), own_Go p.tables e below (own_P s (Q0 Z p1 p2 p3 q4 h0 n0) room_1.cells room_1.slots) T10 (mkF m 225 #[.val (.int p1), .val (.int p2), .val (.int p3), .val (.long q4), .second, .val (.int (Int32.ofNat j)), .val (.ref b), .val (.int b0), .val (.int b1), .val (.int b2), .val (.int b3), .unset, .unset, .unset] []) := by
                            intro T10 h10 lo10 X10 e10 N10 Zs10 f8 V8 q8_0 q8_1 q8_2 q8_3
                            show own_Go p.tables e below _ T10 (mkF m 225 #[.val (.int p1), .val (.int p2), .val (.int p3), .val (.long q4), .second, .val (.int (Int32.ofNat j)), .val (.ref b), .val (.int b0), .val (.int b1), .val (.int b2), .val (.int b3), .unset, .unset, .unset] [])
                            refine own_go (fun tz kz => XS.iload X10.here hx rfl (hb hby at_225) rfl kz) ?_
                            show own_Go p.tables e below _ T10 (mkF m 227 #[.val (.int p1), .val (.int p2), .val (.int p3), .val (.long q4), .second, .val (.int (Int32.ofNat j)), .val (.ref b), .val (.int b0), .val (.int b1), .val (.int b2), .val (.int b3), .unset, .unset, .unset] [(.int (Int32.ofNat j))])
                            refine own_go (fun tz kz => XS.bipush X10.here hx rfl (hb hby at_227) kz) ?_
                            show own_Go p.tables e below _ T10 (mkF m 229 #[.val (.int p1), .val (.int p2), .val (.int p3), .val (.long q4), .second, .val (.int (Int32.ofNat j)), .val (.ref b), .val (.int b0), .val (.int b1), .val (.int b2), .val (.int b3), .unset, .unset, .unset] [(.int (9 : Int32)), (.int (Int32.ofNat j))])
                            have A9 : ∀ (T11 : State) (h11 : Heap) (lo11 : List Loc) (X11 : Stand p l e room_1 s m #[(.int p1), (.int p2), (.int p3), (.long q4)] below meth c T11 lo11 1 15) (e11 : T11.heap = h11) (N11 : Fr n0 lo11) (Zs11 : n0 ≤ h11.size) (f9 : Nat → Value) (V9 : own_Av Z h11 b .byte j f9) (q9_0 : 0 < j → f9 0 = .int b0.toInt8.toInt32) (q9_1 : 1 < j → f9 1 = .int b1.toInt8.toInt32) (q9_2 : 2 < j → f9 2 = .int b2.toInt8.toInt32) (q9_3 : 3 < j → f9 3 = .int b3.toInt8.toInt32), own_Go p.tables e below (own_P s (Q0 Z p1 p2 p3 q4 h0 n0) room_1.cells room_1.slots) T11 (mkF m 243 #[.val (.int p1), .val (.int p2), .val (.int p3), .val (.long q4), .second, .val (.int (Int32.ofNat j)), .val (.ref b), .val (.int b0), .val (.int b1), .val (.int b2), .val (.int b3), .unset, .unset, .unset] []) := by
                              intro T11 h11 lo11 X11 e11 N11 Zs11 f9 V9 q9_0 q9_1 q9_2 q9_3
                              show own_Go p.tables e below _ T11 (mkF m 243 #[.val (.int p1), .val (.int p2), .val (.int p3), .val (.long q4), .second, .val (.int (Int32.ofNat j)), .val (.ref b), .val (.int b0), .val (.int b1), .val (.int b2), .val (.int b3), .unset, .unset, .unset] [])
                              refine own_go (fun tz kz => XS.aload X11.here hx rfl (hb hby at_243) rfl rfl kz) ?_
                              show own_Go p.tables e below _ T11 (mkF m 245 #[.val (.int p1), .val (.int p2), .val (.int p3), .val (.long q4), .second, .val (.int (Int32.ofNat j)), .val (.ref b), .val (.int b0), .val (.int b1), .val (.int b2), .val (.int b3), .unset, .unset, .unset] [(.ref b)])
                              obtain ⟨_, _, ⟨T12, L12, k12, n12⟩, -, X12, ⟨Lc12, hQ12, l12, y12, z12⟩, st12⟩ := Jvm.LawKit.callS X11 hx (y := (⟨"dexterous/io/BinaryXml", "isCompiled", "([B)Z"⟩ : MethodName)) hown (mvT hZ (hw _ (List.mem_of_getElem? (i := 1) rfl))) (mvT hZ (hw _ (List.mem_of_getElem? (i := 2) rfl))) (mvT hZ (hw _ (List.mem_of_getElem? (i := 3) rfl))) (mvT hZ (hw _ (List.mem_of_getElem? (i := 4) rfl))) (by decide) (backOf (W := 0) (rm1 l Z a0 hw [] b j f9 b0.toInt8.toInt32 b1.toInt8.toInt32 b2.toInt8.toInt32 b3.toInt8.toInt32 h11 n0 Zs11 V9 hj' q9_0 q9_1 q9_2 q9_3) hZ (hw _ (List.mem_of_getElem? (i := 4) rfl)) (hw _ (List.mem_of_getElem? (i := 3) rfl)) (by decide) (by decide)) (g := (mkF m 245 #[.val (.int p1), .val (.int p2), .val (.int p3), .val (.long q4), .second, .val (.int (Int32.ofNat j)), .val (.ref b), .val (.int b0), .val (.int b1), .val (.int b2), .val (.int b3), .unset, .unset, .unset] [(.ref b)])) rfl (by rw [hml]; rfl) (argsL := [(.ref b)]) (rest := []) (lenOf pd_0 rfl) rfl (by show 2 * 0 + _ ≤ _; exact Nat.le_of_eq rfl) (hb hby at_245) (fun _ _ => ⟨rfl, e11, (by decide : 1 + 0 ≤ _), (by decide : 15 + 0 ≤ _)⟩)
                              dsimp only [Pt.U, Pt.locs, Pt.cells, Pt.slots] at X12 l12 y12 z12 st12 hQ12
                              subst l12 y12 z12
                              obtain ⟨rfl, N12q, e12⟩ := hQ12
                              have N12 := Fr.app N11 N12q
                              refine own_go (fun tz kz => st12 tz kz) ?_
                              show own_Go p.tables e below _ T12 (mkF m 248 #[.val (.int p1), .val (.int p2), .val (.int p3), .val (.long q4), .second, .val (.int (Int32.ofNat j)), .val (.ref b), .val (.int b0), .val (.int b1), .val (.int b2), .val (.int b3), .unset, .unset, .unset] [(.int (own_ic j b0.toInt8.toInt32 b1.toInt8.toInt32 b2.toInt8.toInt32 b3.toInt8.toInt32))])
                              refine own_go (fun tz kz => XS.istore X12.here hx rfl (hb hby at_248) rfl (l' := #[.val (.int p1), .val (.int p2), .val (.int p3), .val (.long q4), .second, .val (.int (Int32.ofNat j)), .val (.ref b), .val (.int b0), .val (.int b1), .val (.int b2), .val (.int b3), .val (.int (own_ic j b0.toInt8.toInt32 b1.toInt8.toInt32 b2.toInt8.toInt32 b3.toInt8.toInt32)), .unset, .unset]) rfl kz) ?_
                              show own_Go p.tables e below _ T12 (mkF m 250 #[.val (.int p1), .val (.int p2), .val (.int p3), .val (.long q4), .second, .val (.int (Int32.ofNat j)), .val (.ref b), .val (.int b0), .val (.int b1), .val (.int b2), .val (.int b3), .val (.int (own_ic j b0.toInt8.toInt32 b1.toInt8.toInt32 b2.toInt8.toInt32 b3.toInt8.toInt32)), .unset, .unset] [])
                              refine own_go (fun tz kz => XS.iload X12.here hx rfl (hb hby at_250) rfl kz) ?_
                              show own_Go p.tables e below _ T12 (mkF m 252 #[.val (.int p1), .val (.int p2), .val (.int p3), .val (.long q4), .second, .val (.int (Int32.ofNat j)), .val (.ref b), .val (.int b0), .val (.int b1), .val (.int b2), .val (.int b3), .val (.int (own_ic j b0.toInt8.toInt32 b1.toInt8.toInt32 b2.toInt8.toInt32 b3.toInt8.toInt32)), .unset, .unset] [(.int b0)])
                              refine own_go (fun tz kz => XS.iload X12.here hx rfl (hb hby at_252) rfl kz) ?_
                              show own_Go p.tables e below _ T12 (mkF m 254 #[.val (.int p1), .val (.int p2), .val (.int p3), .val (.long q4), .second, .val (.int (Int32.ofNat j)), .val (.ref b), .val (.int b0), .val (.int b1), .val (.int b2), .val (.int b3), .val (.int (own_ic j b0.toInt8.toInt32 b1.toInt8.toInt32 b2.toInt8.toInt32 b3.toInt8.toInt32)), .unset, .unset] [(.int b1), (.int b0)])
                              refine own_go (fun tz kz => XS.bipush X12.here hx rfl (hb hby at_254) kz) ?_
                              show own_Go p.tables e below _ T12 (mkF m 256 #[.val (.int p1), .val (.int p2), .val (.int p3), .val (.long q4), .second, .val (.int (Int32.ofNat j)), .val (.ref b), .val (.int b0), .val (.int b1), .val (.int b2), .val (.int b3), .val (.int (own_ic j b0.toInt8.toInt32 b1.toInt8.toInt32 b2.toInt8.toInt32 b3.toInt8.toInt32)), .unset, .unset] [(.int (8 : Int32)), (.int b1), (.int b0)])
                              refine own_go (fun tz kz => XT.ishl X12.here hx rfl (hb hby at_256) rfl kz) ?_
                              show own_Go p.tables e below _ T12 (mkF m 257 #[.val (.int p1), .val (.int p2), .val (.int p3), .val (.long q4), .second, .val (.int (Int32.ofNat j)), .val (.ref b), .val (.int b0), .val (.int b1), .val (.int b2), .val (.int b3), .val (.int (own_ic j b0.toInt8.toInt32 b1.toInt8.toInt32 b2.toInt8.toInt32 b3.toInt8.toInt32)), .unset, .unset] [(.int (b1 <<< ((8 : Int32) &&& 31))), (.int b0)])
                              refine own_go (fun tz kz => XT.ior X12.here hx rfl (hb hby at_257) rfl kz) ?_
                              show own_Go p.tables e below _ T12 (mkF m 258 #[.val (.int p1), .val (.int p2), .val (.int p3), .val (.long q4), .second, .val (.int (Int32.ofNat j)), .val (.ref b), .val (.int b0), .val (.int b1), .val (.int b2), .val (.int b3), .val (.int (own_ic j b0.toInt8.toInt32 b1.toInt8.toInt32 b2.toInt8.toInt32 b3.toInt8.toInt32)), .unset, .unset] [(.int (b0 ||| (b1 <<< ((8 : Int32) &&& 31))))])
                              refine own_go (fun tz kz => XS.iload X12.here hx rfl (hb hby at_258) rfl kz) ?_
                              show own_Go p.tables e below _ T12 (mkF m 260 #[.val (.int p1), .val (.int p2), .val (.int p3), .val (.long q4), .second, .val (.int (Int32.ofNat j)), .val (.ref b), .val (.int b0), .val (.int b1), .val (.int b2), .val (.int b3), .val (.int (own_ic j b0.toInt8.toInt32 b1.toInt8.toInt32 b2.toInt8.toInt32 b3.toInt8.toInt32)), .unset, .unset] [(.int b2), (.int (b0 ||| (b1 <<< ((8 : Int32) &&& 31))))])
                              refine own_go (fun tz kz => XS.bipush X12.here hx rfl (hb hby at_260) kz) ?_
                              show own_Go p.tables e below _ T12 (mkF m 262 #[.val (.int p1), .val (.int p2), .val (.int p3), .val (.long q4), .second, .val (.int (Int32.ofNat j)), .val (.ref b), .val (.int b0), .val (.int b1), .val (.int b2), .val (.int b3), .val (.int (own_ic j b0.toInt8.toInt32 b1.toInt8.toInt32 b2.toInt8.toInt32 b3.toInt8.toInt32)), .unset, .unset] [(.int (16 : Int32)), (.int b2), (.int (b0 ||| (b1 <<< ((8 : Int32) &&& 31))))])
                              refine own_go (fun tz kz => XT.ishl X12.here hx rfl (hb hby at_262) rfl kz) ?_
                              show own_Go p.tables e below _ T12 (mkF m 263 #[.val (.int p1), .val (.int p2), .val (.int p3), .val (.long q4), .second, .val (.int (Int32.ofNat j)), .val (.ref b), .val (.int b0), .val (.int b1), .val (.int b2), .val (.int b3), .val (.int (own_ic j b0.toInt8.toInt32 b1.toInt8.toInt32 b2.toInt8.toInt32 b3.toInt8.toInt32)), .unset, .unset] [(.int (b2 <<< ((16 : Int32) &&& 31))), (.int (b0 ||| (b1 <<< ((8 : Int32) &&& 31))))])
                              refine own_go (fun tz kz => XT.ior X12.here hx rfl (hb hby at_263) rfl kz) ?_
                              show own_Go p.tables e below _ T12 (mkF m 264 #[.val (.int p1), .val (.int p2), .val (.int p3), .val (.long q4), .second, .val (.int (Int32.ofNat j)), .val (.ref b), .val (.int b0), .val (.int b1), .val (.int b2), .val (.int b3), .val (.int (own_ic j b0.toInt8.toInt32 b1.toInt8.toInt32 b2.toInt8.toInt32 b3.toInt8.toInt32)), .unset, .unset] [(.int ((b0 ||| (b1 <<< ((8 : Int32) &&& 31))) ||| (b2 <<< ((16 : Int32) &&& 31))))])
                              refine own_go (fun tz kz => XS.iload X12.here hx rfl (hb hby at_264) rfl kz) ?_
                              show own_Go p.tables e below _ T12 (mkF m 266 #[.val (.int p1), .val (.int p2), .val (.int p3), .val (.long q4), .second, .val (.int (Int32.ofNat j)), .val (.ref b), .val (.int b0), .val (.int b1), .val (.int b2), .val (.int b3), .val (.int (own_ic j b0.toInt8.toInt32 b1.toInt8.toInt32 b2.toInt8.toInt32 b3.toInt8.toInt32)), .unset, .unset] [(.int b3), (.int ((b0 ||| (b1 <<< ((8 : Int32) &&& 31))) ||| (b2 <<< ((16 : Int32) &&& 31))))])
                              refine own_go (fun tz kz => XS.bipush X12.here hx rfl (hb hby at_266) kz) ?_
                              show own_Go p.tables e below _ T12 (mkF m 268 #[.val (.int p1), .val (.int p2), .val (.int p3), .val (.long q4), .second, .val (.int (Int32.ofNat j)), .val (.ref b), .val (.int b0), .val (.int b1), .val (.int b2), .val (.int b3), .val (.int (own_ic j b0.toInt8.toInt32 b1.toInt8.toInt32 b2.toInt8.toInt32 b3.toInt8.toInt32)), .unset, .unset] [(.int (24 : Int32)), (.int b3), (.int ((b0 ||| (b1 <<< ((8 : Int32) &&& 31))) ||| (b2 <<< ((16 : Int32) &&& 31))))])
                              refine own_go (fun tz kz => XT.ishl X12.here hx rfl (hb hby at_268) rfl kz) ?_
                              show own_Go p.tables e below _ T12 (mkF m 269 #[.val (.int p1), .val (.int p2), .val (.int p3), .val (.long q4), .second, .val (.int (Int32.ofNat j)), .val (.ref b), .val (.int b0), .val (.int b1), .val (.int b2), .val (.int b3), .val (.int (own_ic j b0.toInt8.toInt32 b1.toInt8.toInt32 b2.toInt8.toInt32 b3.toInt8.toInt32)), .unset, .unset] [(.int (b3 <<< ((24 : Int32) &&& 31))), (.int ((b0 ||| (b1 <<< ((8 : Int32) &&& 31))) ||| (b2 <<< ((16 : Int32) &&& 31))))])
                              refine own_go (fun tz kz => XT.ior X12.here hx rfl (hb hby at_269) rfl kz) ?_
                              show own_Go p.tables e below _ T12 (mkF m 270 #[.val (.int p1), .val (.int p2), .val (.int p3), .val (.long q4), .second, .val (.int (Int32.ofNat j)), .val (.ref b), .val (.int b0), .val (.int b1), .val (.int b2), .val (.int b3), .val (.int (own_ic j b0.toInt8.toInt32 b1.toInt8.toInt32 b2.toInt8.toInt32 b3.toInt8.toInt32)), .unset, .unset] [(.int (((b0 ||| (b1 <<< ((8 : Int32) &&& 31))) ||| (b2 <<< ((16 : Int32) &&& 31))) ||| (b3 <<< ((24 : Int32) &&& 31))))])
                              refine own_go (fun tz kz => XS.istore X12.here hx rfl (hb hby at_270) rfl (l' := #[.val (.int p1), .val (.int p2), .val (.int p3), .val (.long q4), .second, .val (.int (Int32.ofNat j)), .val (.ref b), .val (.int b0), .val (.int b1), .val (.int b2), .val (.int b3), .val (.int (own_ic j b0.toInt8.toInt32 b1.toInt8.toInt32 b2.toInt8.toInt32 b3.toInt8.toInt32)), .val (.int (((b0 ||| (b1 <<< ((8 : Int32) &&& 31))) ||| (b2 <<< ((16 : Int32) &&& 31))) ||| (b3 <<< ((24 : Int32) &&& 31)))), .unset]) rfl kz) ?_
                              show own_Go p.tables e below _ T12 (mkF m 272 #[.val (.int p1), .val (.int p2), .val (.int p3), .val (.long q4), .second, .val (.int (Int32.ofNat j)), .val (.ref b), .val (.int b0), .val (.int b1), .val (.int b2), .val (.int b3), .val (.int (own_ic j b0.toInt8.toInt32 b1.toInt8.toInt32 b2.toInt8.toInt32 b3.toInt8.toInt32)), .val (.int (((b0 ||| (b1 <<< ((8 : Int32) &&& 31))) ||| (b2 <<< ((16 : Int32) &&& 31))) ||| (b3 <<< ((24 : Int32) &&& 31)))), .unset] [])
                              show own_Go p.tables e below _ T12 (mkF m 272 #[.val (.int p1), .val (.int p2), .val (.int p3), .val (.long q4), .second, .val (.int (Int32.ofNat j)), .val (.ref b), .val (.int b0), .val (.int b1), .val (.int b2), .val (.int b3), .val (.int (own_ic j b0.toInt8.toInt32 b1.toInt8.toInt32 b2.toInt8.toInt32 b3.toInt8.toInt32)), .val (.int (own_w b0 b1 b2 b3)), .unset] [])
                              refine own_go (fun tz kz => XS.iload X12.here hx rfl (hb hby at_272) rfl kz) ?_
                              show own_Go p.tables e below _ T12 (mkF m 274 #[.val (.int p1), .val (.int p2), .val (.int p3), .val (.long q4), .second, .val (.int (Int32.ofNat j)), .val (.ref b), .val (.int b0), .val (.int b1), .val (.int b2), .val (.int b3), .val (.int (own_ic j b0.toInt8.toInt32 b1.toInt8.toInt32 b2.toInt8.toInt32 b3.toInt8.toInt32)), .val (.int (own_w b0 b1 b2 b3)), .unset] [(.int (Int32.ofNat j))])
                              refine own_go (fun tz kz => XS.bipush X12.here hx rfl (hb hby at_274) kz) ?_
                              show own_Go p.tables e below _ T12 (mkF m 276 #[.val (.int p1), .val (.int p2), .val (.int p3), .val (.long q4), .second, .val (.int (Int32.ofNat j)), .val (.ref b), .val (.int b0), .val (.int b1), .val (.int b2), .val (.int b3), .val (.int (own_ic j b0.toInt8.toInt32 b1.toInt8.toInt32 b2.toInt8.toInt32 b3.toInt8.toInt32)), .val (.int (own_w b0 b1 b2 b3)), .unset] [(.int (8 : Int32)), (.int (Int32.ofNat j))])
                              by_cases ha : (Int32.ofNat j) < (8 : Int32)
                              ·
                                refine own_go (fun tz kz => XS.icmpYes X12.here hx rfl (pc0 := 276) (pc' := 290) rfl (hb hby at_276) rfl (XT.ii_lt_t ha) (by decide) (by decide) kz) ?_
                                show own_Go p.tables e below _ T12 (mkF m 290 #[.val (.int p1), .val (.int p2), .val (.int p3), .val (.long q4), .second, .val (.int (Int32.ofNat j)), .val (.ref b), .val (.int b0), .val (.int b1), .val (.int b2), .val (.int b3), .val (.int (own_ic j b0.toInt8.toInt32 b1.toInt8.toInt32 b2.toInt8.toInt32 b3.toInt8.toInt32)), .val (.int (own_w b0 b1 b2 b3)), .unset] [])
                                refine own_go (fun tz kz => XS.iconst X12.here hx rfl (hb hby at_290) kz) ?_
                                show own_Go p.tables e below _ T12 (mkF m 291 #[.val (.int p1), .val (.int p2), .val (.int p3), .val (.long q4), .second, .val (.int (Int32.ofNat j)), .val (.ref b), .val (.int b0), .val (.int b1), .val (.int b2), .val (.int b3), .val (.int (own_ic j b0.toInt8.toInt32 b1.toInt8.toInt32 b2.toInt8.toInt32 b3.toInt8.toInt32)), .val (.int (own_w b0 b1 b2 b3)), .unset] [(.int (0 : Int32))])
                                refine own_go (fun tz kz => XS.istore X12.here hx rfl (hb hby at_291) rfl (l' := #[.val (.int p1), .val (.int p2), .val (.int p3), .val (.long q4), .second, .val (.int (Int32.ofNat j)), .val (.ref b), .val (.int b0), .val (.int b1), .val (.int b2), .val (.int b3), .val (.int (own_ic j b0.toInt8.toInt32 b1.toInt8.toInt32 b2.toInt8.toInt32 b3.toInt8.toInt32)), .val (.int (own_w b0 b1 b2 b3)), .val (.int (0 : Int32))]) rfl kz) ?_
                                show own_Go p.tables e below _ T12 (mkF m 293 #[.val (.int p1), .val (.int p2), .val (.int p3), .val (.long q4), .second, .val (.int (Int32.ofNat j)), .val (.ref b), .val (.int b0), .val (.int b1), .val (.int b2), .val (.int b3), .val (.int (own_ic j b0.toInt8.toInt32 b1.toInt8.toInt32 b2.toInt8.toInt32 b3.toInt8.toInt32)), .val (.int (own_w b0 b1 b2 b3)), .val (.int (0 : Int32))] [])
                                refine own_go (fun tz kz => XS.iload X12.here hx rfl (hb hby at_293) rfl kz) ?_
                                show own_Go p.tables e below _ T12 (mkF m 295 #[.val (.int p1), .val (.int p2), .val (.int p3), .val (.long q4), .second, .val (.int (Int32.ofNat j)), .val (.ref b), .val (.int b0), .val (.int b1), .val (.int b2), .val (.int b3), .val (.int (own_ic j b0.toInt8.toInt32 b1.toInt8.toInt32 b2.toInt8.toInt32 b3.toInt8.toInt32)), .val (.int (own_w b0 b1 b2 b3)), .val (.int (0 : Int32))] [(.int (own_ic j b0.toInt8.toInt32 b1.toInt8.toInt32 b2.toInt8.toInt32 b3.toInt8.toInt32))])
                                refine own_go (fun tz kz => XS.iload X12.here hx rfl (hb hby at_295) rfl kz) ?_
                                show own_Go p.tables e below _ T12 (mkF m 297 #[.val (.int p1), .val (.int p2), .val (.int p3), .val (.long q4), .second, .val (.int (Int32.ofNat j)), .val (.ref b), .val (.int b0), .val (.int b1), .val (.int b2), .val (.int b3), .val (.int (own_ic j b0.toInt8.toInt32 b1.toInt8.toInt32 b2.toInt8.toInt32 b3.toInt8.toInt32)), .val (.int (own_w b0 b1 b2 b3)), .val (.int (0 : Int32))] [(.int (0 : Int32)), (.int (own_ic j b0.toInt8.toInt32 b1.toInt8.toInt32 b2.toInt8.toInt32 b3.toInt8.toInt32))])
                                refine own_go (fun tz kz => XS.icmpNo X12.here hx rfl (hb hby at_297) rfl (XT.ii_ne_f (own_ic_short ha)) kz) ?_
                                show own_Go p.tables e below _ T12 (mkF m 300 #[.val (.int p1), .val (.int p2), .val (.int p3), .val (.long q4), .second, .val (.int (Int32.ofNat j)), .val (.ref b), .val (.int b0), .val (.int b1), .val (.int b2), .val (.int b3), .val (.int (own_ic j b0.toInt8.toInt32 b1.toInt8.toInt32 b2.toInt8.toInt32 b3.toInt8.toInt32)), .val (.int (own_w b0 b1 b2 b3)), .val (.int (0 : Int32))] [])
                                refine own_go (fun tz kz => XS.iconst X12.here hx rfl (hb hby at_300) kz) ?_
                                show own_Go p.tables e below _ T12 (mkF m 301 #[.val (.int p1), .val (.int p2), .val (.int p3), .val (.long q4), .second, .val (.int (Int32.ofNat j)), .val (.ref b), .val (.int b0), .val (.int b1), .val (.int b2), .val (.int b3), .val (.int (own_ic j b0.toInt8.toInt32 b1.toInt8.toInt32 b2.toInt8.toInt32 b3.toInt8.toInt32)), .val (.int (own_w b0 b1 b2 b3)), .val (.int (0 : Int32))] [(.int (1 : Int32))])
                                refine own_go (fun tz kz => XS.goto X12.here hx rfl (pc0 := 301) (pc' := 305) rfl (hb hby at_301) (by decide) (by decide) kz) ?_
                                show own_Go p.tables e below _ T12 (mkF m 305 #[.val (.int p1), .val (.int p2), .val (.int p3), .val (.long q4), .second, .val (.int (Int32.ofNat j)), .val (.ref b), .val (.int b0), .val (.int b1), .val (.int b2), .val (.int b3), .val (.int (own_ic j b0.toInt8.toInt32 b1.toInt8.toInt32 b2.toInt8.toInt32 b3.toInt8.toInt32)), .val (.int (own_w b0 b1 b2 b3)), .val (.int (0 : Int32))] [(.int (1 : Int32))])
                                obtain ⟨fs, hr, hrun, hended, hW, hsame⟩ := X12.leave (v := some (.int (1 : Int32))) (fun h => by rw [Bd.returns] at h; cases h)
                                refine ⟨_, _, ?_, hrun, hended, _, _, rfl, ?_, ⟨_, rfl⟩, hW, hsame.mono (by decide) (by decide)⟩
                                · exact retN X12 hx (t := .boolean) Bd.returns (by simp) (hb hby at_305) hr
                                · show Q0 Z p1 p2 p3 q4 h0 n0 _ T12.heap _
                                  rw [e12]
                                  exact ⟨rfl, N12⟩
                              ·
                                refine own_go (fun tz kz => XS.icmpNo X12.here hx rfl (hb hby at_276) rfl (XT.ii_lt_f ha) kz) ?_
                                show own_Go p.tables e below _ T12 (mkF m 279 #[.val (.int p1), .val (.int p2), .val (.int p3), .val (.long q4), .second, .val (.int (Int32.ofNat j)), .val (.ref b), .val (.int b0), .val (.int b1), .val (.int b2), .val (.int b3), .val (.int (own_ic j b0.toInt8.toInt32 b1.toInt8.toInt32 b2.toInt8.toInt32 b3.toInt8.toInt32)), .val (.int (own_w b0 b1 b2 b3)), .unset] [])
                                refine own_go (fun tz kz => XS.iload X12.here hx rfl (hb hby at_279) rfl kz) ?_
                                show own_Go p.tables e below _ T12 (mkF m 281 #[.val (.int p1), .val (.int p2), .val (.int p3), .val (.long q4), .second, .val (.int (Int32.ofNat j)), .val (.ref b), .val (.int b0), .val (.int b1), .val (.int b2), .val (.int b3), .val (.int (own_ic j b0.toInt8.toInt32 b1.toInt8.toInt32 b2.toInt8.toInt32 b3.toInt8.toInt32)), .val (.int (own_w b0 b1 b2 b3)), .unset] [(.int (own_w b0 b1 b2 b3))])
                                refine own_go (fun tz kz => X12.ldcI hx hown (mvT hZ (hw _ (List.mem_of_getElem? (i := 5) rfl))) rfl (hb hby at_281) kz) ?_
                                show own_Go p.tables e below _ T12 (mkF m 283 #[.val (.int p1), .val (.int p2), .val (.int p3), .val (.long q4), .second, .val (.int (Int32.ofNat j)), .val (.ref b), .val (.int b0), .val (.int b1), .val (.int b2), .val (.int b3), .val (.int (own_ic j b0.toInt8.toInt32 b1.toInt8.toInt32 b2.toInt8.toInt32 b3.toInt8.toInt32)), .val (.int (own_w b0 b1 b2 b3)), .unset] [(.int (524291 : Int32)), (.int (own_w b0 b1 b2 b3))])
                                by_cases hw' : (own_w b0 b1 b2 b3) = (524291 : Int32)
                                ·
                                  refine own_go (fun tz kz => XS.icmpNo X12.here hx rfl (hb hby at_283) rfl (XT.ii_ne_f hw') kz) ?_
                                  show own_Go p.tables e below _ T12 (mkF m 286 #[.val (.int p1), .val (.int p2), .val (.int p3), .val (.long q4), .second, .val (.int (Int32.ofNat j)), .val (.ref b), .val (.int b0), .val (.int b1), .val (.int b2), .val (.int b3), .val (.int (own_ic j b0.toInt8.toInt32 b1.toInt8.toInt32 b2.toInt8.toInt32 b3.toInt8.toInt32)), .val (.int (own_w b0 b1 b2 b3)), .unset] [])
                                  refine own_go (fun tz kz => XS.iconst X12.here hx rfl (hb hby at_286) kz) ?_
                                  show own_Go p.tables e below _ T12 (mkF m 287 #[.val (.int p1), .val (.int p2), .val (.int p3), .val (.long q4), .second, .val (.int (Int32.ofNat j)), .val (.ref b), .val (.int b0), .val (.int b1), .val (.int b2), .val (.int b3), .val (.int (own_ic j b0.toInt8.toInt32 b1.toInt8.toInt32 b2.toInt8.toInt32 b3.toInt8.toInt32)), .val (.int (own_w b0 b1 b2 b3)), .unset] [(.int (1 : Int32))])
                                  refine own_go (fun tz kz => XS.goto X12.here hx rfl (pc0 := 287) (pc' := 291) rfl (hb hby at_287) (by decide) (by decide) kz) ?_
                                  show own_Go p.tables e below _ T12 (mkF m 291 #[.val (.int p1), .val (.int p2), .val (.int p3), .val (.long q4), .second, .val (.int (Int32.ofNat j)), .val (.ref b), .val (.int b0), .val (.int b1), .val (.int b2), .val (.int b3), .val (.int (own_ic j b0.toInt8.toInt32 b1.toInt8.toInt32 b2.toInt8.toInt32 b3.toInt8.toInt32)), .val (.int (own_w b0 b1 b2 b3)), .unset] [(.int (1 : Int32))])
                                  refine own_go (fun tz kz => XS.istore X12.here hx rfl (hb hby at_291) rfl (l' := #[.val (.int p1), .val (.int p2), .val (.int p3), .val (.long q4), .second, .val (.int (Int32.ofNat j)), .val (.ref b), .val (.int b0), .val (.int b1), .val (.int b2), .val (.int b3), .val (.int (own_ic j b0.toInt8.toInt32 b1.toInt8.toInt32 b2.toInt8.toInt32 b3.toInt8.toInt32)), .val (.int (own_w b0 b1 b2 b3)), .val (.int (1 : Int32))]) rfl kz) ?_
                                  show own_Go p.tables e below _ T12 (mkF m 293 #[.val (.int p1), .val (.int p2), .val (.int p3), .val (.long q4), .second, .val (.int (Int32.ofNat j)), .val (.ref b), .val (.int b0), .val (.int b1), .val (.int b2), .val (.int b3), .val (.int (own_ic j b0.toInt8.toInt32 b1.toInt8.toInt32 b2.toInt8.toInt32 b3.toInt8.toInt32)), .val (.int (own_w b0 b1 b2 b3)), .val (.int (1 : Int32))] [])
                                  refine own_go (fun tz kz => XS.iload X12.here hx rfl (hb hby at_293) rfl kz) ?_
                                  show own_Go p.tables e below _ T12 (mkF m 295 #[.val (.int p1), .val (.int p2), .val (.int p3), .val (.long q4), .second, .val (.int (Int32.ofNat j)), .val (.ref b), .val (.int b0), .val (.int b1), .val (.int b2), .val (.int b3), .val (.int (own_ic j b0.toInt8.toInt32 b1.toInt8.toInt32 b2.toInt8.toInt32 b3.toInt8.toInt32)), .val (.int (own_w b0 b1 b2 b3)), .val (.int (1 : Int32))] [(.int (own_ic j b0.toInt8.toInt32 b1.toInt8.toInt32 b2.toInt8.toInt32 b3.toInt8.toInt32))])
                                  refine own_go (fun tz kz => XS.iload X12.here hx rfl (hb hby at_295) rfl kz) ?_
                                  show own_Go p.tables e below _ T12 (mkF m 297 #[.val (.int p1), .val (.int p2), .val (.int p3), .val (.long q4), .second, .val (.int (Int32.ofNat j)), .val (.ref b), .val (.int b0), .val (.int b1), .val (.int b2), .val (.int b3), .val (.int (own_ic j b0.toInt8.toInt32 b1.toInt8.toInt32 b2.toInt8.toInt32 b3.toInt8.toInt32)), .val (.int (own_w b0 b1 b2 b3)), .val (.int (1 : Int32))] [(.int (1 : Int32)), (.int (own_ic j b0.toInt8.toInt32 b1.toInt8.toInt32 b2.toInt8.toInt32 b3.toInt8.toInt32))])
                                  refine own_go (fun tz kz => XS.icmpNo X12.here hx rfl (hb hby at_297) rfl (XT.ii_ne_f (own_ic_yes hb0 hb1 hb2 hb3 ha hw')) kz) ?_
                                  show own_Go p.tables e below _ T12 (mkF m 300 #[.val (.int p1), .val (.int p2), .val (.int p3), .val (.long q4), .second, .val (.int (Int32.ofNat j)), .val (.ref b), .val (.int b0), .val (.int b1), .val (.int b2), .val (.int b3), .val (.int (own_ic j b0.toInt8.toInt32 b1.toInt8.toInt32 b2.toInt8.toInt32 b3.toInt8.toInt32)), .val (.int (own_w b0 b1 b2 b3)), .val (.int (1 : Int32))] [])
                                  refine own_go (fun tz kz => XS.iconst X12.here hx rfl (hb hby at_300) kz) ?_
                                  show own_Go p.tables e below _ T12 (mkF m 301 #[.val (.int p1), .val (.int p2), .val (.int p3), .val (.long q4), .second, .val (.int (Int32.ofNat j)), .val (.ref b), .val (.int b0), .val (.int b1), .val (.int b2), .val (.int b3), .val (.int (own_ic j b0.toInt8.toInt32 b1.toInt8.toInt32 b2.toInt8.toInt32 b3.toInt8.toInt32)), .val (.int (own_w b0 b1 b2 b3)), .val (.int (1 : Int32))] [(.int (1 : Int32))])
                                  refine own_go (fun tz kz => XS.goto X12.here hx rfl (pc0 := 301) (pc' := 305) rfl (hb hby at_301) (by decide) (by decide) kz) ?_
                                  show own_Go p.tables e below _ T12 (mkF m 305 #[.val (.int p1), .val (.int p2), .val (.int p3), .val (.long q4), .second, .val (.int (Int32.ofNat j)), .val (.ref b), .val (.int b0), .val (.int b1), .val (.int b2), .val (.int b3), .val (.int (own_ic j b0.toInt8.toInt32 b1.toInt8.toInt32 b2.toInt8.toInt32 b3.toInt8.toInt32)), .val (.int (own_w b0 b1 b2 b3)), .val (.int (1 : Int32))] [(.int (1 : Int32))])
                                  obtain ⟨fs, hr, hrun, hended, hW, hsame⟩ := X12.leave (v := some (.int (1 : Int32))) (fun h => by rw [Bd.returns] at h; cases h)
                                  refine ⟨_, _, ?_, hrun, hended, _, _, rfl, ?_, ⟨_, rfl⟩, hW, hsame.mono (by decide) (by decide)⟩
                                  · exact retN X12 hx (t := .boolean) Bd.returns (by simp) (hb hby at_305) hr
                                  · show Q0 Z p1 p2 p3 q4 h0 n0 _ T12.heap _
                                    rw [e12]
                                    exact ⟨rfl, N12⟩
                                ·
                                  refine own_go (fun tz kz => XS.icmpYes X12.here hx rfl (pc0 := 283) (pc' := 290) rfl (hb hby at_283) rfl (XT.ii_ne_t hw') (by decide) (by decide) kz) ?_
                                  show own_Go p.tables e below _ T12 (mkF m 290 #[.val (.int p1), .val (.int p2), .val (.int p3), .val (.long q4), .second, .val (.int (Int32.ofNat j)), .val (.ref b), .val (.int b0), .val (.int b1), .val (.int b2), .val (.int b3), .val (.int (own_ic j b0.toInt8.toInt32 b1.toInt8.toInt32 b2.toInt8.toInt32 b3.toInt8.toInt32)), .val (.int (own_w b0 b1 b2 b3)), .unset] [])
                                  refine own_go (fun tz kz => XS.iconst X12.here hx rfl (hb hby at_290) kz) ?_
                                  show own_Go p.tables e below _ T12 (mkF m 291 #[.val (.int p1), .val (.int p2), .val (.int p3), .val (.long q4), .second, .val (.int (Int32.ofNat j)), .val (.ref b), .val (.int b0), .val (.int b1), .val (.int b2), .val (.int b3), .val (.int (own_ic j b0.toInt8.toInt32 b1.toInt8.toInt32 b2.toInt8.toInt32 b3.toInt8.toInt32)), .val (.int (own_w b0 b1 b2 b3)), .unset] [(.int (0 : Int32))])
                                  refine own_go (fun tz kz => XS.istore X12.here hx rfl (hb hby at_291) rfl (l' := #[.val (.int p1), .val (.int p2), .val (.int p3), .val (.long q4), .second, .val (.int (Int32.ofNat j)), .val (.ref b), .val (.int b0), .val (.int b1), .val (.int b2), .val (.int b3), .val (.int (own_ic j b0.toInt8.toInt32 b1.toInt8.toInt32 b2.toInt8.toInt32 b3.toInt8.toInt32)), .val (.int (own_w b0 b1 b2 b3)), .val (.int (0 : Int32))]) rfl kz) ?_
                                  show own_Go p.tables e below _ T12 (mkF m 293 #[.val (.int p1), .val (.int p2), .val (.int p3), .val (.long q4), .second, .val (.int (Int32.ofNat j)), .val (.ref b), .val (.int b0), .val (.int b1), .val (.int b2), .val (.int b3), .val (.int (own_ic j b0.toInt8.toInt32 b1.toInt8.toInt32 b2.toInt8.toInt32 b3.toInt8.toInt32)), .val (.int (own_w b0 b1 b2 b3)), .val (.int (0 : Int32))] [])
                                  refine own_go (fun tz kz => XS.iload X12.here hx rfl (hb hby at_293) rfl kz) ?_
                                  show own_Go p.tables e below _ T12 (mkF m 295 #[.val (.int p1), .val (.int p2), .val (.int p3), .val (.long q4), .second, .val (.int (Int32.ofNat j)), .val (.ref b), .val (.int b0), .val (.int b1), .val (.int b2), .val (.int b3), .val (.int (own_ic j b0.toInt8.toInt32 b1.toInt8.toInt32 b2.toInt8.toInt32 b3.toInt8.toInt32)), .val (.int (own_w b0 b1 b2 b3)), .val (.int (0 : Int32))] [(.int (own_ic j b0.toInt8.toInt32 b1.toInt8.toInt32 b2.toInt8.toInt32 b3.toInt8.toInt32))])
                                  refine own_go (fun tz kz => XS.iload X12.here hx rfl (hb hby at_295) rfl kz) ?_
                                  show own_Go p.tables e below _ T12 (mkF m 297 #[.val (.int p1), .val (.int p2), .val (.int p3), .val (.long q4), .second, .val (.int (Int32.ofNat j)), .val (.ref b), .val (.int b0), .val (.int b1), .val (.int b2), .val (.int b3), .val (.int (own_ic j b0.toInt8.toInt32 b1.toInt8.toInt32 b2.toInt8.toInt32 b3.toInt8.toInt32)), .val (.int (own_w b0 b1 b2 b3)), .val (.int (0 : Int32))] [(.int (0 : Int32)), (.int (own_ic j b0.toInt8.toInt32 b1.toInt8.toInt32 b2.toInt8.toInt32 b3.toInt8.toInt32))])
                                  refine own_go (fun tz kz => XS.icmpNo X12.here hx rfl (hb hby at_297) rfl (XT.ii_ne_f (own_ic_no hb0 hb1 hb2 hb3 hw')) kz) ?_
                                  show own_Go p.tables e below _ T12 (mkF m 300 #[.val (.int p1), .val (.int p2), .val (.int p3), .val (.long q4), .second, .val (.int (Int32.ofNat j)), .val (.ref b), .val (.int b0), .val (.int b1), .val (.int b2), .val (.int b3), .val (.int (own_ic j b0.toInt8.toInt32 b1.toInt8.toInt32 b2.toInt8.toInt32 b3.toInt8.toInt32)), .val (.int (own_w b0 b1 b2 b3)), .val (.int (0 : Int32))] [])
                                  refine own_go (fun tz kz => XS.iconst X12.here hx rfl (hb hby at_300) kz) ?_
                                  show own_Go p.tables e below _ T12 (mkF m 301 #[.val (.int p1), .val (.int p2), .val (.int p3), .val (.long q4), .second, .val (.int (Int32.ofNat j)), .val (.ref b), .val (.int b0), .val (.int b1), .val (.int b2), .val (.int b3), .val (.int (own_ic j b0.toInt8.toInt32 b1.toInt8.toInt32 b2.toInt8.toInt32 b3.toInt8.toInt32)), .val (.int (own_w b0 b1 b2 b3)), .val (.int (0 : Int32))] [(.int (1 : Int32))])
                                  refine own_go (fun tz kz => XS.goto X12.here hx rfl (pc0 := 301) (pc' := 305) rfl (hb hby at_301) (by decide) (by decide) kz) ?_
                                  show own_Go p.tables e below _ T12 (mkF m 305 #[.val (.int p1), .val (.int p2), .val (.int p3), .val (.long q4), .second, .val (.int (Int32.ofNat j)), .val (.ref b), .val (.int b0), .val (.int b1), .val (.int b2), .val (.int b3), .val (.int (own_ic j b0.toInt8.toInt32 b1.toInt8.toInt32 b2.toInt8.toInt32 b3.toInt8.toInt32)), .val (.int (own_w b0 b1 b2 b3)), .val (.int (0 : Int32))] [(.int (1 : Int32))])
                                  obtain ⟨fs, hr, hrun, hended, hW, hsame⟩ := X12.leave (v := some (.int (1 : Int32))) (fun h => by rw [Bd.returns] at h; cases h)
                                  refine ⟨_, _, ?_, hrun, hended, _, _, rfl, ?_, ⟨_, rfl⟩, hW, hsame.mono (by decide) (by decide)⟩
                                  · exact retN X12 hx (t := .boolean) Bd.returns (by simp) (hb hby at_305) hr
                                  · show Q0 Z p1 p2 p3 q4 h0 n0 _ T12.heap _
                                    rw [e12]
                                    exact ⟨rfl, N12⟩
                            by_cases s9 : (9 : Int32) < (Int32.ofNat j)
                            ·
                              refine own_go (fun tz kz => XS.icmpNo X10.here hx rfl (hb hby at_229) rfl (XT.ii_le_f s9) kz) ?_
                              show own_Go p.tables e below _ T10 (mkF m 232 #[.val (.int p1), .val (.int p2), .val (.int p3), .val (.long q4), .second, .val (.int (Int32.ofNat j)), .val (.ref b), .val (.int b0), .val (.int b1), .val (.int b2), .val (.int b3), .unset, .unset, .unset] [])
                              have hs9 : 9 < j := (own_ltn (i := 9) (by decide) hj').mp s9
                              refine own_go (fun tz kz => XS.aload X10.here hx rfl (hb hby at_232) rfl rfl kz) ?_
                              show own_Go p.tables e below _ T10 (mkF m 234 #[.val (.int p1), .val (.int p2), .val (.int p3), .val (.long q4), .second, .val (.int (Int32.ofNat j)), .val (.ref b), .val (.int b0), .val (.int b1), .val (.int b2), .val (.int b3), .unset, .unset, .unset] [(.ref b)])
                              refine own_go (fun tz kz => XS.bipush X10.here hx rfl (hb hby at_234) kz) ?_
                              show own_Go p.tables e below _ T10 (mkF m 236 #[.val (.int p1), .val (.int p2), .val (.int p3), .val (.long q4), .second, .val (.int (Int32.ofNat j)), .val (.ref b), .val (.int b0), .val (.int b1), .val (.int b2), .val (.int b3), .unset, .unset, .unset] [(.int (9 : Int32)), (.ref b)])
                              refine own_go (fun tz kz => XT.lloadN X10.here hx rfl (hb hby at_236) rfl kz) ?_
                              show own_Go p.tables e below _ T10 (mkF m 237 #[.val (.int p1), .val (.int p2), .val (.int p3), .val (.long q4), .second, .val (.int (Int32.ofNat j)), .val (.ref b), .val (.int b0), .val (.int b1), .val (.int b2), .val (.int b3), .unset, .unset, .unset] [(.long q4), (.int (9 : Int32)), (.ref b)])
                              refine own_go (fun tz kz => XS.bipush X10.here hx rfl (hb hby at_237) kz) ?_
                              show own_Go p.tables e below _ T10 (mkF m 239 #[.val (.int p1), .val (.int p2), .val (.int p3), .val (.long q4), .second, .val (.int (Int32.ofNat j)), .val (.ref b), .val (.int b0), .val (.int b1), .val (.int b2), .val (.int b3), .unset, .unset, .unset] [(.int (40 : Int32)), (.long q4), (.int (9 : Int32)), (.ref b)])
                              refine own_go (fun tz kz => XT.lushr X10.here hx rfl (hb hby at_239) rfl kz) ?_
                              show own_Go p.tables e below _ T10 (mkF m 240 #[.val (.int p1), .val (.int p2), .val (.int p3), .val (.long q4), .second, .val (.int (Int32.ofNat j)), .val (.ref b), .val (.int b0), .val (.int b1), .val (.int b2), .val (.int b3), .unset, .unset, .unset] [(.long (XT.ushrL q4 (40 : Int32))), (.int (9 : Int32)), (.ref b)])
                              refine own_go (fun tz kz => XT.l2i X10.here hx rfl (hb hby at_240) rfl kz) ?_
                              show own_Go p.tables e below _ T10 (mkF m 241 #[.val (.int p1), .val (.int p2), .val (.int p3), .val (.long q4), .second, .val (.int (Int32.ofNat j)), .val (.ref b), .val (.int b0), .val (.int b1), .val (.int b2), .val (.int b3), .unset, .unset, .unset] [(.int (XT.ushrL q4 (40 : Int32)).toInt32), (.int (9 : Int32)), (.ref b)])
                              refine own_go (fun tz kz => XT.i2b X10.here hx rfl (hb hby at_241) rfl kz) ?_
                              show own_Go p.tables e below _ T10 (mkF m 242 #[.val (.int p1), .val (.int p2), .val (.int p3), .val (.long q4), .second, .val (.int (Int32.ofNat j)), .val (.ref b), .val (.int b0), .val (.int b1), .val (.int b2), .val (.int b3), .unset, .unset, .unset] [(.int (XT.ushrL q4 (40 : Int32)).toInt32.toInt8.toInt32), (.int (9 : Int32)), (.ref b)])
                              obtain ⟨c13, Ar13, Sz13, Ge13⟩ := id (V8)
                              obtain ⟨T13, h13, X13, e13, W13, st13⟩ := stB X10 hx hZ e10 Ar13 (j := (9 : Int32)) (own_inb (i := 9) Sz13 (own_nat (i := 9) (by decide)) hs9) (g := (mkF m 242 #[.val (.int p1), .val (.int p2), .val (.int p3), .val (.long q4), .second, .val (.int (Int32.ofNat j)), .val (.ref b), .val (.int b0), .val (.int b1), .val (.int b2), .val (.int b3), .unset, .unset, .unset] [(.int (XT.ushrL q4 (40 : Int32)).toInt32.toInt8.toInt32), (.int (9 : Int32)), (.ref b)])) rfl rfl (hb hby at_242)
                              have U9 := own_Av.set (V8) W13 ((own_nat (i := 9) (by decide)) : ¬ (9 : Int32) < 0 ∧ ((9 : Int32)).toNatClampNeg = 9).2
                              have N13 := Fr.snoc X13 N10 g_b
                              refine own_go st13 ?_
                              show own_Go p.tables e below _ T13 (mkF m 243 #[.val (.int p1), .val (.int p2), .val (.int p3), .val (.long q4), .second, .val (.int (Int32.ofNat j)), .val (.ref b), .val (.int b0), .val (.int b1), .val (.int b2), .val (.int b3), .unset, .unset, .unset] [])
                              exact A9 T13 _ _ X13 e13 N13 (Nat.le_trans Zs10 (Keep.of_wr W13).1) _ U9 (fun z => (if_neg (by decide)).trans (q8_0 z)) (fun z => (if_neg (by decide)).trans (q8_1 z)) (fun z => (if_neg (by decide)).trans (q8_2 z)) (fun z => (if_neg (by decide)).trans (q8_3 z))
                            ·
                              refine own_go (fun tz kz => XS.icmpYes X10.here hx rfl (pc0 := 229) (pc' := 243) rfl (hb hby at_229) rfl (XT.ii_le_t s9) (by decide) (by decide) kz) ?_
                              show own_Go p.tables e below _ T10 (mkF m 243 #[.val (.int p1), .val (.int p2), .val (.int p3), .val (.long q4), .second, .val (.int (Int32.ofNat j)), .val (.ref b), .val (.int b0), .val (.int b1), .val (.int b2), .val (.int b3), .unset, .unset, .unset] [])
                              have hs9 : ¬ 9 < j := fun z => s9 ((own_ltn (i := 9) (by decide) hj').mpr z)
                              exact A9 T10 _ _ X10 e10 N10 Zs10 _ V8 q8_0 q8_1 q8_2 q8_3
                          by_cases s8 : (8 : Int32) < (Int32.ofNat j)
                          ·
                            refine own_go (fun tz kz => XS.icmpNo X9.here hx rfl (hb hby at_211) rfl (XT.ii_le_f s8) kz) ?_
                            show own_Go p.tables e below _ T9 (mkF m 214 #[.val (.int p1), .val (.int p2), .val (.int p3), .val (.long q4), .second, .val (.int (Int32.ofNat j)), .val (.ref b), .val (.int b0), .val (.int b1), .val (.int b2), .val (.int b3), .unset, .unset, .unset] [])
                            have hs8 : 8 < j := (own_ltn (i := 8) (by decide) hj').mp s8
                            refine own_go (fun tz kz => XS.aload X9.here hx rfl (hb hby at_214) rfl rfl kz) ?_
                            show own_Go p.tables e below _ T9 (mkF m 216 #[.val (.int p1), .val (.int p2), .val (.int p3), .val (.long q4), .second, .val (.int (Int32.ofNat j)), .val (.ref b), .val (.int b0), .val (.int b1), .val (.int b2), .val (.int b3), .unset, .unset, .unset] [(.ref b)])
                            refine own_go (fun tz kz => XS.bipush X9.here hx rfl (hb hby at_216) kz) ?_
                            show own_Go p.tables e below _ T9 (mkF m 218 #[.val (.int p1), .val (.int p2), .val (.int p3), .val (.long q4), .second, .val (.int (Int32.ofNat j)), .val (.ref b), .val (.int b0), .val (.int b1), .val (.int b2), .val (.int b3), .unset, .unset, .unset] [(.int (8 : Int32)), (.ref b)])
                            refine own_go (fun tz kz => XT.lloadN X9.here hx rfl (hb hby at_218) rfl kz) ?_
                            show own_Go p.tables e below _ T9 (mkF m 219 #[.val (.int p1), .val (.int p2), .val (.int p3), .val (.long q4), .second, .val (.int (Int32.ofNat j)), .val (.ref b), .val (.int b0), .val (.int b1), .val (.int b2), .val (.int b3), .unset, .unset, .unset] [(.long q4), (.int (8 : Int32)), (.ref b)])
                            refine own_go (fun tz kz => XS.bipush X9.here hx rfl (hb hby at_219) kz) ?_
                            show own_Go p.tables e below _ T9 (mkF m 221 #[.val (.int p1), .val (.int p2), .val (.int p3), .val (.long q4), .second, .val (.int (Int32.ofNat j)), .val (.ref b), .val (.int b0), .val (.int b1), .val (.int b2), .val (.int b3), .unset, .unset, .unset] [(.int (32 : Int32)), (.long q4), (.int (8 : Int32)), (.ref b)])
                            refine own_go (fun tz kz => XT.lushr X9.here hx rfl (hb hby at_221) rfl kz) ?_
                            show own_Go p.tables e below _ T9 (mkF m 222 #[.val (.int p1), .val (.int p2), .val (.int p3), .val (.long q4), .second, .val (.int (Int32.ofNat j)), .val (.ref b), .val (.int b0), .val (.int b1), .val (.int b2), .val (.int b3), .unset, .unset, .unset] [(.long (XT.ushrL q4 (32 : Int32))), (.int (8 : Int32)), (.ref b)])
                            refine own_go (fun tz kz => XT.l2i X9.here hx rfl (hb hby at_222) rfl kz) ?_
                            show own_Go p.tables e below _ T9 (mkF m 223 #[.val (.int p1), .val (.int p2), .val (.int p3), .val (.long q4), .second, .val (.int (Int32.ofNat j)), .val (.ref b), .val (.int b0), .val (.int b1), .val (.int b2), .val (.int b3), .unset, .unset, .unset] [(.int (XT.ushrL q4 (32 : Int32)).toInt32), (.int (8 : Int32)), (.ref b)])
                            refine own_go (fun tz kz => XT.i2b X9.here hx rfl (hb hby at_223) rfl kz) ?_
                            show own_Go p.tables e below _ T9 (mkF m 224 #[.val (.int p1), .val (.int p2), .val (.int p3), .val (.long q4), .second, .val (.int (Int32.ofNat j)), .val (.ref b), .val (.int b0), .val (.int b1), .val (.int b2), .val (.int b3), .unset, .unset, .unset] [(.int (XT.ushrL q4 (32 : Int32)).toInt32.toInt8.toInt32), (.int (8 : Int32)), (.ref b)])
                            obtain ⟨c14, Ar14, Sz14, Ge14⟩ := id (V7)
                            obtain ⟨T14, h14, X14, e14, W14, st14⟩ := stB X9 hx hZ e9 Ar14 (j := (8 : Int32)) (own_inb (i := 8) Sz14 (own_nat (i := 8) (by decide)) hs8) (g := (mkF m 224 #[.val (.int p1), .val (.int p2), .val (.int p3), .val (.long q4), .second, .val (.int (Int32.ofNat j)), .val (.ref b), .val (.int b0), .val (.int b1), .val (.int b2), .val (.int b3), .unset, .unset, .unset] [(.int (XT.ushrL q4 (32 : Int32)).toInt32.toInt8.toInt32), (.int (8 : Int32)), (.ref b)])) rfl rfl (hb hby at_224)
                            have U8 := own_Av.set (V7) W14 ((own_nat (i := 8) (by decide)) : ¬ (8 : Int32) < 0 ∧ ((8 : Int32)).toNatClampNeg = 8).2
                            have N14 := Fr.snoc X14 N9 g_b
                            refine own_go st14 ?_
                            show own_Go p.tables e below _ T14 (mkF m 225 #[.val (.int p1), .val (.int p2), .val (.int p3), .val (.long q4), .second, .val (.int (Int32.ofNat j)), .val (.ref b), .val (.int b0), .val (.int b1), .val (.int b2), .val (.int b3), .unset, .unset, .unset] [])
                            exact A8 T14 _ _ X14 e14 N14 (Nat.le_trans Zs9 (Keep.of_wr W14).1) _ U8 (fun z => (if_neg (by decide)).trans (q7_0 z)) (fun z => (if_neg (by decide)).trans (q7_1 z)) (fun z => (if_neg (by decide)).trans (q7_2 z)) (fun z => (if_neg (by decide)).trans (q7_3 z))
                          ·
                            refine own_go (fun tz kz => XS.icmpYes X9.here hx rfl (pc0 := 211) (pc' := 225) rfl (hb hby at_211) rfl (XT.ii_le_t s8) (by decide) (by decide) kz) ?_
                            show own_Go p.tables e below _ T9 (mkF m 225 #[.val (.int p1), .val (.int p2), .val (.int p3), .val (.long q4), .second, .val (.int (Int32.ofNat j)), .val (.ref b), .val (.int b0), .val (.int b1), .val (.int b2), .val (.int b3), .unset, .unset, .unset] [])
                            have hs8 : ¬ 8 < j := fun z => s8 ((own_ltn (i := 8) (by decide) hj').mpr z)
                            exact A8 T9 _ _ X9 e9 N9 Zs9 _ V7 q7_0 q7_1 q7_2 q7_3
                        by_cases s7 : (7 : Int32) < (Int32.ofNat j)
                        ·
                          refine own_go (fun tz kz => XS.icmpNo X8.here hx rfl (hb hby at_193) rfl (XT.ii_le_f s7) kz) ?_
                          show own_Go p.tables e below _ T8 (mkF m 196 #[.val (.int p1), .val (.int p2), .val (.int p3), .val (.long q4), .second, .val (.int (Int32.ofNat j)), .val (.ref b), .val (.int b0), .val (.int b1), .val (.int b2), .val (.int b3), .unset, .unset, .unset] [])
                          have hs7 : 7 < j := (own_ltn (i := 7) (by decide) hj').mp s7
                          refine own_go (fun tz kz => XS.aload X8.here hx rfl (hb hby at_196) rfl rfl kz) ?_
                          show own_Go p.tables e below _ T8 (mkF m 198 #[.val (.int p1), .val (.int p2), .val (.int p3), .val (.long q4), .second, .val (.int (Int32.ofNat j)), .val (.ref b), .val (.int b0), .val (.int b1), .val (.int b2), .val (.int b3), .unset, .unset, .unset] [(.ref b)])
                          refine own_go (fun tz kz => XS.bipush X8.here hx rfl (hb hby at_198) kz) ?_
                          show own_Go p.tables e below _ T8 (mkF m 200 #[.val (.int p1), .val (.int p2), .val (.int p3), .val (.long q4), .second, .val (.int (Int32.ofNat j)), .val (.ref b), .val (.int b0), .val (.int b1), .val (.int b2), .val (.int b3), .unset, .unset, .unset] [(.int (7 : Int32)), (.ref b)])
                          refine own_go (fun tz kz => XT.lloadN X8.here hx rfl (hb hby at_200) rfl kz) ?_
                          show own_Go p.tables e below _ T8 (mkF m 201 #[.val (.int p1), .val (.int p2), .val (.int p3), .val (.long q4), .second, .val (.int (Int32.ofNat j)), .val (.ref b), .val (.int b0), .val (.int b1), .val (.int b2), .val (.int b3), .unset, .unset, .unset] [(.long q4), (.int (7 : Int32)), (.ref b)])
                          refine own_go (fun tz kz => XS.bipush X8.here hx rfl (hb hby at_201) kz) ?_
                          show own_Go p.tables e below _ T8 (mkF m 203 #[.val (.int p1), .val (.int p2), .val (.int p3), .val (.long q4), .second, .val (.int (Int32.ofNat j)), .val (.ref b), .val (.int b0), .val (.int b1), .val (.int b2), .val (.int b3), .unset, .unset, .unset] [(.int (24 : Int32)), (.long q4), (.int (7 : Int32)), (.ref b)])
                          refine own_go (fun tz kz => XT.lushr X8.here hx rfl (hb hby at_203) rfl kz) ?_
                          show own_Go p.tables e below _ T8 (mkF m 204 #[.val (.int p1), .val (.int p2), .val (.int p3), .val (.long q4), .second, .val (.int (Int32.ofNat j)), .val (.ref b), .val (.int b0), .val (.int b1), .val (.int b2), .val (.int b3), .unset, .unset, .unset] [(.long (XT.ushrL q4 (24 : Int32))), (.int (7 : Int32)), (.ref b)])
                          refine own_go (fun tz kz => XT.l2i X8.here hx rfl (hb hby at_204) rfl kz) ?_
                          show own_Go p.tables e below _ T8 (mkF m 205 #[.val (.int p1), .val (.int p2), .val (.int p3), .val (.long q4), .second, .val (.int (Int32.ofNat j)), .val (.ref b), .val (.int b0), .val (.int b1), .val (.int b2), .val (.int b3), .unset, .unset, .unset] [(.int (XT.ushrL q4 (24 : Int32)).toInt32), (.int (7 : Int32)), (.ref b)])
                          refine own_go (fun tz kz => XT.i2b X8.here hx rfl (hb hby at_205) rfl kz) ?_
                          show own_Go p.tables e below _ T8 (mkF m 206 #[.val (.int p1), .val (.int p2), .val (.int p3), .val (.long q4), .second, .val (.int (Int32.ofNat j)), .val (.ref b), .val (.int b0), .val (.int b1), .val (.int b2), .val (.int b3), .unset, .unset, .unset] [(.int (XT.ushrL q4 (24 : Int32)).toInt32.toInt8.toInt32), (.int (7 : Int32)), (.ref b)])
                          obtain ⟨c15, Ar15, Sz15, Ge15⟩ := id (V6)
                          obtain ⟨T15, h15, X15, e15, W15, st15⟩ := stB X8 hx hZ e8 Ar15 (j := (7 : Int32)) (own_inb (i := 7) Sz15 (own_nat (i := 7) (by decide)) hs7) (g := (mkF m 206 #[.val (.int p1), .val (.int p2), .val (.int p3), .val (.long q4), .second, .val (.int (Int32.ofNat j)), .val (.ref b), .val (.int b0), .val (.int b1), .val (.int b2), .val (.int b3), .unset, .unset, .unset] [(.int (XT.ushrL q4 (24 : Int32)).toInt32.toInt8.toInt32), (.int (7 : Int32)), (.ref b)])) rfl rfl (hb hby at_206)
                          have U7 := own_Av.set (V6) W15 ((own_nat (i := 7) (by decide)) : ¬ (7 : Int32) < 0 ∧ ((7 : Int32)).toNatClampNeg = 7).2
                          have N15 := Fr.snoc X15 N8 g_b
                          refine own_go st15 ?_
                          show own_Go p.tables e below _ T15 (mkF m 207 #[.val (.int p1), .val (.int p2), .val (.int p3), .val (.long q4), .second, .val (.int (Int32.ofNat j)), .val (.ref b), .val (.int b0), .val (.int b1), .val (.int b2), .val (.int b3), .unset, .unset, .unset] [])
                          exact A7 T15 _ _ X15 e15 N15 (Nat.le_trans Zs8 (Keep.of_wr W15).1) _ U7 (fun z => (if_neg (by decide)).trans (q6_0 z)) (fun z => (if_neg (by decide)).trans (q6_1 z)) (fun z => (if_neg (by decide)).trans (q6_2 z)) (fun z => (if_neg (by decide)).trans (q6_3 z))
                        ·
                          refine own_go (fun tz kz => XS.icmpYes X8.here hx rfl (pc0 := 193) (pc' := 207) rfl (hb hby at_193) rfl (XT.ii_le_t s7) (by decide) (by decide) kz) ?_
                          show own_Go p.tables e below _ T8 (mkF m 207 #[.val (.int p1), .val (.int p2), .val (.int p3), .val (.long q4), .second, .val (.int (Int32.ofNat j)), .val (.ref b), .val (.int b0), .val (.int b1), .val (.int b2), .val (.int b3), .unset, .unset, .unset] [])
                          have hs7 : ¬ 7 < j := fun z => s7 ((own_ltn (i := 7) (by decide) hj').mpr z)
                          exact A7 T8 _ _ X8 e8 N8 Zs8 _ V6 q6_0 q6_1 q6_2 q6_3
                      by_cases s6 : (6 : Int32) < (Int32.ofNat j)
                      ·
                        refine own_go (fun tz kz => XS.icmpNo X7.here hx rfl (hb hby at_175) rfl (XT.ii_le_f s6) kz) ?_
                        show own_Go p.tables e below _ T7 (mkF m 178 #[.val (.int p1), .val (.int p2), .val (.int p3), .val (.long q4), .second, .val (.int (Int32.ofNat j)), .val (.ref b), .val (.int b0), .val (.int b1), .val (.int b2), .val (.int b3), .unset, .unset, .unset] [])
                        have hs6 : 6 < j := (own_ltn (i := 6) (by decide) hj').mp s6
                        refine own_go (fun tz kz => XS.aload X7.here hx rfl (hb hby at_178) rfl rfl kz) ?_
                        show own_Go p.tables e below _ T7 (mkF m 180 #[.val (.int p1), .val (.int p2), .val (.int p3), .val (.long q4), .second, .val (.int (Int32.ofNat j)), .val (.ref b), .val (.int b0), .val (.int b1), .val (.int b2), .val (.int b3), .unset, .unset, .unset] [(.ref b)])
                        refine own_go (fun tz kz => XS.bipush X7.here hx rfl (hb hby at_180) kz) ?_
                        show own_Go p.tables e below _ T7 (mkF m 182 #[.val (.int p1), .val (.int p2), .val (.int p3), .val (.long q4), .second, .val (.int (Int32.ofNat j)), .val (.ref b), .val (.int b0), .val (.int b1), .val (.int b2), .val (.int b3), .unset, .unset, .unset] [(.int (6 : Int32)), (.ref b)])
                        refine own_go (fun tz kz => XT.lloadN X7.here hx rfl (hb hby at_182) rfl kz) ?_
                        show own_Go p.tables e below _ T7 (mkF m 183 #[.val (.int p1), .val (.int p2), .val (.int p3), .val (.long q4), .second, .val (.int (Int32.ofNat j)), .val (.ref b), .val (.int b0), .val (.int b1), .val (.int b2), .val (.int b3), .unset, .unset, .unset] [(.long q4), (.int (6 : Int32)), (.ref b)])
                        refine own_go (fun tz kz => XS.bipush X7.here hx rfl (hb hby at_183) kz) ?_
                        show own_Go p.tables e below _ T7 (mkF m 185 #[.val (.int p1), .val (.int p2), .val (.int p3), .val (.long q4), .second, .val (.int (Int32.ofNat j)), .val (.ref b), .val (.int b0), .val (.int b1), .val (.int b2), .val (.int b3), .unset, .unset, .unset] [(.int (16 : Int32)), (.long q4), (.int (6 : Int32)), (.ref b)])
                        refine own_go (fun tz kz => XT.lushr X7.here hx rfl (hb hby at_185) rfl kz) ?_
                        show own_Go p.tables e below _ T7 (mkF m 186 #[.val (.int p1), .val (.int p2), .val (.int p3), .val (.long q4), .second, .val (.int (Int32.ofNat j)), .val (.ref b), .val (.int b0), .val (.int b1), .val (.int b2), .val (.int b3), .unset, .unset, .unset] [(.long (XT.ushrL q4 (16 : Int32))), (.int (6 : Int32)), (.ref b)])
                        refine own_go (fun tz kz => XT.l2i X7.here hx rfl (hb hby at_186) rfl kz) ?_
                        show own_Go p.tables e below _ T7 (mkF m 187 #[.val (.int p1), .val (.int p2), .val (.int p3), .val (.long q4), .second, .val (.int (Int32.ofNat j)), .val (.ref b), .val (.int b0), .val (.int b1), .val (.int b2), .val (.int b3), .unset, .unset, .unset] [(.int (XT.ushrL q4 (16 : Int32)).toInt32), (.int (6 : Int32)), (.ref b)])
                        refine own_go (fun tz kz => XT.i2b X7.here hx rfl (hb hby at_187) rfl kz) ?_
                        show own_Go p.tables e below _ T7 (mkF m 188 #[.val (.int p1), .val (.int p2), .val (.int p3), .val (.long q4), .second, .val (.int (Int32.ofNat j)), .val (.ref b), .val (.int b0), .val (.int b1), .val (.int b2), .val (.int b3), .unset, .unset, .unset] [(.int (XT.ushrL q4 (16 : Int32)).toInt32.toInt8.toInt32), (.int (6 : Int32)), (.ref b)])
                        obtain ⟨c16, Ar16, Sz16, Ge16⟩ := id (V5)
                        obtain ⟨T16, h16, X16, e16, W16, st16⟩ := stB X7 hx hZ e7 Ar16 (j := (6 : Int32)) (own_inb (i := 6) Sz16 (own_nat (i := 6) (by decide)) hs6) (g := (mkF m 188 #[.val (.int p1), .val (.int p2), .val (.int p3), .val (.long q4), .second, .val (.int (Int32.ofNat j)), .val (.ref b), .val (.int b0), .val (.int b1), .val (.int b2), .val (.int b3), .unset, .unset, .unset] [(.int (XT.ushrL q4 (16 : Int32)).toInt32.toInt8.toInt32), (.int (6 : Int32)), (.ref b)])) rfl rfl (hb hby at_188)
                        have U6 := own_Av.set (V5) W16 ((own_nat (i := 6) (by decide)) : ¬ (6 : Int32) < 0 ∧ ((6 : Int32)).toNatClampNeg = 6).2
                        have N16 := Fr.snoc X16 N7 g_b
                        refine own_go st16 ?_
                        show own_Go p.tables e below _ T16 (mkF m 189 #[.val (.int p1), .val (.int p2), .val (.int p3), .val (.long q4), .second, .val (.int (Int32.ofNat j)), .val (.ref b), .val (.int b0), .val (.int b1), .val (.int b2), .val (.int b3), .unset, .unset, .unset] [])
                        exact A6 T16 _ _ X16 e16 N16 (Nat.le_trans Zs7 (Keep.of_wr W16).1) _ U6 (fun z => (if_neg (by decide)).trans (q5_0 z)) (fun z => (if_neg (by decide)).trans (q5_1 z)) (fun z => (if_neg (by decide)).trans (q5_2 z)) (fun z => (if_neg (by decide)).trans (q5_3 z))
                      ·
                        refine own_go (fun tz kz => XS.icmpYes X7.here hx rfl (pc0 := 175) (pc' := 189) rfl (hb hby at_175) rfl (XT.ii_le_t s6) (by decide) (by decide) kz) ?_
                        show own_Go p.tables e below _ T7 (mkF m 189 #[.val (.int p1), .val (.int p2), .val (.int p3), .val (.long q4), .second, .val (.int (Int32.ofNat j)), .val (.ref b), .val (.int b0), .val (.int b1), .val (.int b2), .val (.int b3), .unset, .unset, .unset] [])
                        have hs6 : ¬ 6 < j := fun z => s6 ((own_ltn (i := 6) (by decide) hj').mpr z)
                        exact A6 T7 _ _ X7 e7 N7 Zs7 _ V5 q5_0 q5_1 q5_2 q5_3
                    by_cases s5 : (5 : Int32) < (Int32.ofNat j)
                    ·
                      refine own_go (fun tz kz => XS.icmpNo X6.here hx rfl (hb hby at_158) rfl (XT.ii_le_f s5) kz) ?_
                      show own_Go p.tables e below _ T6 (mkF m 161 #[.val (.int p1), .val (.int p2), .val (.int p3), .val (.long q4), .second, .val (.int (Int32.ofNat j)), .val (.ref b), .val (.int b0), .val (.int b1), .val (.int b2), .val (.int b3), .unset, .unset, .unset] [])
                      have hs5 : 5 < j := (own_ltn (i := 5) (by decide) hj').mp s5
                      refine own_go (fun tz kz => XS.aload X6.here hx rfl (hb hby at_161) rfl rfl kz) ?_
                      show own_Go p.tables e below _ T6 (mkF m 163 #[.val (.int p1), .val (.int p2), .val (.int p3), .val (.long q4), .second, .val (.int (Int32.ofNat j)), .val (.ref b), .val (.int b0), .val (.int b1), .val (.int b2), .val (.int b3), .unset, .unset, .unset] [(.ref b)])
                      refine own_go (fun tz kz => XS.iconst X6.here hx rfl (hb hby at_163) kz) ?_
                      show own_Go p.tables e below _ T6 (mkF m 164 #[.val (.int p1), .val (.int p2), .val (.int p3), .val (.long q4), .second, .val (.int (Int32.ofNat j)), .val (.ref b), .val (.int b0), .val (.int b1), .val (.int b2), .val (.int b3), .unset, .unset, .unset] [(.int (5 : Int32)), (.ref b)])
                      refine own_go (fun tz kz => XT.lloadN X6.here hx rfl (hb hby at_164) rfl kz) ?_
                      show own_Go p.tables e below _ T6 (mkF m 165 #[.val (.int p1), .val (.int p2), .val (.int p3), .val (.long q4), .second, .val (.int (Int32.ofNat j)), .val (.ref b), .val (.int b0), .val (.int b1), .val (.int b2), .val (.int b3), .unset, .unset, .unset] [(.long q4), (.int (5 : Int32)), (.ref b)])
                      refine own_go (fun tz kz => XS.bipush X6.here hx rfl (hb hby at_165) kz) ?_
                      show own_Go p.tables e below _ T6 (mkF m 167 #[.val (.int p1), .val (.int p2), .val (.int p3), .val (.long q4), .second, .val (.int (Int32.ofNat j)), .val (.ref b), .val (.int b0), .val (.int b1), .val (.int b2), .val (.int b3), .unset, .unset, .unset] [(.int (8 : Int32)), (.long q4), (.int (5 : Int32)), (.ref b)])
                      refine own_go (fun tz kz => XT.lushr X6.here hx rfl (hb hby at_167) rfl kz) ?_
                      show own_Go p.tables e below _ T6 (mkF m 168 #[.val (.int p1), .val (.int p2), .val (.int p3), .val (.long q4), .second, .val (.int (Int32.ofNat j)), .val (.ref b), .val (.int b0), .val (.int b1), .val (.int b2), .val (.int b3), .unset, .unset, .unset] [(.long (XT.ushrL q4 (8 : Int32))), (.int (5 : Int32)), (.ref b)])
                      refine own_go (fun tz kz => XT.l2i X6.here hx rfl (hb hby at_168) rfl kz) ?_
                      show own_Go p.tables e below _ T6 (mkF m 169 #[.val (.int p1), .val (.int p2), .val (.int p3), .val (.long q4), .second, .val (.int (Int32.ofNat j)), .val (.ref b), .val (.int b0), .val (.int b1), .val (.int b2), .val (.int b3), .unset, .unset, .unset] [(.int (XT.ushrL q4 (8 : Int32)).toInt32), (.int (5 : Int32)), (.ref b)])
                      refine own_go (fun tz kz => XT.i2b X6.here hx rfl (hb hby at_169) rfl kz) ?_
                      show own_Go p.tables e below _ T6 (mkF m 170 #[.val (.int p1), .val (.int p2), .val (.int p3), .val (.long q4), .second, .val (.int (Int32.ofNat j)), .val (.ref b), .val (.int b0), .val (.int b1), .val (.int b2), .val (.int b3), .unset, .unset, .unset] [(.int (XT.ushrL q4 (8 : Int32)).toInt32.toInt8.toInt32), (.int (5 : Int32)), (.ref b)])
                      obtain ⟨c17, Ar17, Sz17, Ge17⟩ := id (V4)
                      obtain ⟨T17, h17, X17, e17, W17, st17⟩ := stB X6 hx hZ e6 Ar17 (j := (5 : Int32)) (own_inb (i := 5) Sz17 (own_nat (i := 5) (by decide)) hs5) (g := (mkF m 170 #[.val (.int p1), .val (.int p2), .val (.int p3), .val (.long q4), .second, .val (.int (Int32.ofNat j)), .val (.ref b), .val (.int b0), .val (.int b1), .val (.int b2), .val (.int b3), .unset, .unset, .unset] [(.int (XT.ushrL q4 (8 : Int32)).toInt32.toInt8.toInt32), (.int (5 : Int32)), (.ref b)])) rfl rfl (hb hby at_170)
                      have U5 := own_Av.set (V4) W17 ((own_nat (i := 5) (by decide)) : ¬ (5 : Int32) < 0 ∧ ((5 : Int32)).toNatClampNeg = 5).2
                      have N17 := Fr.snoc X17 N6 g_b
                      refine own_go st17 ?_
                      show own_Go p.tables e below _ T17 (mkF m 171 #[.val (.int p1), .val (.int p2), .val (.int p3), .val (.long q4), .second, .val (.int (Int32.ofNat j)), .val (.ref b), .val (.int b0), .val (.int b1), .val (.int b2), .val (.int b3), .unset, .unset, .unset] [])
                      exact A5 T17 _ _ X17 e17 N17 (Nat.le_trans Zs6 (Keep.of_wr W17).1) _ U5 (fun z => (if_neg (by decide)).trans (q4_0 z)) (fun z => (if_neg (by decide)).trans (q4_1 z)) (fun z => (if_neg (by decide)).trans (q4_2 z)) (fun z => (if_neg (by decide)).trans (q4_3 z))
                    ·
                      refine own_go (fun tz kz => XS.icmpYes X6.here hx rfl (pc0 := 158) (pc' := 171) rfl (hb hby at_158) rfl (XT.ii_le_t s5) (by decide) (by decide) kz) ?_
                      show own_Go p.tables e below _ T6 (mkF m 171 #[.val (.int p1), .val (.int p2), .val (.int p3), .val (.long q4), .second, .val (.int (Int32.ofNat j)), .val (.ref b), .val (.int b0), .val (.int b1), .val (.int b2), .val (.int b3), .unset, .unset, .unset] [])
                      have hs5 : ¬ 5 < j := fun z => s5 ((own_ltn (i := 5) (by decide) hj').mpr z)
                      exact A5 T6 _ _ X6 e6 N6 Zs6 _ V4 q4_0 q4_1 q4_2 q4_3
                  by_cases s4 : (4 : Int32) < (Int32.ofNat j)
                  ·
                    refine own_go (fun tz kz => XS.icmpNo X5.here hx rfl (hb hby at_145) rfl (XT.ii_le_f s4) kz) ?_
                    show own_Go p.tables e below _ T5 (mkF m 148 #[.val (.int p1), .val (.int p2), .val (.int p3), .val (.long q4), .second, .val (.int (Int32.ofNat j)), .val (.ref b), .val (.int b0), .val (.int b1), .val (.int b2), .val (.int b3), .unset, .unset, .unset] [])
                    have hs4 : 4 < j := (own_ltn (i := 4) (by decide) hj').mp s4
                    refine own_go (fun tz kz => XS.aload X5.here hx rfl (hb hby at_148) rfl rfl kz) ?_
                    show own_Go p.tables e below _ T5 (mkF m 150 #[.val (.int p1), .val (.int p2), .val (.int p3), .val (.long q4), .second, .val (.int (Int32.ofNat j)), .val (.ref b), .val (.int b0), .val (.int b1), .val (.int b2), .val (.int b3), .unset, .unset, .unset] [(.ref b)])
                    refine own_go (fun tz kz => XS.iconst X5.here hx rfl (hb hby at_150) kz) ?_
                    show own_Go p.tables e below _ T5 (mkF m 151 #[.val (.int p1), .val (.int p2), .val (.int p3), .val (.long q4), .second, .val (.int (Int32.ofNat j)), .val (.ref b), .val (.int b0), .val (.int b1), .val (.int b2), .val (.int b3), .unset, .unset, .unset] [(.int (4 : Int32)), (.ref b)])
                    refine own_go (fun tz kz => XT.lloadN X5.here hx rfl (hb hby at_151) rfl kz) ?_
                    show own_Go p.tables e below _ T5 (mkF m 152 #[.val (.int p1), .val (.int p2), .val (.int p3), .val (.long q4), .second, .val (.int (Int32.ofNat j)), .val (.ref b), .val (.int b0), .val (.int b1), .val (.int b2), .val (.int b3), .unset, .unset, .unset] [(.long q4), (.int (4 : Int32)), (.ref b)])
                    refine own_go (fun tz kz => XT.l2i X5.here hx rfl (hb hby at_152) rfl kz) ?_
                    show own_Go p.tables e below _ T5 (mkF m 153 #[.val (.int p1), .val (.int p2), .val (.int p3), .val (.long q4), .second, .val (.int (Int32.ofNat j)), .val (.ref b), .val (.int b0), .val (.int b1), .val (.int b2), .val (.int b3), .unset, .unset, .unset] [(.int q4.toInt32), (.int (4 : Int32)), (.ref b)])
                    refine own_go (fun tz kz => XT.i2b X5.here hx rfl (hb hby at_153) rfl kz) ?_
                    show own_Go p.tables e below _ T5 (mkF m 154 #[.val (.int p1), .val (.int p2), .val (.int p3), .val (.long q4), .second, .val (.int (Int32.ofNat j)), .val (.ref b), .val (.int b0), .val (.int b1), .val (.int b2), .val (.int b3), .unset, .unset, .unset] [(.int q4.toInt32.toInt8.toInt32), (.int (4 : Int32)), (.ref b)])
                    obtain ⟨c18, Ar18, Sz18, Ge18⟩ := id (V3)
                    obtain ⟨T18, h18, X18, e18, W18, st18⟩ := stB X5 hx hZ e5 Ar18 (j := (4 : Int32)) (own_inb (i := 4) Sz18 (own_nat (i := 4) (by decide)) hs4) (g := (mkF m 154 #[.val (.int p1), .val (.int p2), .val (.int p3), .val (.long q4), .second, .val (.int (Int32.ofNat j)), .val (.ref b), .val (.int b0), .val (.int b1), .val (.int b2), .val (.int b3), .unset, .unset, .unset] [(.int q4.toInt32.toInt8.toInt32), (.int (4 : Int32)), (.ref b)])) rfl rfl (hb hby at_154)
                    have U4 := own_Av.set (V3) W18 ((own_nat (i := 4) (by decide)) : ¬ (4 : Int32) < 0 ∧ ((4 : Int32)).toNatClampNeg = 4).2
                    have N18 := Fr.snoc X18 N5 g_b
                    refine own_go st18 ?_
                    show own_Go p.tables e below _ T18 (mkF m 155 #[.val (.int p1), .val (.int p2), .val (.int p3), .val (.long q4), .second, .val (.int (Int32.ofNat j)), .val (.ref b), .val (.int b0), .val (.int b1), .val (.int b2), .val (.int b3), .unset, .unset, .unset] [])
                    exact A4 T18 _ _ X18 e18 N18 (Nat.le_trans Zs5 (Keep.of_wr W18).1) _ U4 (fun z => (if_neg (by decide)).trans (q3_0 z)) (fun z => (if_neg (by decide)).trans (q3_1 z)) (fun z => (if_neg (by decide)).trans (q3_2 z)) (fun z => (if_neg (by decide)).trans (q3_3 z))
                  ·
                    refine own_go (fun tz kz => XS.icmpYes X5.here hx rfl (pc0 := 145) (pc' := 155) rfl (hb hby at_145) rfl (XT.ii_le_t s4) (by decide) (by decide) kz) ?_
                    show own_Go p.tables e below _ T5 (mkF m 155 #[.val (.int p1), .val (.int p2), .val (.int p3), .val (.long q4), .second, .val (.int (Int32.ofNat j)), .val (.ref b), .val (.int b0), .val (.int b1), .val (.int b2), .val (.int b3), .unset, .unset, .unset] [])
                    have hs4 : ¬ 4 < j := fun z => s4 ((own_ltn (i := 4) (by decide) hj').mpr z)
                    exact A4 T5 _ _ X5 e5 N5 Zs5 _ V3 q3_0 q3_1 q3_2 q3_3
                by_cases s3 : (3 : Int32) < (Int32.ofNat j)
                ·
                  refine own_go (fun tz kz => XS.icmpNo X4.here hx rfl (hb hby at_132) rfl (XT.ii_le_f s3) kz) ?_
                  show own_Go p.tables e below _ T4 (mkF m 135 #[.val (.int p1), .val (.int p2), .val (.int p3), .val (.long q4), .second, .val (.int (Int32.ofNat j)), .val (.ref b), .val (.int b0), .val (.int b1), .val (.int b2), .val (.int b3), .unset, .unset, .unset] [])
                  have hs3 : 3 < j := (own_ltn (i := 3) (by decide) hj').mp s3
                  refine own_go (fun tz kz => XS.aload X4.here hx rfl (hb hby at_135) rfl rfl kz) ?_
                  show own_Go p.tables e below _ T4 (mkF m 137 #[.val (.int p1), .val (.int p2), .val (.int p3), .val (.long q4), .second, .val (.int (Int32.ofNat j)), .val (.ref b), .val (.int b0), .val (.int b1), .val (.int b2), .val (.int b3), .unset, .unset, .unset] [(.ref b)])
                  refine own_go (fun tz kz => XS.iconst X4.here hx rfl (hb hby at_137) kz) ?_
                  show own_Go p.tables e below _ T4 (mkF m 138 #[.val (.int p1), .val (.int p2), .val (.int p3), .val (.long q4), .second, .val (.int (Int32.ofNat j)), .val (.ref b), .val (.int b0), .val (.int b1), .val (.int b2), .val (.int b3), .unset, .unset, .unset] [(.int (3 : Int32)), (.ref b)])
                  refine own_go (fun tz kz => XS.iload X4.here hx rfl (hb hby at_138) rfl kz) ?_
                  show own_Go p.tables e below _ T4 (mkF m 140 #[.val (.int p1), .val (.int p2), .val (.int p3), .val (.long q4), .second, .val (.int (Int32.ofNat j)), .val (.ref b), .val (.int b0), .val (.int b1), .val (.int b2), .val (.int b3), .unset, .unset, .unset] [(.int b3), (.int (3 : Int32)), (.ref b)])
                  refine own_go (fun tz kz => XT.i2b X4.here hx rfl (hb hby at_140) rfl kz) ?_
                  show own_Go p.tables e below _ T4 (mkF m 141 #[.val (.int p1), .val (.int p2), .val (.int p3), .val (.long q4), .second, .val (.int (Int32.ofNat j)), .val (.ref b), .val (.int b0), .val (.int b1), .val (.int b2), .val (.int b3), .unset, .unset, .unset] [(.int b3.toInt8.toInt32), (.int (3 : Int32)), (.ref b)])
                  obtain ⟨c19, Ar19, Sz19, Ge19⟩ := id (V2)
                  obtain ⟨T19, h19, X19, e19, W19, st19⟩ := stB X4 hx hZ e4 Ar19 (j := (3 : Int32)) (own_inb (i := 3) Sz19 (own_nat (i := 3) (by decide)) hs3) (g := (mkF m 141 #[.val (.int p1), .val (.int p2), .val (.int p3), .val (.long q4), .second, .val (.int (Int32.ofNat j)), .val (.ref b), .val (.int b0), .val (.int b1), .val (.int b2), .val (.int b3), .unset, .unset, .unset] [(.int b3.toInt8.toInt32), (.int (3 : Int32)), (.ref b)])) rfl rfl (hb hby at_141)
                  have U3 := own_Av.set (V2) W19 ((own_nat (i := 3) (by decide)) : ¬ (3 : Int32) < 0 ∧ ((3 : Int32)).toNatClampNeg = 3).2
                  have N19 := Fr.snoc X19 N4 g_b
                  refine own_go st19 ?_
                  show own_Go p.tables e below _ T19 (mkF m 142 #[.val (.int p1), .val (.int p2), .val (.int p3), .val (.long q4), .second, .val (.int (Int32.ofNat j)), .val (.ref b), .val (.int b0), .val (.int b1), .val (.int b2), .val (.int b3), .unset, .unset, .unset] [])
                  exact A3 T19 _ _ X19 e19 N19 (Nat.le_trans Zs4 (Keep.of_wr W19).1) _ U3 (fun z => (if_neg (by decide)).trans (q2_0 z)) (fun z => (if_neg (by decide)).trans (q2_1 z)) (fun z => (if_neg (by decide)).trans (q2_2 z)) (fun _ => (if_pos rfl).trans (congrArg Value.int (own_b8 b3)))
                ·
                  refine own_go (fun tz kz => XS.icmpYes X4.here hx rfl (pc0 := 132) (pc' := 142) rfl (hb hby at_132) rfl (XT.ii_le_t s3) (by decide) (by decide) kz) ?_
                  show own_Go p.tables e below _ T4 (mkF m 142 #[.val (.int p1), .val (.int p2), .val (.int p3), .val (.long q4), .second, .val (.int (Int32.ofNat j)), .val (.ref b), .val (.int b0), .val (.int b1), .val (.int b2), .val (.int b3), .unset, .unset, .unset] [])
                  have hs3 : ¬ 3 < j := fun z => s3 ((own_ltn (i := 3) (by decide) hj').mpr z)
                  exact A3 T4 _ _ X4 e4 N4 Zs4 _ V2 q2_0 q2_1 q2_2 (fun z => absurd z hs3)
              by_cases s2 : (2 : Int32) < (Int32.ofNat j)
              ·
                refine own_go (fun tz kz => XS.icmpNo X3.here hx rfl (hb hby at_119) rfl (XT.ii_le_f s2) kz) ?_
                show own_Go p.tables e below _ T3 (mkF m 122 #[.val (.int p1), .val (.int p2), .val (.int p3), .val (.long q4), .second, .val (.int (Int32.ofNat j)), .val (.ref b), .val (.int b0), .val (.int b1), .val (.int b2), .val (.int b3), .unset, .unset, .unset] [])
                have hs2 : 2 < j := (own_ltn (i := 2) (by decide) hj').mp s2
                refine own_go (fun tz kz => XS.aload X3.here hx rfl (hb hby at_122) rfl rfl kz) ?_
                show own_Go p.tables e below _ T3 (mkF m 124 #[.val (.int p1), .val (.int p2), .val (.int p3), .val (.long q4), .second, .val (.int (Int32.ofNat j)), .val (.ref b), .val (.int b0), .val (.int b1), .val (.int b2), .val (.int b3), .unset, .unset, .unset] [(.ref b)])
                refine own_go (fun tz kz => XS.iconst X3.here hx rfl (hb hby at_124) kz) ?_
                show own_Go p.tables e below _ T3 (mkF m 125 #[.val (.int p1), .val (.int p2), .val (.int p3), .val (.long q4), .second, .val (.int (Int32.ofNat j)), .val (.ref b), .val (.int b0), .val (.int b1), .val (.int b2), .val (.int b3), .unset, .unset, .unset] [(.int (2 : Int32)), (.ref b)])
                refine own_go (fun tz kz => XS.iload X3.here hx rfl (hb hby at_125) rfl kz) ?_
                show own_Go p.tables e below _ T3 (mkF m 127 #[.val (.int p1), .val (.int p2), .val (.int p3), .val (.long q4), .second, .val (.int (Int32.ofNat j)), .val (.ref b), .val (.int b0), .val (.int b1), .val (.int b2), .val (.int b3), .unset, .unset, .unset] [(.int b2), (.int (2 : Int32)), (.ref b)])
                refine own_go (fun tz kz => XT.i2b X3.here hx rfl (hb hby at_127) rfl kz) ?_
                show own_Go p.tables e below _ T3 (mkF m 128 #[.val (.int p1), .val (.int p2), .val (.int p3), .val (.long q4), .second, .val (.int (Int32.ofNat j)), .val (.ref b), .val (.int b0), .val (.int b1), .val (.int b2), .val (.int b3), .unset, .unset, .unset] [(.int b2.toInt8.toInt32), (.int (2 : Int32)), (.ref b)])
                obtain ⟨c20, Ar20, Sz20, Ge20⟩ := id (V1)
                obtain ⟨T20, h20, X20, e20, W20, st20⟩ := stB X3 hx hZ e3 Ar20 (j := (2 : Int32)) (own_inb (i := 2) Sz20 (own_nat (i := 2) (by decide)) hs2) (g := (mkF m 128 #[.val (.int p1), .val (.int p2), .val (.int p3), .val (.long q4), .second, .val (.int (Int32.ofNat j)), .val (.ref b), .val (.int b0), .val (.int b1), .val (.int b2), .val (.int b3), .unset, .unset, .unset] [(.int b2.toInt8.toInt32), (.int (2 : Int32)), (.ref b)])) rfl rfl (hb hby at_128)
                have U2 := own_Av.set (V1) W20 ((own_nat (i := 2) (by decide)) : ¬ (2 : Int32) < 0 ∧ ((2 : Int32)).toNatClampNeg = 2).2
                have N20 := Fr.snoc X20 N3 g_b
                refine own_go st20 ?_
                show own_Go p.tables e below _ T20 (mkF m 129 #[.val (.int p1), .val (.int p2), .val (.int p3), .val (.long q4), .second, .val (.int (Int32.ofNat j)), .val (.ref b), .val (.int b0), .val (.int b1), .val (.int b2), .val (.int b3), .unset, .unset, .unset] [])
                exact A2 T20 _ _ X20 e20 N20 (Nat.le_trans Zs3 (Keep.of_wr W20).1) _ U2 (fun z => (if_neg (by decide)).trans (q1_0 z)) (fun z => (if_neg (by decide)).trans (q1_1 z)) (fun _ => (if_pos rfl).trans (congrArg Value.int (own_b8 b2)))
              ·
                refine own_go (fun tz kz => XS.icmpYes X3.here hx rfl (pc0 := 119) (pc' := 129) rfl (hb hby at_119) rfl (XT.ii_le_t s2) (by decide) (by decide) kz) ?_
                show own_Go p.tables e below _ T3 (mkF m 129 #[.val (.int p1), .val (.int p2), .val (.int p3), .val (.long q4), .second, .val (.int (Int32.ofNat j)), .val (.ref b), .val (.int b0), .val (.int b1), .val (.int b2), .val (.int b3), .unset, .unset, .unset] [])
                have hs2 : ¬ 2 < j := fun z => s2 ((own_ltn (i := 2) (by decide) hj').mpr z)
                exact A2 T3 _ _ X3 e3 N3 Zs3 _ V1 q1_0 q1_1 (fun z => absurd z hs2)
            by_cases s1 : (1 : Int32) < (Int32.ofNat j)
            ·
              refine own_go (fun tz kz => XS.icmpNo X2.here hx rfl (hb hby at_106) rfl (XT.ii_le_f s1) kz) ?_
              show own_Go p.tables e below _ T2 (mkF m 109 #[.val (.int p1), .val (.int p2), .val (.int p3), .val (.long q4), .second, .val (.int (Int32.ofNat j)), .val (.ref b), .val (.int b0), .val (.int b1), .val (.int b2), .val (.int b3), .unset, .unset, .unset] [])
              have hs1 : 1 < j := (own_ltn (i := 1) (by decide) hj').mp s1
              refine own_go (fun tz kz => XS.aload X2.here hx rfl (hb hby at_109) rfl rfl kz) ?_
              show own_Go p.tables e below _ T2 (mkF m 111 #[.val (.int p1), .val (.int p2), .val (.int p3), .val (.long q4), .second, .val (.int (Int32.ofNat j)), .val (.ref b), .val (.int b0), .val (.int b1), .val (.int b2), .val (.int b3), .unset, .unset, .unset] [(.ref b)])
              refine own_go (fun tz kz => XS.iconst X2.here hx rfl (hb hby at_111) kz) ?_
              show own_Go p.tables e below _ T2 (mkF m 112 #[.val (.int p1), .val (.int p2), .val (.int p3), .val (.long q4), .second, .val (.int (Int32.ofNat j)), .val (.ref b), .val (.int b0), .val (.int b1), .val (.int b2), .val (.int b3), .unset, .unset, .unset] [(.int (1 : Int32)), (.ref b)])
              refine own_go (fun tz kz => XS.iload X2.here hx rfl (hb hby at_112) rfl kz) ?_
              show own_Go p.tables e below _ T2 (mkF m 114 #[.val (.int p1), .val (.int p2), .val (.int p3), .val (.long q4), .second, .val (.int (Int32.ofNat j)), .val (.ref b), .val (.int b0), .val (.int b1), .val (.int b2), .val (.int b3), .unset, .unset, .unset] [(.int b1), (.int (1 : Int32)), (.ref b)])
              refine own_go (fun tz kz => XT.i2b X2.here hx rfl (hb hby at_114) rfl kz) ?_
              show own_Go p.tables e below _ T2 (mkF m 115 #[.val (.int p1), .val (.int p2), .val (.int p3), .val (.long q4), .second, .val (.int (Int32.ofNat j)), .val (.ref b), .val (.int b0), .val (.int b1), .val (.int b2), .val (.int b3), .unset, .unset, .unset] [(.int b1.toInt8.toInt32), (.int (1 : Int32)), (.ref b)])
              obtain ⟨c21, Ar21, Sz21, Ge21⟩ := id (V0)
              obtain ⟨T21, h21, X21, e21, W21, st21⟩ := stB X2 hx hZ e2 Ar21 (j := (1 : Int32)) (own_inb (i := 1) Sz21 (own_nat (i := 1) (by decide)) hs1) (g := (mkF m 115 #[.val (.int p1), .val (.int p2), .val (.int p3), .val (.long q4), .second, .val (.int (Int32.ofNat j)), .val (.ref b), .val (.int b0), .val (.int b1), .val (.int b2), .val (.int b3), .unset, .unset, .unset] [(.int b1.toInt8.toInt32), (.int (1 : Int32)), (.ref b)])) rfl rfl (hb hby at_115)
              have U1 := own_Av.set (V0) W21 ((own_nat (i := 1) (by decide)) : ¬ (1 : Int32) < 0 ∧ ((1 : Int32)).toNatClampNeg = 1).2
              have N21 := Fr.snoc X21 N2 g_b
              refine own_go st21 ?_
              show own_Go p.tables e below _ T21 (mkF m 116 #[.val (.int p1), .val (.int p2), .val (.int p3), .val (.long q4), .second, .val (.int (Int32.ofNat j)), .val (.ref b), .val (.int b0), .val (.int b1), .val (.int b2), .val (.int b3), .unset, .unset, .unset] [])
              exact A1 T21 _ _ X21 e21 N21 (Nat.le_trans Zs2 (Keep.of_wr W21).1) _ U1 (fun z => (if_neg (by decide)).trans (q0_0 z)) (fun _ => (if_pos rfl).trans (congrArg Value.int (own_b8 b1)))
            ·
              refine own_go (fun tz kz => XS.icmpYes X2.here hx rfl (pc0 := 106) (pc' := 116) rfl (hb hby at_106) rfl (XT.ii_le_t s1) (by decide) (by decide) kz) ?_
              show own_Go p.tables e below _ T2 (mkF m 116 #[.val (.int p1), .val (.int p2), .val (.int p3), .val (.long q4), .second, .val (.int (Int32.ofNat j)), .val (.ref b), .val (.int b0), .val (.int b1), .val (.int b2), .val (.int b3), .unset, .unset, .unset] [])
              have hs1 : ¬ 1 < j := fun z => s1 ((own_ltn (i := 1) (by decide) hj').mpr z)
              exact A1 T2 _ _ X2 e2 N2 Zs2 _ V0 q0_0 (fun z => absurd z hs1)
          by_cases s0 : (0 : Int32) < (Int32.ofNat j)
          ·
            refine own_go (fun tz kz => XS.ifNo X1.here hx rfl (hb hby at_93) rfl (XT.i0_le_f s0) kz) ?_
            show own_Go p.tables e below _ T1 (mkF m 96 #[.val (.int p1), .val (.int p2), .val (.int p3), .val (.long q4), .second, .val (.int (Int32.ofNat j)), .val (.ref b), .val (.int b0), .val (.int b1), .val (.int b2), .val (.int b3), .unset, .unset, .unset] [])
            have hs0 : 0 < j := (own_ltn (i := 0) (by decide) hj').mp s0
            refine own_go (fun tz kz => XS.aload X1.here hx rfl (hb hby at_96) rfl rfl kz) ?_
            show own_Go p.tables e below _ T1 (mkF m 98 #[.val (.int p1), .val (.int p2), .val (.int p3), .val (.long q4), .second, .val (.int (Int32.ofNat j)), .val (.ref b), .val (.int b0), .val (.int b1), .val (.int b2), .val (.int b3), .unset, .unset, .unset] [(.ref b)])
            refine own_go (fun tz kz => XS.iconst X1.here hx rfl (hb hby at_98) kz) ?_
            show own_Go p.tables e below _ T1 (mkF m 99 #[.val (.int p1), .val (.int p2), .val (.int p3), .val (.long q4), .second, .val (.int (Int32.ofNat j)), .val (.ref b), .val (.int b0), .val (.int b1), .val (.int b2), .val (.int b3), .unset, .unset, .unset] [(.int (0 : Int32)), (.ref b)])
            refine own_go (fun tz kz => XS.iload X1.here hx rfl (hb hby at_99) rfl kz) ?_
            show own_Go p.tables e below _ T1 (mkF m 101 #[.val (.int p1), .val (.int p2), .val (.int p3), .val (.long q4), .second, .val (.int (Int32.ofNat j)), .val (.ref b), .val (.int b0), .val (.int b1), .val (.int b2), .val (.int b3), .unset, .unset, .unset] [(.int b0), (.int (0 : Int32)), (.ref b)])
            refine own_go (fun tz kz => XT.i2b X1.here hx rfl (hb hby at_101) rfl kz) ?_
            show own_Go p.tables e below _ T1 (mkF m 102 #[.val (.int p1), .val (.int p2), .val (.int p3), .val (.long q4), .second, .val (.int (Int32.ofNat j)), .val (.ref b), .val (.int b0), .val (.int b1), .val (.int b2), .val (.int b3), .unset, .unset, .unset] [(.int b0.toInt8.toInt32), (.int (0 : Int32)), (.ref b)])
            obtain ⟨c22, Ar22, Sz22, Ge22⟩ := id (V_b)
            obtain ⟨T22, h22, X22, e22, W22, st22⟩ := stB X1 hx hZ e1 Ar22 (j := (0 : Int32)) (own_inb (i := 0) Sz22 (own_nat (i := 0) (by decide)) hs0) (g := (mkF m 102 #[.val (.int p1), .val (.int p2), .val (.int p3), .val (.long q4), .second, .val (.int (Int32.ofNat j)), .val (.ref b), .val (.int b0), .val (.int b1), .val (.int b2), .val (.int b3), .unset, .unset, .unset] [(.int b0.toInt8.toInt32), (.int (0 : Int32)), (.ref b)])) rfl rfl (hb hby at_102)
            have U0 := own_Av.set (V_b) W22 ((own_nat (i := 0) (by decide)) : ¬ (0 : Int32) < 0 ∧ ((0 : Int32)).toNatClampNeg = 0).2
            have N22 := Fr.snoc X22 N0 g_b
            refine own_go st22 ?_
            show own_Go p.tables e below _ T22 (mkF m 103 #[.val (.int p1), .val (.int p2), .val (.int p3), .val (.long q4), .second, .val (.int (Int32.ofNat j)), .val (.ref b), .val (.int b0), .val (.int b1), .val (.int b2), .val (.int b3), .unset, .unset, .unset] [])
            exact A0 T22 _ _ X22 e22 N22 (Nat.le_trans (Nat.le_trans Z0 E1.1) (Keep.of_wr W22).1) _ U0 (fun _ => (if_pos rfl).trans (congrArg Value.int (own_b8 b0)))
          ·
            refine own_go (fun tz kz => XS.ifYes X1.here hx rfl (pc0 := 93) (pc' := 103) rfl (hb hby at_93) rfl (XT.i0_le_t s0) (by decide) (by decide) kz) ?_
            show own_Go p.tables e below _ T1 (mkF m 103 #[.val (.int p1), .val (.int p2), .val (.int p3), .val (.long q4), .second, .val (.int (Int32.ofNat j)), .val (.ref b), .val (.int b0), .val (.int b1), .val (.int b2), .val (.int b3), .unset, .unset, .unset] [])
            have hs0 : ¬ 0 < j := fun z => s0 ((own_ltn (i := 0) (by decide) hj').mpr z)
            exact A0 T1 _ _ X1 e1 N0 (Nat.le_trans Z0 E1.1) _ V_b (fun z => absurd z hs0)
        by_cases t3 : (p2 &&& (8 : Int32)) = (0 : Int32)
        ·
          refine own_go (fun tz kz => XS.ifYes X1.here hx rfl (pc0 := 74) (pc' := 81) rfl (hb hby at_74) rfl (XT.i0_eq_t t3) (by decide) (by decide) kz) ?_
          show own_Go p.tables e below _ T1 (mkF m 81 #[.val (.int p1), .val (.int p2), .val (.int p3), .val (.long q4), .second, .val (.int (Int32.ofNat j)), .val (.ref b), .val (.int b0), .val (.int b1), .val (.int b2), .unset, .unset, .unset, .unset] [])
          refine own_go (fun tz kz => XS.iloadN X1.here hx rfl (hb hby at_81) rfl kz) ?_
          show own_Go p.tables e below _ T1 (mkF m 82 #[.val (.int p1), .val (.int p2), .val (.int p3), .val (.long q4), .second, .val (.int (Int32.ofNat j)), .val (.ref b), .val (.int b0), .val (.int b1), .val (.int b2), .unset, .unset, .unset, .unset] [(.int p3)])
          refine own_go (fun tz kz => XS.bipush X1.here hx rfl (hb hby at_82) kz) ?_
          show own_Go p.tables e below _ T1 (mkF m 84 #[.val (.int p1), .val (.int p2), .val (.int p3), .val (.long q4), .second, .val (.int (Int32.ofNat j)), .val (.ref b), .val (.int b0), .val (.int b1), .val (.int b2), .unset, .unset, .unset, .unset] [(.int (24 : Int32)), (.int p3)])
          refine own_go (fun tz kz => XT.iushr X1.here hx rfl (hb hby at_84) rfl kz) ?_
          show own_Go p.tables e below _ T1 (mkF m 85 #[.val (.int p1), .val (.int p2), .val (.int p3), .val (.long q4), .second, .val (.int (Int32.ofNat j)), .val (.ref b), .val (.int b0), .val (.int b1), .val (.int b2), .unset, .unset, .unset, .unset] [(.int (XT.ushr p3 (24 : Int32)))])
          refine own_go (fun tz kz => XS.sipush X1.here hx rfl (hb hby at_85) kz) ?_
          show own_Go p.tables e below _ T1 (mkF m 88 #[.val (.int p1), .val (.int p2), .val (.int p3), .val (.long q4), .second, .val (.int (Int32.ofNat j)), .val (.ref b), .val (.int b0), .val (.int b1), .val (.int b2), .unset, .unset, .unset, .unset] [(.int (255 : Int32)), (.int (XT.ushr p3 (24 : Int32)))])
          refine own_go (fun tz kz => XS.iand X1.here hx rfl (hb hby at_88) rfl kz) ?_
          show own_Go p.tables e below _ T1 (mkF m 89 #[.val (.int p1), .val (.int p2), .val (.int p3), .val (.long q4), .second, .val (.int (Int32.ofNat j)), .val (.ref b), .val (.int b0), .val (.int b1), .val (.int b2), .unset, .unset, .unset, .unset] [(.int ((XT.ushr p3 (24 : Int32)) &&& (255 : Int32)))])
          exact B3 _ (own_b_mask _)
        ·
          refine own_go (fun tz kz => XS.ifNo X1.here hx rfl (hb hby at_74) rfl (XT.i0_eq_f t3) kz) ?_
          show own_Go p.tables e below _ T1 (mkF m 77 #[.val (.int p1), .val (.int p2), .val (.int p3), .val (.long q4), .second, .val (.int (Int32.ofNat j)), .val (.ref b), .val (.int b0), .val (.int b1), .val (.int b2), .unset, .unset, .unset, .unset] [])
          refine own_go (fun tz kz => XS.iconst X1.here hx rfl (hb hby at_77) kz) ?_
          show own_Go p.tables e below _ T1 (mkF m 78 #[.val (.int p1), .val (.int p2), .val (.int p3), .val (.long q4), .second, .val (.int (Int32.ofNat j)), .val (.ref b), .val (.int b0), .val (.int b1), .val (.int b2), .unset, .unset, .unset, .unset] [(.int (0 : Int32))])
          refine own_go (fun tz kz => XS.goto X1.here hx rfl (pc0 := 78) (pc' := 89) rfl (hb hby at_78) (by decide) (by decide) kz) ?_
          show own_Go p.tables e below _ T1 (mkF m 89 #[.val (.int p1), .val (.int p2), .val (.int p3), .val (.long q4), .second, .val (.int (Int32.ofNat j)), .val (.ref b), .val (.int b0), .val (.int b1), .val (.int b2), .unset, .unset, .unset, .unset] [(.int (0 : Int32))])
          exact B3 _ own_b0
      by_cases t2 : (p2 &&& (4 : Int32)) = (0 : Int32)
      ·
        refine own_go (fun tz kz => XS.ifYes X1.here hx rfl (pc0 := 52) (pc' := 60) rfl (hb hby at_52) rfl (XT.i0_eq_t t2) (by decide) (by decide) kz) ?_
        show own_Go p.tables e below _ T1 (mkF m 60 #[.val (.int p1), .val (.int p2), .val (.int p3), .val (.long q4), .second, .val (.int (Int32.ofNat j)), .val (.ref b), .val (.int b0), .val (.int b1), .unset, .unset, .unset, .unset, .unset] [])
        refine own_go (fun tz kz => XS.iloadN X1.here hx rfl (hb hby at_60) rfl kz) ?_
        show own_Go p.tables e below _ T1 (mkF m 61 #[.val (.int p1), .val (.int p2), .val (.int p3), .val (.long q4), .second, .val (.int (Int32.ofNat j)), .val (.ref b), .val (.int b0), .val (.int b1), .unset, .unset, .unset, .unset, .unset] [(.int p3)])
        refine own_go (fun tz kz => XS.bipush X1.here hx rfl (hb hby at_61) kz) ?_
        show own_Go p.tables e below _ T1 (mkF m 63 #[.val (.int p1), .val (.int p2), .val (.int p3), .val (.long q4), .second, .val (.int (Int32.ofNat j)), .val (.ref b), .val (.int b0), .val (.int b1), .unset, .unset, .unset, .unset, .unset] [(.int (16 : Int32)), (.int p3)])
        refine own_go (fun tz kz => XT.iushr X1.here hx rfl (hb hby at_63) rfl kz) ?_
        show own_Go p.tables e below _ T1 (mkF m 64 #[.val (.int p1), .val (.int p2), .val (.int p3), .val (.long q4), .second, .val (.int (Int32.ofNat j)), .val (.ref b), .val (.int b0), .val (.int b1), .unset, .unset, .unset, .unset, .unset] [(.int (XT.ushr p3 (16 : Int32)))])
        refine own_go (fun tz kz => XS.sipush X1.here hx rfl (hb hby at_64) kz) ?_
        show own_Go p.tables e below _ T1 (mkF m 67 #[.val (.int p1), .val (.int p2), .val (.int p3), .val (.long q4), .second, .val (.int (Int32.ofNat j)), .val (.ref b), .val (.int b0), .val (.int b1), .unset, .unset, .unset, .unset, .unset] [(.int (255 : Int32)), (.int (XT.ushr p3 (16 : Int32)))])
        refine own_go (fun tz kz => XS.iand X1.here hx rfl (hb hby at_67) rfl kz) ?_
        show own_Go p.tables e below _ T1 (mkF m 68 #[.val (.int p1), .val (.int p2), .val (.int p3), .val (.long q4), .second, .val (.int (Int32.ofNat j)), .val (.ref b), .val (.int b0), .val (.int b1), .unset, .unset, .unset, .unset, .unset] [(.int ((XT.ushr p3 (16 : Int32)) &&& (255 : Int32)))])
        exact B2 _ (own_b_mask _)
      ·
        refine own_go (fun tz kz => XS.ifNo X1.here hx rfl (hb hby at_52) rfl (XT.i0_eq_f t2) kz) ?_
        show own_Go p.tables e below _ T1 (mkF m 55 #[.val (.int p1), .val (.int p2), .val (.int p3), .val (.long q4), .second, .val (.int (Int32.ofNat j)), .val (.ref b), .val (.int b0), .val (.int b1), .unset, .unset, .unset, .unset, .unset] [])
        refine own_go (fun tz kz => XS.bipush X1.here hx rfl (hb hby at_55) kz) ?_
        show own_Go p.tables e below _ T1 (mkF m 57 #[.val (.int p1), .val (.int p2), .val (.int p3), .val (.long q4), .second, .val (.int (Int32.ofNat j)), .val (.ref b), .val (.int b0), .val (.int b1), .unset, .unset, .unset, .unset, .unset] [(.int (8 : Int32))])
        refine own_go (fun tz kz => XS.goto X1.here hx rfl (pc0 := 57) (pc' := 68) rfl (hb hby at_57) (by decide) (by decide) kz) ?_
        show own_Go p.tables e below _ T1 (mkF m 68 #[.val (.int p1), .val (.int p2), .val (.int p3), .val (.long q4), .second, .val (.int (Int32.ofNat j)), .val (.ref b), .val (.int b0), .val (.int b1), .unset, .unset, .unset, .unset, .unset] [(.int (8 : Int32))])
        exact B2 _ own_b8'
    by_cases t1 : (p2 &&& (2 : Int32)) = (0 : Int32)
    ·
      refine own_go (fun tz kz => XS.ifYes X1.here hx rfl (pc0 := 32) (pc' := 39) rfl (hb hby at_32) rfl (XT.i0_eq_t t1) (by decide) (by decide) kz) ?_
      show own_Go p.tables e below _ T1 (mkF m 39 #[.val (.int p1), .val (.int p2), .val (.int p3), .val (.long q4), .second, .val (.int (Int32.ofNat j)), .val (.ref b), .val (.int b0), .unset, .unset, .unset, .unset, .unset, .unset] [])
      refine own_go (fun tz kz => XS.iloadN X1.here hx rfl (hb hby at_39) rfl kz) ?_
      show own_Go p.tables e below _ T1 (mkF m 40 #[.val (.int p1), .val (.int p2), .val (.int p3), .val (.long q4), .second, .val (.int (Int32.ofNat j)), .val (.ref b), .val (.int b0), .unset, .unset, .unset, .unset, .unset, .unset] [(.int p3)])
      refine own_go (fun tz kz => XS.bipush X1.here hx rfl (hb hby at_40) kz) ?_
      show own_Go p.tables e below _ T1 (mkF m 42 #[.val (.int p1), .val (.int p2), .val (.int p3), .val (.long q4), .second, .val (.int (Int32.ofNat j)), .val (.ref b), .val (.int b0), .unset, .unset, .unset, .unset, .unset, .unset] [(.int (8 : Int32)), (.int p3)])
      refine own_go (fun tz kz => XT.iushr X1.here hx rfl (hb hby at_42) rfl kz) ?_
      show own_Go p.tables e below _ T1 (mkF m 43 #[.val (.int p1), .val (.int p2), .val (.int p3), .val (.long q4), .second, .val (.int (Int32.ofNat j)), .val (.ref b), .val (.int b0), .unset, .unset, .unset, .unset, .unset, .unset] [(.int (XT.ushr p3 (8 : Int32)))])
      refine own_go (fun tz kz => XS.sipush X1.here hx rfl (hb hby at_43) kz) ?_
      show own_Go p.tables e below _ T1 (mkF m 46 #[.val (.int p1), .val (.int p2), .val (.int p3), .val (.long q4), .second, .val (.int (Int32.ofNat j)), .val (.ref b), .val (.int b0), .unset, .unset, .unset, .unset, .unset, .unset] [(.int (255 : Int32)), (.int (XT.ushr p3 (8 : Int32)))])
      refine own_go (fun tz kz => XS.iand X1.here hx rfl (hb hby at_46) rfl kz) ?_
      show own_Go p.tables e below _ T1 (mkF m 47 #[.val (.int p1), .val (.int p2), .val (.int p3), .val (.long q4), .second, .val (.int (Int32.ofNat j)), .val (.ref b), .val (.int b0), .unset, .unset, .unset, .unset, .unset, .unset] [(.int ((XT.ushr p3 (8 : Int32)) &&& (255 : Int32)))])
      exact B1 _ (own_b_mask _)
    ·
      refine own_go (fun tz kz => XS.ifNo X1.here hx rfl (hb hby at_32) rfl (XT.i0_eq_f t1) kz) ?_
      show own_Go p.tables e below _ T1 (mkF m 35 #[.val (.int p1), .val (.int p2), .val (.int p3), .val (.long q4), .second, .val (.int (Int32.ofNat j)), .val (.ref b), .val (.int b0), .unset, .unset, .unset, .unset, .unset, .unset] [])
      refine own_go (fun tz kz => XS.iconst X1.here hx rfl (hb hby at_35) kz) ?_
      show own_Go p.tables e below _ T1 (mkF m 36 #[.val (.int p1), .val (.int p2), .val (.int p3), .val (.long q4), .second, .val (.int (Int32.ofNat j)), .val (.ref b), .val (.int b0), .unset, .unset, .unset, .unset, .unset, .unset] [(.int (0 : Int32))])
      refine own_go (fun tz kz => XS.goto X1.here hx rfl (pc0 := 36) (pc' := 47) rfl (hb hby at_36) (by decide) (by decide) kz) ?_
      show own_Go p.tables e below _ T1 (mkF m 47 #[.val (.int p1), .val (.int p2), .val (.int p3), .val (.long q4), .second, .val (.int (Int32.ofNat j)), .val (.ref b), .val (.int b0), .unset, .unset, .unset, .unset, .unset, .unset] [(.int (0 : Int32))])
      exact B1 _ own_b0
  by_cases t0 : (p2 &&& (1 : Int32)) = (0 : Int32)
  ·
    refine own_go (fun tz kz => XS.ifYes X1.here hx rfl (pc0 := 15) (pc' := 22) rfl (hb hby at_15) rfl (XT.i0_eq_t t0) (by decide) (by decide) kz) ?_
    show own_Go p.tables e below _ T1 (mkF m 22 #[.val (.int p1), .val (.int p2), .val (.int p3), .val (.long q4), .second, .val (.int (Int32.ofNat j)), .val (.ref b), .unset, .unset, .unset, .unset, .unset, .unset, .unset] [])
    refine own_go (fun tz kz => XS.iloadN X1.here hx rfl (hb hby at_22) rfl kz) ?_
    show own_Go p.tables e below _ T1 (mkF m 23 #[.val (.int p1), .val (.int p2), .val (.int p3), .val (.long q4), .second, .val (.int (Int32.ofNat j)), .val (.ref b), .unset, .unset, .unset, .unset, .unset, .unset, .unset] [(.int p3)])
    refine own_go (fun tz kz => XS.sipush X1.here hx rfl (hb hby at_23) kz) ?_
    show own_Go p.tables e below _ T1 (mkF m 26 #[.val (.int p1), .val (.int p2), .val (.int p3), .val (.long q4), .second, .val (.int (Int32.ofNat j)), .val (.ref b), .unset, .unset, .unset, .unset, .unset, .unset, .unset] [(.int (255 : Int32)), (.int p3)])
    refine own_go (fun tz kz => XS.iand X1.here hx rfl (hb hby at_26) rfl kz) ?_
    show own_Go p.tables e below _ T1 (mkF m 27 #[.val (.int p1), .val (.int p2), .val (.int p3), .val (.long q4), .second, .val (.int (Int32.ofNat j)), .val (.ref b), .unset, .unset, .unset, .unset, .unset, .unset, .unset] [(.int (p3 &&& (255 : Int32)))])
    exact B0 _ (own_b_mask _)
  ·
    refine own_go (fun tz kz => XS.ifNo X1.here hx rfl (hb hby at_15) rfl (XT.i0_eq_f t0) kz) ?_
    show own_Go p.tables e below _ T1 (mkF m 18 #[.val (.int p1), .val (.int p2), .val (.int p3), .val (.long q4), .second, .val (.int (Int32.ofNat j)), .val (.ref b), .unset, .unset, .unset, .unset, .unset, .unset, .unset] [])
    refine own_go (fun tz kz => XS.iconst X1.here hx rfl (hb hby at_18) kz) ?_
    show own_Go p.tables e below _ T1 (mkF m 19 #[.val (.int p1), .val (.int p2), .val (.int p3), .val (.long q4), .second, .val (.int (Int32.ofNat j)), .val (.ref b), .unset, .unset, .unset, .unset, .unset, .unset, .unset] [(.int (3 : Int32))])
    refine own_go (fun tz kz => XS.goto X1.here hx rfl (pc0 := 19) (pc' := 27) rfl (hb hby at_19) (by decide) (by decide) kz) ?_
    show own_Go p.tables e below _ T1 (mkF m 27 #[.val (.int p1), .val (.int p2), .val (.int p3), .val (.long q4), .second, .val (.int (Int32.ofNat j)), .val (.ref b), .unset, .unset, .unset, .unset, .unset, .unset, .unset] [(.int (3 : Int32))])
    exact B0 _ own_b3
set_option maxRecDepth 65536 in
set_option maxHeartbeats 40000000 in
theorem comes_1 {Post : Tables → Env → Array Value → State → Outcome → State → Prop} (hpost : ∀ tb e args s v u, (limb_1_1.after args s (.returned v) u = true ∧ limb_1_2.after args s (.returned v) u = true ∧ True) → FrameEnd s (.returned v) u (Jvm.fieldLocs frame_1_writes args s ++ Jvm.arrayLocs frame_1_arrays args s ++ Jvm.staticLocs frame_1_statics s) 16 128 → Post tb e args s (.returned v) u) :
    ArmFor flags0 classFile x code maxLocals ret World_1 tables_1 room_1 Calls_1 rest_1 Pre_1 Post := by
  intro l hfl _ _ p e ha hc hk s m args below hf hA hF happ hP
  obtain ⟨hcalls, hrest, hpre⟩ := hP
  obtain ⟨-, -, -, hnamed, -, -, -, hat⟩ := (Spec.applies_iff hf).mp happ
  obtain ⟨hg, hn⟩ := and_e (Cond.before_iff.mp (show (Jvm.Cond.and given_1 narrow_1).before args s = true from hpre))
  obtain ⟨gc, ga0⟩ := and_e hg
  obtain ⟨gv0, ga1⟩ := and_e ga0
  obtain ⟨gv1, ga2⟩ := and_e ga1
  obtain ⟨gv2, ga3⟩ := and_e ga2
  have gv3 := ga3
  obtain ⟨w0, w1, w2, w3, rfl⟩ : ∃ w0 w1 w2 w3 : Value, args = #[w0, w1, w2, w3] := by
    have hs : args.size = 4 := by simpa [Cond.value, given_1] using gc
    obtain ⟨L⟩ := args
    match L, hs with
    | [w0, w1, w2, w3], _ => exact ⟨w0, w1, w2, w3, rfl⟩
  have hw := fun d (hd : d ∈ tables_1) => atoms_spec (ws := Jvm.Cond.code x code maxLocals ret :: tables_1) hat d (List.mem_cons_of_mem _ hd)
  have hfit : Fit s := fun {y c} hc i hi => by
    obtain ⟨ha, rfl⟩ := Array.getElem?_eq_some_iff.mp hc
    have q := List.all_eq_true.mp ((Array.all_eq_true_iff_forall_mem.mp hF) _ (Array.getElem_mem ha)) i (List.mem_range.mpr hi)
    simpa [Array.getElem?_eq_getElem hi] using q
  obtain ⟨i0, ei0⟩ := is_v gv0
  obtain rfl : w0 = (.int i0) := Option.some.inj ei0
  obtain ⟨i1, ei1⟩ := is_v gv1
  obtain rfl : w1 = (.int i1) := Option.some.inj ei1
  obtain ⟨i2, ei2⟩ := is_v gv2
  obtain rfl : w2 = (.int i2) := Option.some.inj ei2
  obtain ⟨i3, ei3⟩ := isL_v gv3
  obtain rfl : w3 = (.long i3) := Option.some.inj ei3
  obtain ⟨n, o, h1, h2, h3, _, L, rfl, ⟨rfl, N⟩, hq⟩ := rm0 l s _ hw tables_1 i0 i1 i2 i3  s.heap s.heap.size (Nat.le_refl _)  p e ha hc hk s m _ below hf ((Spec.applies_iff_loose hf).mp happ).1 ⟨rfl, State.Warmed39.refl s, rfl⟩ trivial
  exact ⟨n, _, h1, h2, h3, hpost _ _ _ _ _ _ ⟨Cond.after_iff.mpr rfl, Cond.after_iff.mpr (eq_i res_at (Term.int_eval (1)) rfl), trivial⟩ ⟨hq.1, hq.2.1, (hq.2.2.sift fun y hy => Or.inr (N y hy)).mono (by decide) (by decide)⟩⟩
theorem main_1_1 : Claimed_1_1 := comes_1 fun _ _ _ _ _ _ h hF => ⟨h.1, hF⟩
theorem main_1_2 : Claimed_1_2 := comes_1 fun _ _ _ _ _ _ h hF => ⟨h.2.1, hF⟩
end Jvm.Pilot.@@N@@
namespace Jvm.Pilot.@@N@@
open Jvm Jvm.ClassFile Sem Op Lib Jvm.Free Jvm.Stand Jvm.Pilot.@@N@@.Jvm.D
/-! MADE BY PROGRAM (witnessworld.py) out of the Statement's table words and the real class files: 9 classes; the members and pool entries that the words name. The judged class is class 1, her method 1. -/
namespace start1
open Jvm.ClassFile
def u (s : String) : CpInfo := .utf8 (stringToUtf16 s)
/-- a pool by its gaps: so many unusable entries, then the entry; so many at the end -/
def gap : Nat → List CpInfo → List CpInfo
  | 0, r => r
  | n + 1, r => .unusable :: gap n r
def poolList (es : List (Nat × CpInfo)) (last : Nat) : List CpInfo := es.foldr (fun e r => gap e.1 (e.2 :: r)) (gap last [])
def pool (es : List (Nat × CpInfo)) (last : Nat) : Array CpInfo := ⟨poolList es last⟩
def fileOf (pool : Array CpInfo) (this : Nat) (attrs : Array Attribute := #[]) (ms : Array MethodInfo := #[]) (fl : Nat := 33) (sup : Nat := 0) (ifs : Array Nat := #[]) (fds : Array FieldInfo := #[]) : ClassFile where
  minorVersion := 0
  majorVersion := 65
  constantPool := pool
  accessFlags := fl
  thisClass := this
  superClass := sup
  interfaces := ifs
  fields := fds
  methods := ms
  attributes := attrs
def plain (name : String) (sup : Option ClassId) : Class where
  name := name
  kind := .ordinary
  loader := none
  accessFlags := 33
  super := sup
  interfaces := #[]
  cf := none
  fields := #[]
  methods := #[]
  instanceTypes := #[]
  staticTypes := #[]
  resolved := #[]
  callSites := []
  init := .initialized
  statics := none
  mirror := none

def pool0 : Array CpInfo := pool [(5, u "<init>"), (0, u "()V"), (1, .class_ 10), (1, u "java/lang/Object")] 113

def k0m0 : Method := { name := "<init>", desc := "()V", sig := { parameters := [], returnType := none }, accessFlags := 1, code := none }
/-- java/lang/Object -/
def k0 : Class := { plain "java/lang/Object" none with
  accessFlags := 33
  interfaces := #[]
  cf := some (fileOf pool0 8 #[] #[{ accessFlags := 1, nameIndex := 5, descriptorIndex := 6, attributes := #[] }] 33 0 #[] #[])
  fields := #[]
  methods := #[k0m0]
  instanceTypes := #[]
  staticTypes := #[]
  resolved := Array.replicate 124 none
  statics := none }

def pool1 : Array CpInfo := pool [(2, .class_ 4), (1, u "java/lang/Object"), (0, u "<init>"), (0, u "()V"), (0, .methodref 8 9), (0, .class_ 10), (0, .nameAndType 11 12), (0, u "dexterous/io/BinaryXml"), (0, u "isCompiled"), (0, u "([B)Z"), (0, .integer 524291), (0, .class_ 15), (0, u "dexterous/io/BinaryXmlIsCompiledPinLaw"), (2, u "law"), (0, u "(IIIJ)Z")] 5

def k1m0 : Method := { name := "<init>", desc := "()V", sig := { parameters := [], returnType := none }, accessFlags := 2, code := none }
def k1c1 : Code := { maxStack := 5, maxLocals := 14, code := code, exceptionTable := #[], attributes := #[] }
def k1m1 : Method := { name := "law", desc := "(IIIJ)Z", sig := { parameters := [.int, .int, .int, .long], returnType := some .boolean }, accessFlags := 9, code := some k1c1 }
/-- dexterous/io/BinaryXmlIsCompiledPinLaw -/
def k1 : Class := { plain "dexterous/io/BinaryXmlIsCompiledPinLaw" (some 0) with
  accessFlags := 49
  interfaces := #[]
  cf := some (fileOf pool1 14 #[] #[{ accessFlags := 2, nameIndex := 5, descriptorIndex := 6, attributes := #[] }, { accessFlags := 9, nameIndex := 18, descriptorIndex := 19, attributes := #[] }] 49 2 #[] #[])
  fields := #[]
  methods := #[k1m0, k1m1]
  instanceTypes := #[]
  staticTypes := #[]
  resolved := Array.replicate 25 none
  statics := none }

def pool2 : Array CpInfo := pool [(2, .class_ 4), (1, u "java/lang/Object"), (0, u "<init>"), (0, u "()V"), (40, .class_ 49), (1, u "dexterous/io/BinaryXml"), (101, u "RESOURCE_MAP"), (0, u "I"), (2, u "START_ELEMENT"), (1, u "END_ELEMENT"), (1, u "TEXT"), (1, u "TEXT_VALUE"), (1, u "ELEMENT_NAMESPACE"), (1, u "ELEMENT_NAME"), (0, u "ATTRIBUTE_START"), (1, u "ATTRIBUTE_SIZE"), (1, u "ATTRIBUTE_COUNT"), (1, u "ATTRIBUTE_NAMESPACE"), (0, u "ATTRIBUTE_NAME"), (0, u "ATTRIBUTE_RAW"), (0, u "ATTRIBUTE_VALUE"), (0, u "ATTRIBUTE_MIN_SIZE"), (3, u "isCompiled"), (0, u "([B)Z")] 30

def k2m0 : Method := { name := "<init>", desc := "()V", sig := { parameters := [], returnType := none }, accessFlags := 2, code := none }
def k2c1 : Code := { maxStack := 2, maxLocals := 1, code := prog_5_method_2_code, exceptionTable := #[], attributes := #[] }
def k2m1 : Method := { name := "isCompiled", desc := "([B)Z", sig := { parameters := [(.array .byte)], returnType := some .boolean }, accessFlags := 9, code := some k2c1 }
/-- dexterous/io/BinaryXml -/
def k2 : Class := { plain "dexterous/io/BinaryXml" (some 0) with
  accessFlags := 49
  interfaces := #[]
  cf := some (fileOf pool2 47 #[] #[{ accessFlags := 2, nameIndex := 5, descriptorIndex := 6, attributes := #[] }, { accessFlags := 9, nameIndex := 180, descriptorIndex := 181, attributes := #[] }] 49 2 #[] #[{ accessFlags := 26, nameIndex := 151, descriptorIndex := 152, attributes := #[] }, { accessFlags := 26, nameIndex := 155, descriptorIndex := 152, attributes := #[] }, { accessFlags := 26, nameIndex := 157, descriptorIndex := 152, attributes := #[] }, { accessFlags := 26, nameIndex := 159, descriptorIndex := 152, attributes := #[] }, { accessFlags := 26, nameIndex := 161, descriptorIndex := 152, attributes := #[] }, { accessFlags := 26, nameIndex := 163, descriptorIndex := 152, attributes := #[] }, { accessFlags := 26, nameIndex := 165, descriptorIndex := 152, attributes := #[] }, { accessFlags := 26, nameIndex := 166, descriptorIndex := 152, attributes := #[] }, { accessFlags := 26, nameIndex := 168, descriptorIndex := 152, attributes := #[] }, { accessFlags := 26, nameIndex := 170, descriptorIndex := 152, attributes := #[] }, { accessFlags := 26, nameIndex := 172, descriptorIndex := 152, attributes := #[] }, { accessFlags := 26, nameIndex := 173, descriptorIndex := 152, attributes := #[] }, { accessFlags := 26, nameIndex := 174, descriptorIndex := 152, attributes := #[] }, { accessFlags := 26, nameIndex := 175, descriptorIndex := 152, attributes := #[] }, { accessFlags := 26, nameIndex := 176, descriptorIndex := 152, attributes := #[] }])
  fields := #[{ name := "RESOURCE_MAP", type := .int, accessFlags := 26, slot := 0, constantValue := 0 }, { name := "START_ELEMENT", type := .int, accessFlags := 26, slot := 1, constantValue := 0 }, { name := "END_ELEMENT", type := .int, accessFlags := 26, slot := 2, constantValue := 0 }, { name := "TEXT", type := .int, accessFlags := 26, slot := 3, constantValue := 0 }, { name := "TEXT_VALUE", type := .int, accessFlags := 26, slot := 4, constantValue := 0 }, { name := "ELEMENT_NAMESPACE", type := .int, accessFlags := 26, slot := 5, constantValue := 0 }, { name := "ELEMENT_NAME", type := .int, accessFlags := 26, slot := 6, constantValue := 0 }, { name := "ATTRIBUTE_START", type := .int, accessFlags := 26, slot := 7, constantValue := 0 }, { name := "ATTRIBUTE_SIZE", type := .int, accessFlags := 26, slot := 8, constantValue := 0 }, { name := "ATTRIBUTE_COUNT", type := .int, accessFlags := 26, slot := 9, constantValue := 0 }, { name := "ATTRIBUTE_NAMESPACE", type := .int, accessFlags := 26, slot := 10, constantValue := 0 }, { name := "ATTRIBUTE_NAME", type := .int, accessFlags := 26, slot := 11, constantValue := 0 }, { name := "ATTRIBUTE_RAW", type := .int, accessFlags := 26, slot := 12, constantValue := 0 }, { name := "ATTRIBUTE_VALUE", type := .int, accessFlags := 26, slot := 13, constantValue := 0 }, { name := "ATTRIBUTE_MIN_SIZE", type := .int, accessFlags := 26, slot := 14, constantValue := 0 }]
  methods := #[k2m0, k2m1]
  instanceTypes := #[]
  staticTypes := #[.int, .int, .int, .int, .int, .int, .int, .int, .int, .int, .int, .int, .int, .int, .int]
  resolved := Array.replicate 212 none
  statics := none }

def pool3 : Array CpInfo := pool [(1, u "java/lang/Cloneable"), (0, .class_ 1), (0, u "java/lang/Object"), (0, .class_ 3)] 3

/-- java/lang/Cloneable -/
def k3 : Class := { plain "java/lang/Cloneable" (some 0) with
  accessFlags := 1537
  interfaces := #[]
  cf := some (fileOf pool3 2 #[] #[] 1537 4 #[] #[])
  fields := #[]
  methods := #[]
  instanceTypes := #[]
  staticTypes := #[]
  resolved := Array.replicate 8 none
  statics := none }

def pool4 : Array CpInfo := pool [(1, u "java/io/Serializable"), (0, .class_ 1), (0, u "java/lang/Object"), (0, .class_ 3)] 3

/-- java/io/Serializable -/
def k4 : Class := { plain "java/io/Serializable" (some 0) with
  accessFlags := 1537
  interfaces := #[]
  cf := some (fileOf pool4 2 #[] #[] 1537 4 #[] #[])
  fields := #[]
  methods := #[]
  instanceTypes := #[]
  staticTypes := #[]
  resolved := Array.replicate 8 none
  statics := none }

/-- the primitive byte -/
def k5 : Class := { plain "byte" none with kind := .primitive 'B', accessFlags := 0x411 }
/-- [B -/
def k6 : Class := { plain "[B" (some 0) with kind := .array 5 .byte, interfaces := #[3, 4], accessFlags := 1041 }

/-- the primitive int -/
def k7 : Class := { plain "int" none with kind := .primitive 'I', accessFlags := 0x411 }
/-- [I -/
def k8 : Class := { plain "[I" (some 0) with kind := .array 7 .int, interfaces := #[3, 4], accessFlags := 1041 }

def heap : Heap := #[]
def classes : Array Class := #[k0, k1, k2, k3, k4, k5, k6, k7, k8]
def interned : List (Array UInt16 × Addr) := []
def slotsUsed : Nat := 0
def theMethod : MethodId := ⟨1, 1⟩
def args0 : Array Value := #[.int 5, .int 300, .int 7, .long 9]
def aboutOver (below : List Frame) : State where
  vm := { classes := classes, interned := interned.toArray }
  heap := heap
  slotsUsed := slotsUsed
  threads := #[{ frames := .invoking theMethod args0 :: below }]
def below0 : List Frame := [.native { method := ⟨0, 0⟩, args := #[] }]
def about1 : State := aboutOver below0
def p0 : Program := .bare "" "" ""
def e0 : Env := launch0.env 0 0 0
theorem w_frames : about1.frames = Frame.invoking theMethod args0 :: below0 := rfl
set_option maxRecDepth 65536 in
theorem w_args : argsFit about1.vm theMethod args0 = true := by decide +kernel
set_option maxRecDepth 65536 in
theorem w_heap : heapFits about1 = true := by decide +kernel
set_option maxRecDepth 65536 in
theorem w_runnable : about1.curStatus? = some .runnable := by decide +kernel
set_option maxRecDepth 65536 in
theorem w_alone : about1.alone = true := by decide +kernel
set_option maxRecDepth 65536 in
theorem w_named : about1.methodNamed? x = some theMethod := by decide +kernel
set_option maxRecDepth 65536 in
theorem w_hears : about1.hears theMethod below0 = true := by decide +kernel
set_option maxRecDepth 65536 in
theorem w_ripe : about1.ripe theMethod args0 below0 = true := by decide +kernel
theorem w_running : about1.status = .running := rfl
set_option maxRecDepth 65536 in
theorem w_room : about1.hasRoom e0.platform room_1 = true :=
  launch0.hasRoom_least _ room_1 (by decide +kernel) (by decide +kernel) (by decide +kernel) (by decide +kernel) (by decide +kernel) (by decide +kernel)
theorem allAtoms_all (ts : List Jvm.Cond) (a : Array Jvm.Value) (st : Jvm.State) : (allAtoms ts).before a st = ts.all (fun c => c.before a st) := by
  induction ts with
  | nil => rfl
  | cons c t ih =>
    show (Jvm.Cond.and c (allAtoms t)).before a st = _
    rw [Jvm.Cond.before_and, ih, List.all_cons]
def words1 : List Jvm.Cond := Jvm.Cond.code x code maxLocals ret :: tables_1
/-- a 'code' word, met by the world's own term for the bytes: nothing is compared byte by byte -/
theorem code_word {y : MethodName} {bytes : ByteArray} {mx : Nat} {rt : Option FieldType} {a : Array Value} {s : State} {m : MethodId} {meth : Method} {c : Code} (h1 : s.methodNamed? y = some m) (h2 : s.vm.method? m = some meth) (h3 : meth.code = some c) (h4 : c.code = bytes)
    (h5 : (c.maxLocals == mx && c.exceptionTable.isEmpty && decide (c.maxStack ≤ mostOperands) && decide (meth.sig.returnType = rt) && !meth.locks && decide (parseMethodDescriptor y.desc = some meth.sig)) = true) : (Jvm.Cond.code y bytes mx rt).before a s = true := by
  simp only [Bool.and_eq_true, beq_iff_eq, Bool.not_eq_true', decide_eq_true_eq] at h5
  obtain ⟨⟨⟨⟨⟨g1, g2⟩, g3⟩, g4⟩, g5⟩, g6⟩ := h5
  simp [Cond.before, Cond.holds, Cond.value, h1, h2, h3, h4, g1, g2, g3, g4, g5, g6]
def isCode : Jvm.Cond → Bool
  | .code _ _ _ _ => true
  | _ => false
theorem all_split {L : List Jvm.Cond} {P : Jvm.Cond → Bool} (h1 : L.all (fun c => isCode c || P c) = true) (h2 : ∀ c ∈ L.filter isCode, P c = true) : L.all P = true := by
  refine List.all_eq_true.mpr fun c hc => ?_
  have h := List.all_eq_true.mp h1 c hc
  rcases Bool.eq_false_or_eq_true (isCode c) with hi | hi
  · exact h2 c (List.mem_filter.mpr ⟨hc, hi⟩)
  · simpa [hi] using h
set_option maxRecDepth 65536 in
theorem w_c0 : (Jvm.Cond.code x code maxLocals ret).before args0 about1 = true := code_word (m := ⟨1, 1⟩) (meth := k1m1) (c := k1c1) (by decide +kernel) rfl rfl rfl (by decide +kernel)
set_option maxRecDepth 65536 in
theorem w_c1 : (Jvm.Cond.code ({ cls := "dexterous/io/BinaryXml", name := "isCompiled", desc := "([B)Z" } : Jvm.MethodName) prog_5_method_2_code (1 : Nat) (Option.some Jvm.ClassFile.FieldType.boolean)).before args0 about1 = true := code_word (m := ⟨2, 1⟩) (meth := k2m1) (c := k2c1) (by decide +kernel) rfl rfl rfl (by decide +kernel)
def codes1 : List Jvm.Cond := [Jvm.Cond.code x code maxLocals ret, Jvm.Cond.code ({ cls := "dexterous/io/BinaryXml", name := "isCompiled", desc := "([B)Z" } : Jvm.MethodName) prog_5_method_2_code (1 : Nat) (Option.some Jvm.ClassFile.FieldType.boolean)]
set_option maxRecDepth 65536 in
theorem codes_eq : words1.filter isCode = codes1 := rfl
theorem w_codes : ∀ c ∈ words1.filter isCode, c.before args0 about1 = true := by
  rw [codes_eq]
  intro c hc
  simp only [codes1, List.mem_cons, List.not_mem_nil, or_false] at hc
  rcases hc with rfl | rfl
  · exact w_c0
  · exact w_c1
set_option maxRecDepth 65536 in
theorem w_t1 : words1.all (fun c => isCode c || c.before args0 about1) = true := by decide +kernel
theorem w_tables : (allAtoms (Jvm.Cond.code x code maxLocals ret :: tables_1)).before args0 about1 = true := by
  rw [allAtoms_all]
  show words1.all (fun c => c.before args0 about1) = true
  refine all_split ?_ w_codes
  rw [w_t1]
set_option maxRecDepth 65536 in
theorem w_case : (Jvm.Cond.and given_1 narrow_1).before args0 about1 = true := by decide +kernel
theorem w_applies : (headSpec (Jvm.Cond.code x code maxLocals ret :: tables_1) room_1).applies x e0.platform about1 = true :=
  (Spec.applies_iff w_frames).mpr ⟨w_running, w_runnable, w_alone, w_named, w_hears, w_ripe, w_room, w_tables⟩
theorem atStart : AtStart classFile x code maxLocals ret World_1 tables_1 room_1 Calls_1 rest_1 Pre_1 launch0 p0 e0 about1 theMethod args0 below0 :=
  ⟨lists_1, trivial, launch0.admits_env _ _ _, launch0.least_env, fairChoices_fair.cas, fairChoices_fair.clock, w_frames, w_args, w_heap, w_applies, trivial, trivial, w_case⟩
end start1
theorem witness_1 : WitnessClaimed_1 := ⟨start1.p0, start1.e0, start1.about1, start1.theMethod, start1.args0, start1.below0, start1.atStart⟩
end Jvm.Pilot.@@N@@
