import JvmDerived
import JvmDerived.Pilot.@@N@@Statement
import JvmDerived.Pilot.@@N@@Code
set_option linter.unusedVariables false
set_option linter.unusedSimpArgs false
namespace Jvm.RoadKit
open Sem ClassFile Op Lib Jvm.Stand Jvm.Free Jvm.LawKit
section New
variable {p : Program} {l : Launch} {e : Env} {R : Room} {s : State} {m : MethodId} {args : Array Value} {below : List Frame} {meth : Method} {c : Code} {T : State} {locs : List Loc} {cells slots : Nat}
theorem retI (X : Stand p l e R s m args below meth c T locs cells slots) (hx : p.tables.exec = Jvm.exec) {pc : Nat} {Ls : Array Slot} {z : Int32} {rest : List Value} (hret : meth.sig.returnType = some .int) (hd : decode c.code pc = .ok (.ireturn, 1)) {fs : List Frame}
    (hl : ∀ (f : JFrame) (acts : List Action), f.method = m → f.locked = none → f.entered = [] → (doReturn e (T.setTop f) acts (some (.int z))).1 = T.setFrames fs) : Steps p.tables e below (T.setTop (mkF m pc Ls (.int z :: rest))) (T.setFrames fs) := by
  have hm' : T.vm.method? m = some meth := X.method'
  have hn : narrow .int (.int z) = .int z := rfl
  show Steps p.tables e below (T.setTop { method := m, pc := pc, locals := Ls, stack := _ :: rest, locked := none }) _
  jvm_step X.here [X.here.top, hx, hd, hm', hret, hn]
  first | (intro acts; rw [hl _ acts rfl rfl rfl]) | rw [hl _ _ rfl rfl rfl]
  exact Steps.refl _
end New
end Jvm.RoadKit
namespace Jvm.Pilot.@@N@@
open Jvm Jvm.ClassFile Sem Op Lib Jvm.Free Jvm.Stand Jvm.LawKit Jvm.RoadKit Bundle Jvm.Pilot.@@N@@.Jvm.D
/-- the run from here ends well -/
def own_Go (tb : Tables) (e : Env) (below : List Frame) (P : Outcome → State → Prop) (T : State) (f : JFrame) : Prop := ∃ s₂ o, Steps tb e below (T.setTop f) s₂ ∧ s₂.status = .running ∧ Ended s₂ below o ∧ P o s₂
theorem own_go {tb : Tables} {e : Env} {below : List Frame} {P : Outcome → State → Prop} {T T' : State} {f f' : JFrame} (k : ∀ t, Steps tb e below (T'.setTop f') t → Steps tb e below (T.setTop f) t) (h : own_Go tb e below P T' f') : own_Go tb e below P T f := by
  obtain ⟨s₂, o, h1, h2⟩ := h
  exact ⟨s₂, o, k _ h1, h2⟩
theorem own_keep1 {h0 h h' : Heap} {ws : List Addr} {b : Addr} (K : Keep h0 h ws) (K' : Keep h h' [b]) (q : h0.size ≤ b) : Keep h0 h' ws := K.trans K' fun x hx => Or.inr (by cases List.mem_singleton.mp hx; exact q)
theorem own_eqi {a b : Term} {args : Array Value} {first s : State} {o : Option Outcome} {idx : List Nat} {y : Int32} (h : (Jvm.Cond.eq a b).value args first o s idx = some true) (hb : b.eval args first o idx s = some (.int y)) : a.eval args first o idx s = some (.int y) := by
  cases ha : a.eval args first o idx s with
  | none => simp [Cond.value, ha] at h
  | some x => cases x <;> simp [Cond.value, ha, hb] at h; subst h; rfl
theorem own_not1 {a b : Addr} (q : a ≠ b) : a ∉ [b] := fun h => q (List.mem_singleton.mp h)
def own_PW (s : State) (Q : Option Value → Heap → List Loc → Prop) (k n : Nat) (o : Outcome) (U : State) : Prop := ∃ v L, o = .returned v ∧ Q v U.heap L ∧ ReturnedEndW s o U L k n
def own_P (s : State) (Q : Option Value → Heap → List Loc → Prop) (k n : Nat) (o : Outcome) (U : State) : Prop := ∃ v L, o = .returned v ∧ Q v U.heap L ∧ FrameEnd s o U L k n
/-- the array at a has n places; place k holds f k -/
def own_Av (Z : State) (h : Heap) (a : Addr) (ty : FieldType) (n : Nat) (f : Nat → Value) : Prop := ∃ c : Cell, Arr Z h a c ty ∧ c.slots.size = n ∧ ∀ k, k < n → c.slots[k]? = some (f k)
theorem own_Av.lt {Z : State} {h : Heap} {a : Addr} {ty : FieldType} {n : Nat} {f : Nat → Value} (F : own_Av Z h a ty n f) : a < h.size := by obtain ⟨c, A, -⟩ := F; exact A.lt
theorem own_Av.ext {Z : State} {h h' : Heap} {a : Addr} {ty : FieldType} {n : Nat} {f : Nat → Value} (F : own_Av Z h a ty n f) (E : Ext h h') : own_Av Z h' a ty n f := by obtain ⟨c, A, r⟩ := F; exact ⟨c, A.ext E, r⟩
theorem own_Av.other {Z : State} {h h' : Heap} {a b : Addr} {ty : FieldType} {n sl : Nat} {v : Value} {f : Nat → Value} (F : own_Av Z h b ty n f) (W : Wr h h' a sl v) (q : b ≠ a) : own_Av Z h' b ty n f := by obtain ⟨c, A, r⟩ := F; exact ⟨c, A.other W q, r⟩
theorem own_Av.keep {Z : State} {h h' : Heap} {a : Addr} {ty : FieldType} {n : Nat} {ws : List Addr} {f : Nat → Value} (F : own_Av Z h a ty n f) (K : Keep h h' ws) (q : a ∉ ws) : own_Av Z h' a ty n f := by obtain ⟨c, A, r⟩ := F; exact ⟨c, ⟨K.2.1 a c A.1 q, A.2⟩, r⟩
theorem own_Av.new {Z : State} {h : Heap} {a : Addr} {ty : FieldType} {k : ClassId} {z : Int32} {n : Nat} (A : Arr Z h a (newA k ty z) ty) (hz : z.toNatClampNeg = n) : own_Av Z h a ty n (fun _ => defaultValue ty) := by
  refine ⟨_, A, (sz_new _ _ _).trans hz, fun i hi => ?_⟩
  subst hz
  simp [newA, hi]
theorem own_Av.set {Z : State} {h h' : Heap} {a : Addr} {ty : FieldType} {n i j : Nat} {v : Value} {f : Nat → Value} (F : own_Av Z h a ty n f) (W : Wr h h' a j v) (hj : j = i) : own_Av Z h' a ty n (fun k => if k = i then v else f k) := by
  subst hj
  obtain ⟨c, A, S, G⟩ := F
  have hlt : j < c.slots.size := by
    obtain ⟨cell, h1, h2, h3, -⟩ := W
    cases A.1.symm.trans h1; exact h3
  refine ⟨_, A.same W, (sz_set _ _ _).trans S, fun k hk => ?_⟩
  by_cases q : k = j
  · subst q; simp [Cell.setSlot, hlt]
  · show (c.setSlot j v).slots[k]? = some (if k = j then v else f k)
    rw [if_neg q, ← G k hk]; simp [Cell.setSlot, Array.getElem?_setIfInBounds, Ne.symm q]
theorem own_Av.eq {Z : State} {h : Heap} {a : Addr} {ty : FieldType} {n : Nat} {f g : Nat → Value} (F : own_Av Z h a ty n f) (q : ∀ k, k < n → f k = g k) : own_Av Z h a ty n g := by
  obtain ⟨c, A, S, G⟩ := F
  exact ⟨c, A, S, fun k hk => by rw [G k hk, q k hk]⟩
theorem own_inb {c : Cell} {n i : Nat} {j : Int32} (S : c.slots.size = n) (hj : ¬ j < 0 ∧ j.toNatClampNeg = i) (hi : i < n) : ¬ (j < 0 ∨ c.slots.size ≤ j.toNatClampNeg) := by
  rw [S, hj.2]
  exact fun q => q.elim hj.1 (Nat.not_le.mpr hi)
theorem own_at {c : Cell} {n i : Nat} {j : Int32} {f : Nat → Value} {v : Value} (G : ∀ k, k < n → c.slots[k]? = some (f k)) (hj : ¬ j < 0 ∧ j.toNatClampNeg = i) (hi : i < n) (hv : f i = v) : c.slots[j.toNatClampNeg]? = some v := by
  rw [hj.2, G i hi, hv]
theorem own_nat {i : Nat} (h : i < 2 ^ 31) : ¬ Int32.ofNat i < 0 ∧ (Int32.ofNat i).toNatClampNeg = i := by
  have e : (Int32.ofNat i).toInt = i := Int32.toInt_ofNat_of_lt h
  refine ⟨?_, ?_⟩
  · rw [Int32.lt_iff_toInt_lt, e, Int32.toInt_zero]; omega
  · show (Int32.ofNat i).toInt.toNat = i
    rw [e]; rfl
theorem own_low (x : Int32) : ∃ j, j < 16 ∧ x &&& 15 = Int32.ofNat j := by
  refine ⟨(x &&& 15).toBitVec.toNat, ?_, ?_⟩
  · rw [Int32.toBitVec_and, BitVec.toNat_and]
    exact Nat.lt_of_le_of_lt Nat.and_le_right (by decide)
  · apply Int32.toBitVec_inj.mp
    show _ = BitVec.ofNat 32 _
    rw [BitVec.ofNat_toNat, BitVec.setWidth_eq]
theorem own_ltn {i j : Nat} (hi : i < 2 ^ 31) (hj : j < 2 ^ 31) : Int32.ofNat i < Int32.ofNat j ↔ i < j := by
  rw [Int32.lt_iff_toInt_lt, Int32.toInt_ofNat_of_lt hi, Int32.toInt_ofNat_of_lt hj]; omega
theorem own_pred {j : Nat} (h : 0 < j) (hj : j < 2 ^ 31) : Int32.ofNat j - 1 = Int32.ofNat (j - 1) := by
  apply Int32.toInt_inj.mp
  rw [Int32.toInt_sub, Int32.toInt_ofNat_of_lt hj, Int32.toInt_ofNat_of_lt (by omega), show (1 : Int32).toInt = 1 from by decide, Int.bmod_eq_of_le] <;> omega
theorem own_succ (i : Nat) : Int32.ofNat i + 1 = Int32.ofNat (i + 1) := by
  apply Int32.toBitVec_inj.mp
  show BitVec.ofNat 32 i + BitVec.ofNat 32 1 = BitVec.ofNat 32 (i + 1)
  rw [BitVec.ofNat_add_ofNat]
theorem own_ofNat_inj {i j : Nat} (hi : i < 2 ^ 31) (hj : j < 2 ^ 31) : Int32.ofNat i = Int32.ofNat j ↔ i = j := by
  rw [← Int32.toInt_inj, Int32.toInt_ofNat_of_lt hi, Int32.toInt_ofNat_of_lt hj]; omega
theorem own_b8 (x : Int32) : x.toInt8.toInt32.toInt8.toInt32 = x.toInt8.toInt32 := by simp
theorem own_i32 {a b : Int32} (h : a.toBitVec.toNat = b.toBitVec.toNat) : a = b := Int32.toBitVec_inj.mp (BitVec.eq_of_toNat_eq h)
def own_ch (x : Int32) : Int32 := x.toUInt32.toUInt16.toUInt32.toInt32
def own_by (x : Int32) : Int32 := x.toInt8.toInt32
theorem own_ch_n (x : Int32) : (own_ch x).toBitVec.toNat = x.toBitVec.toNat % 65536 := by
  have e : (own_ch x).toBitVec = (x.toBitVec.setWidth 16).setWidth 32 := rfl
  rw [e, BitVec.toNat_setWidth, BitVec.toNat_setWidth]; omega
theorem own_ch_ch (x : Int32) : own_ch (own_ch x) = own_ch x := own_i32 (by rw [own_ch_n, own_ch_n]; omega)
theorem own_by_by (x : Int32) : own_by (own_by x) = own_by x := by unfold own_by; rw [Int8.toInt8_toInt32]
theorem own_lo_n (x : Int32) : (own_by x &&& 255).toBitVec.toNat = x.toBitVec.toNat % 256 := by
  have e : (own_by x &&& 255).toBitVec = (x.toBitVec.setWidth 8).signExtend 32 &&& 255#32 := by
    unfold own_by; rw [Int32.toBitVec_and, Int8.toBitVec_toInt32, Int32.toBitVec_toInt8, BitVec.signExtend_eq_setWidth_of_le x.toBitVec (by decide : 8 ≤ 32)]; rfl
  have e2 : (x.toBitVec.setWidth 8).signExtend 32 &&& 255#32 = (x.toBitVec.setWidth 8).setWidth 32 := by
    apply BitVec.eq_of_getLsbD_eq
    intro i hi
    rw [BitVec.getLsbD_and, BitVec.getLsbD_signExtend, BitVec.getLsbD_setWidth, show (255#32 : BitVec 32) = (BitVec.allOnes 8).setWidth 32 from by decide, BitVec.getLsbD_setWidth, BitVec.getLsbD_allOnes]
    by_cases q : i < 8
    · simp [q, hi]
    · simp [q, hi]
  rw [e, e2, BitVec.toNat_setWidth, BitVec.toNat_setWidth]; omega
theorem own_nn {x : Int32} (h : x.toBitVec.toNat < 2147483648) : x.toInt = x.toBitVec.toNat := BitVec.toInt_eq_toNat_of_lt (by omega)
theorem own_lat {x : Int32} (h : ¬ 255 < own_ch x) : own_ch (own_by (own_by (own_ch x)) &&& 255) = own_ch x := by
  have n := own_ch_n x
  have e := own_nn (x := own_ch x) (by omega)
  rw [Int32.lt_iff_toInt_lt, e, show (255 : Int32).toInt = 255 from by decide] at h
  apply own_i32
  rw [own_by_by, own_ch_n, own_lo_n]
  omega
theorem own_shr (x : Int32) : (own_ch x >>> ((8 : Int32) &&& 31)).toBitVec.toNat = (own_ch x).toBitVec.toNat / 256 := by
  have n := own_ch_n x
  have e : (own_ch x >>> ((8 : Int32) &&& 31)).toBitVec = (own_ch x).toBitVec.sshiftRight 8 := rfl
  have m : (own_ch x).toBitVec.msb = false := by rw [BitVec.msb_eq_false_iff_two_mul_lt]; omega
  rw [e, BitVec.sshiftRight_eq_of_msb_false m, BitVec.toNat_ushiftRight, Nat.shiftRight_eq_div_pow]
theorem own_shr0 (x : Int32) : own_ch x >>> ((0 : Int32) &&& 31) = own_ch x := by
  apply own_i32
  have n := own_ch_n x
  have e : (own_ch x >>> ((0 : Int32) &&& 31)).toBitVec = (own_ch x).toBitVec.sshiftRight 0 := rfl
  rw [e, BitVec.sshiftRight_zero]
def own_gc (b0 b1 : Int32) : Int32 := own_ch (((b0 &&& 255) <<< ((0 : Int32) &&& 31)) ||| ((b1 &&& 255) <<< ((8 : Int32) &&& 31)))
theorem own_utf (x : Int32) : own_gc (own_by (own_by (own_ch x >>> ((0 : Int32) &&& 31)))) (own_by (own_by (own_ch x >>> ((8 : Int32) &&& 31)))) = own_ch x := by
  have n := own_ch_n x
  rw [own_by_by, own_by_by, own_shr0]
  have l0 := own_lo_n (own_ch x)
  have l1 := own_lo_n (own_ch x >>> ((8 : Int32) &&& 31))
  rw [own_shr] at l1
  unfold own_gc
  generalize own_by (own_ch x) &&& 255 = p at *
  generalize own_by (own_ch x >>> ((8 : Int32) &&& 31)) &&& 255 = q at *
  apply own_i32
  rw [own_ch_n]
  have e : (p <<< ((0 : Int32) &&& 31) ||| q <<< ((8 : Int32) &&& 31)).toBitVec = p.toBitVec <<< 0 ||| q.toBitVec <<< 8 := rfl
  rw [e, BitVec.toNat_or, BitVec.toNat_shiftLeft, BitVec.toNat_shiftLeft, Nat.shiftLeft_eq, Nat.shiftLeft_eq, Nat.or_comm]
  have k := Nat.two_pow_add_eq_or_of_lt (b := p.toBitVec.toNat) (i := 8) (by omega) q.toBitVec.toNat
  rw [show q.toBitVec.toNat * 2 ^ 8 % 2 ^ 32 = 2 ^ 8 * q.toBitVec.toNat by omega, show p.toBitVec.toNat * 2 ^ 0 % 2 ^ 32 = p.toBitVec.toNat by omega, ← k]
  omega
def own_up1 (x : Int32) : Int32 := if x < 65 then 0 else if 90 < x then 0 else 1
def own_ic (n : Nat) (c : Nat → Int32) : Int32 := if Int32.ofNat n = 2 then (if own_up1 (c 0) = 0 then 0 else if own_up1 (c 1) = 0 then 0 else 1) else 0
def own_Bs (Z : State) (h : Heap) (va : Addr) (n : Nat) (c : Nat → Int32) (m : Nat) (cd : Int32) : Prop := ∃ f : Nat → Int32, own_Av Z h va .byte m (fun k => .int (f k)) ∧ ((cd = 0 ∧ m = n ∧ ∀ k, k < n → own_ch (f k &&& 255) = own_ch (c k)) ∨ (cd = 1 ∧ m = 2 * n ∧ ∀ k, k < n → own_gc (f (2 * k)) (f (2 * k + 1)) = own_ch (c k)))
theorem own_Bs.cd {Z : State} {h : Heap} {va : Addr} {n m : Nat} {c : Nat → Int32} {cd : Int32} (B : own_Bs Z h va n c m cd) : (cd = 0 ∧ m = n) ∨ (cd = 1 ∧ m = 2 * n) := by
  obtain ⟨f, V, ⟨a, b, -⟩ | ⟨a, b, -⟩⟩ := B
  · exact Or.inl ⟨a, b⟩
  · exact Or.inr ⟨a, b⟩
theorem own_Bs.keep {Z : State} {h h' : Heap} {va : Addr} {n m : Nat} {c : Nat → Int32} {cd : Int32} {ws : List Addr} (B : own_Bs Z h va n c m cd) (K : Keep h h' ws) (q : va ∉ ws) : own_Bs Z h' va n c m cd := by
  obtain ⟨f, V, r⟩ := B
  exact ⟨f, V.keep K q, r⟩
theorem own_Bs.other {Z : State} {h h' : Heap} {va a : Addr} {n m sl : Nat} {v : Value} {c : Nat → Int32} {cd : Int32} (B : own_Bs Z h va n c m cd) (W : Wr h h' a sl v) (q : va ≠ a) : own_Bs Z h' va n c m cd := by
  obtain ⟨f, V, r⟩ := B
  exact ⟨f, V.other W q, r⟩
theorem own_cd_by {cd : Int32} {P Q : Prop} (h : (cd = 0 ∧ P) ∨ (cd = 1 ∧ Q)) : own_by cd = cd := by
  rcases h with ⟨rfl, -⟩ | ⟨rfl, -⟩ <;> decide
theorem own_coder {n m : Nat} {cd : Int32} (h0 : 0 < n) (hn : n < 4) (h : (cd = 0 ∧ m = n) ∨ (cd = 1 ∧ m = 2 * n)) : own_by (own_by (XT.ushr (Int32.ofNat n - Int32.ofNat m) 31)) = cd := by
  rcases (by omega : n = 1 ∨ n = 2 ∨ n = 3) with rfl | rfl | rfl <;> rcases h with ⟨rfl, rfl⟩ | ⟨rfl, rfl⟩ <;> decide
theorem own_len2 {n m : Nat} {cd : Int32} (hn : n < 4) (h : (cd = 0 ∧ m = n) ∨ (cd = 1 ∧ m = 2 * n)) : Int32.ofNat m >>> (cd &&& 31) = Int32.ofNat n := by
  rcases (by omega : n = 0 ∨ n = 1 ∨ n = 2 ∨ n = 3) with rfl | rfl | rfl | rfl <;> rcases h with ⟨rfl, rfl⟩ | ⟨rfl, rfl⟩ <;> decide
theorem own_shl {i : Nat} (hi : i < 4) : Int32.ofNat i <<< ((1 : Int32) &&& 31) = Int32.ofNat (2 * i) := by
  rcases (by omega : i = 0 ∨ i = 1 ∨ i = 2 ∨ i = 3) with rfl | rfl | rfl | rfl <;> decide
theorem own_half {n : Nat} (hn : n < 4) : Int32.ofNat (2 * n) >>> ((1 : Int32) &&& 31) = Int32.ofNat n := by
  rcases (by omega : n = 0 ∨ n = 1 ∨ n = 2 ∨ n = 3) with rfl | rfl | rfl | rfl <;> decide
theorem own_low3 (x : Int32) : ∃ j, j < 4 ∧ x &&& 3 = Int32.ofNat j := by
  refine ⟨(x &&& 3).toBitVec.toNat, ?_, ?_⟩
  · rw [Int32.toBitVec_and, BitVec.toNat_and]
    exact Nat.lt_of_le_of_lt Nat.and_le_right (by decide)
  · apply Int32.toBitVec_inj.mp
    show _ = BitVec.ofNat 32 _
    rw [BitVec.ofNat_toNat, BitVec.setWidth_eq]
theorem d15_0 : decode method_2_code 0 = .ok (.iload_n 0, 1) := by decide +kernel
theorem d15_1 : decode method_2_code 1 = .ok (.bipush 65, 2) := by decide +kernel
theorem d15_3 : decode method_2_code 3 = .ok (.if_icmp .lt 13, 3) := by decide +kernel
theorem d15_6 : decode method_2_code 6 = .ok (.iload_n 0, 1) := by decide +kernel
theorem d15_7 : decode method_2_code 7 = .ok (.bipush 90, 2) := by decide +kernel
theorem d15_9 : decode method_2_code 9 = .ok (.if_icmp .gt 7, 3) := by decide +kernel
theorem d15_12 : decode method_2_code 12 = .ok (.iconst 1, 1) := by decide +kernel
theorem d15_13 : decode method_2_code 13 = .ok (.goto 4, 3) := by decide +kernel
theorem d15_16 : decode method_2_code 16 = .ok (.iconst 0, 1) := by decide +kernel
theorem d15_17 : decode method_2_code 17 = .ok (.ireturn, 1) := by decide +kernel
theorem pn_0 : plainName "com/example/scriptwire/scriptwire/script/PdmpStateIsCodePinLaw" = true := by first | (simp [plainName, overriddenIn]; done) | decide +kernel
theorem ef_15 (m : MethodId) {p1 : Int32} : entryFrame m #[(.int p1)] 1 = mkF m 0 #[.val (.int p1)] [] := by first | (simp [entryFrame, mkF, argsToLocals, Value.category]; done) | rfl
def Q15 (Z : State) (p1 : Int32) (h0 : Heap) (n0 : Nat) (v : Option Value) (h : Heap) (L : List Loc) : Prop := v = some (.int (own_up1 p1)) ∧ Fr n0 L ∧ h = h0
set_option maxRecDepth 65536 in
set_option maxHeartbeats 40000000 in
theorem rm15 (l : Launch) (Z : State) (a0 : Array Value) (hw : ∀ d ∈ tables_1, d.before a0 Z = true) (ws : List Jvm.Cond) (p1 : Int32) (h0 : Heap) (n0 : Nat) (Z0 : n0 ≤ h0.size) :
    MetFree l (⟨"com/example/scriptwire/scriptwire/script/PdmpStateIsCodePinLaw", "upper", "(C)Z"⟩ : MethodName) (head1 (Jvm.Cond.code (⟨"com/example/scriptwire/scriptwire/script/PdmpStateIsCodePinLaw", "upper", "(C)Z"⟩ : MethodName) method_2_code 1 (some .boolean) :: ws) ({ frames := 0, cells := 0, slots := 0, locals := 0 } : Room)) (fun a U => a = #[(.int p1)] ∧ Z.Warmed39 U.vm ∧ U.heap = h0) (fun _ _ _ _ _ => True) (fun _ U oz U' => ∃ v L, oz = .returned v ∧ Q15 Z p1 h0 n0 v U'.heap L ∧ FrameEnd U oz U' L (({ frames := 0, cells := 0, slots := 0, locals := 0 } : Room)).cells (({ frames := 0, cells := 0, slots := 0, locals := 0 } : Room)).slots) := by
  refine MetFree.of_bodySF (plainFor_of_name pn_0) hisR ?_
  intro p e s m args below meth c s₁ Bd hml0 hP hK
  obtain ⟨rfl, hZ, hh⟩ := hP
  have hx := Bd.exec
  have hby := Bd.bytes
  have hml : c.maxLocals = 1 := hml0
  have hown : s.vm.findClass "com/example/scriptwire/scriptwire/script/PdmpStateIsCodePinLaw" = some m.cls := findClass_of_methodNamed Bd.named
  have hnm := (name_of_methodNamed Bd.named Bd.method).1
  have X0 : Stand p l e ({ frames := 0, cells := 0, slots := 0, locals := 0 } : Room) s m #[(.int p1)] below meth c s₁ [] 0 0 := Stand.of_body Bd
  have e0 : s₁.heap = h0 := by rw [← hh, Bd.state]; rfl
  have N0 := Fr.nil n0
  show own_Go p.tables e below (own_P s (Q15 Z p1 h0 n0) ({ frames := 0, cells := 0, slots := 0, locals := 0 } : Room).cells ({ frames := 0, cells := 0, slots := 0, locals := 0 } : Room).slots) s₁ _
  rw [ef_15]
  show own_Go p.tables e below _ s₁ (mkF m 0 #[.val (.int p1)] [])
  refine own_go (fun tz kz => XS.iloadN X0.here hx rfl (hb hby d15_0) rfl kz) ?_
  show own_Go p.tables e below _ s₁ (mkF m 1 #[.val (.int p1)] [(.int p1)])
  refine own_go (fun tz kz => XS.bipush X0.here hx rfl (hb hby d15_1) kz) ?_
  show own_Go p.tables e below _ s₁ (mkF m 3 #[.val (.int p1)] [(.int (65 : Int32)), (.int p1)])
  by_cases h1 : p1 < (65 : Int32)
  ·
    refine own_go (fun tz kz => XS.icmpYes X0.here hx rfl (pc0 := 3) (pc' := 16) rfl (hb hby d15_3) rfl (XT.ii_lt_t h1) (by decide) (by decide) kz) ?_
    show own_Go p.tables e below _ s₁ (mkF m 16 #[.val (.int p1)] [])
    refine own_go (fun tz kz => XS.iconst X0.here hx rfl (hb hby d15_16) kz) ?_
    show own_Go p.tables e below _ s₁ (mkF m 17 #[.val (.int p1)] [(.int (0 : Int32))])
    obtain ⟨fs, hr, hrun, hended, hW, hsame⟩ := X0.leave (v := some (.int (0 : Int32))) (fun h => by rw [Bd.returns] at h; cases h) (BodyLoose.notSynchronized Bd)
    refine ⟨_, _, ?_, hrun, hended, _, _, rfl, ?_, ⟨_, rfl⟩, hW, hsame.mono (by decide) (by decide)⟩
    · exact retN X0 hx (t := .boolean) Bd.returns (by simp) (hb hby d15_17) hr
    · show Q15 Z p1 h0 n0 _ s₁.heap _
      rw [e0]
      exact ⟨congrArg (fun z => some (Value.int z)) ((if_pos h1).symm), N0, rfl⟩
  ·
    refine own_go (fun tz kz => XS.icmpNo X0.here hx rfl (hb hby d15_3) rfl (XT.ii_lt_f h1) kz) ?_
    show own_Go p.tables e below _ s₁ (mkF m 6 #[.val (.int p1)] [])
    refine own_go (fun tz kz => XS.iloadN X0.here hx rfl (hb hby d15_6) rfl kz) ?_
    show own_Go p.tables e below _ s₁ (mkF m 7 #[.val (.int p1)] [(.int p1)])
    refine own_go (fun tz kz => XS.bipush X0.here hx rfl (hb hby d15_7) kz) ?_
    show own_Go p.tables e below _ s₁ (mkF m 9 #[.val (.int p1)] [(.int (90 : Int32)), (.int p1)])
    by_cases h2 : (90 : Int32) < p1
    ·
      refine own_go (fun tz kz => XS.icmpYes X0.here hx rfl (pc0 := 9) (pc' := 16) rfl (hb hby d15_9) rfl (XT.ii_gt_t h2) (by decide) (by decide) kz) ?_
      show own_Go p.tables e below _ s₁ (mkF m 16 #[.val (.int p1)] [])
      refine own_go (fun tz kz => XS.iconst X0.here hx rfl (hb hby d15_16) kz) ?_
      show own_Go p.tables e below _ s₁ (mkF m 17 #[.val (.int p1)] [(.int (0 : Int32))])
      obtain ⟨fs, hr, hrun, hended, hW, hsame⟩ := X0.leave (v := some (.int (0 : Int32))) (fun h => by rw [Bd.returns] at h; cases h) (BodyLoose.notSynchronized Bd)
      refine ⟨_, _, ?_, hrun, hended, _, _, rfl, ?_, ⟨_, rfl⟩, hW, hsame.mono (by decide) (by decide)⟩
      · exact retN X0 hx (t := .boolean) Bd.returns (by simp) (hb hby d15_17) hr
      · show Q15 Z p1 h0 n0 _ s₁.heap _
        rw [e0]
        exact ⟨congrArg (fun z => some (Value.int z)) (((if_neg h1).trans (if_pos h2)).symm), N0, rfl⟩
    ·
      refine own_go (fun tz kz => XS.icmpNo X0.here hx rfl (hb hby d15_9) rfl (XT.ii_gt_f h2) kz) ?_
      show own_Go p.tables e below _ s₁ (mkF m 12 #[.val (.int p1)] [])
      refine own_go (fun tz kz => XS.iconst X0.here hx rfl (hb hby d15_12) kz) ?_
      show own_Go p.tables e below _ s₁ (mkF m 13 #[.val (.int p1)] [(.int (1 : Int32))])
      refine own_go (fun tz kz => XS.goto X0.here hx rfl (pc0 := 13) (pc' := 17) rfl (hb hby d15_13) (by decide) (by decide) kz) ?_
      show own_Go p.tables e below _ s₁ (mkF m 17 #[.val (.int p1)] [(.int (1 : Int32))])
      obtain ⟨fs, hr, hrun, hended, hW, hsame⟩ := X0.leave (v := some (.int (1 : Int32))) (fun h => by rw [Bd.returns] at h; cases h) (BodyLoose.notSynchronized Bd)
      refine ⟨_, _, ?_, hrun, hended, _, _, rfl, ?_, ⟨_, rfl⟩, hW, hsame.mono (by decide) (by decide)⟩
      · exact retN X0 hx (t := .boolean) Bd.returns (by simp) (hb hby d15_17) hr
      · show Q15 Z p1 h0 n0 _ s₁.heap _
        rw [e0]
        exact ⟨congrArg (fun z => some (Value.int z)) (((if_neg h1).trans (if_neg h2)).symm), N0, rfl⟩
theorem d11_0 : decode jdk_52_method_3_code 0 = .ok (.iload_n 0, 1) := by decide +kernel
theorem d11_1 : decode jdk_52_method_3_code 1 = .ok (.ifCond .ge 11, 3) := by decide +kernel
theorem d11_4 : decode jdk_52_method_3_code 4 = .ok (.new 17, 3) := by decide +kernel
theorem d11_7 : decode jdk_52_method_3_code 7 = .ok (.dup, 1) := by decide +kernel
theorem d11_8 : decode jdk_52_method_3_code 8 = .ok (.invokespecial 19, 3) := by decide +kernel
theorem d11_11 : decode jdk_52_method_3_code 11 = .ok (.athrow, 1) := by decide +kernel
theorem d11_12 : decode jdk_52_method_3_code 12 = .ok (.iload_n 0, 1) := by decide +kernel
theorem d11_13 : decode jdk_52_method_3_code 13 = .ok (.ldc 20, 2) := by decide +kernel
theorem d11_15 : decode jdk_52_method_3_code 15 = .ok (.if_icmp .lt 40, 3) := by decide +kernel
theorem d11_18 : decode jdk_52_method_3_code 18 = .ok (.new 21, 3) := by decide +kernel
theorem d11_21 : decode jdk_52_method_3_code 21 = .ok (.dup, 1) := by decide +kernel
theorem d11_22 : decode jdk_52_method_3_code 22 = .ok (.new 23, 3) := by decide +kernel
theorem d11_25 : decode jdk_52_method_3_code 25 = .ok (.dup, 1) := by decide +kernel
theorem d11_26 : decode jdk_52_method_3_code 26 = .ok (.invokespecial 25, 3) := by decide +kernel
theorem d11_29 : decode jdk_52_method_3_code 29 = .ok (.ldc 26, 2) := by decide +kernel
theorem d11_31 : decode jdk_52_method_3_code 31 = .ok (.invokevirtual 28, 3) := by decide +kernel
theorem d11_34 : decode jdk_52_method_3_code 34 = .ok (.iload_n 0, 1) := by decide +kernel
theorem d11_35 : decode jdk_52_method_3_code 35 = .ok (.invokevirtual 32, 3) := by decide +kernel
theorem d11_38 : decode jdk_52_method_3_code 38 = .ok (.ldc 35, 2) := by decide +kernel
theorem d11_40 : decode jdk_52_method_3_code 40 = .ok (.invokevirtual 28, 3) := by decide +kernel
theorem d11_43 : decode jdk_52_method_3_code 43 = .ok (.ldc 20, 2) := by decide +kernel
theorem d11_45 : decode jdk_52_method_3_code 45 = .ok (.invokevirtual 32, 3) := by decide +kernel
theorem d11_48 : decode jdk_52_method_3_code 48 = .ok (.invokevirtual 37, 3) := by decide +kernel
theorem d11_51 : decode jdk_52_method_3_code 51 = .ok (.invokespecial 41, 3) := by decide +kernel
theorem d11_54 : decode jdk_52_method_3_code 54 = .ok (.athrow, 1) := by decide +kernel
theorem d11_55 : decode jdk_52_method_3_code 55 = .ok (.iload_n 0, 1) := by decide +kernel
theorem d11_56 : decode jdk_52_method_3_code 56 = .ok (.iconst 1, 1) := by decide +kernel
theorem d11_57 : decode jdk_52_method_3_code 57 = .ok (.ishl, 1) := by decide +kernel
theorem d11_58 : decode jdk_52_method_3_code 58 = .ok (.ireturn, 1) := by decide +kernel
theorem pn_1 : plainName "java/lang/StringUTF16" = true := by first | (simp [plainName, overriddenIn]; done) | decide +kernel
theorem ef_11 (m : MethodId) {n : Nat} : entryFrame m #[(.int (Int32.ofNat n))] 1 = mkF m 0 #[.val (.int (Int32.ofNat n))] [] := by first | (simp [entryFrame, mkF, argsToLocals, Value.category]; done) | rfl
def Q11 (Z : State) (n : Nat) (h0 : Heap) (n0 : Nat) (v : Option Value) (h : Heap) (L : List Loc) : Prop := v = some (.int (Int32.ofNat (2 * n))) ∧ Fr n0 L ∧ h = h0
set_option maxRecDepth 65536 in
set_option maxHeartbeats 40000000 in
theorem rm11 (l : Launch) (Z : State) (a0 : Array Value) (hw : ∀ d ∈ tables_1, d.before a0 Z = true) (ws : List Jvm.Cond) (n : Nat) (h0 : Heap) (n0 : Nat) (Z0 : n0 ≤ h0.size) (hn : n < 4) :
    MetFree l (⟨"java/lang/StringUTF16", "newBytesLength", "(I)I"⟩ : MethodName) (head1 (Jvm.Cond.code (⟨"java/lang/StringUTF16", "newBytesLength", "(I)I"⟩ : MethodName) jdk_52_method_3_code 1 (some .int) :: ws) ({ frames := 0, cells := 0, slots := 0, locals := 0 } : Room)) (fun a U => a = #[(.int (Int32.ofNat n))] ∧ Z.Warmed39 U.vm ∧ U.heap = h0) (fun _ _ _ _ _ => True) (fun _ U oz U' => ∃ v L, oz = .returned v ∧ Q11 Z n h0 n0 v U'.heap L ∧ FrameEnd U oz U' L (({ frames := 0, cells := 0, slots := 0, locals := 0 } : Room)).cells (({ frames := 0, cells := 0, slots := 0, locals := 0 } : Room)).slots) := by
  refine MetFree.of_bodySF (plainFor_of_name pn_1) hisR ?_
  intro p e s m args below meth c s₁ Bd hml0 hP hK
  obtain ⟨rfl, hZ, hh⟩ := hP
  have hx := Bd.exec
  have hby := Bd.bytes
  have hml : c.maxLocals = 1 := hml0
  have hown : s.vm.findClass "java/lang/StringUTF16" = some m.cls := findClass_of_methodNamed Bd.named
  have hnm := (name_of_methodNamed Bd.named Bd.method).1
  have X0 : Stand p l e ({ frames := 0, cells := 0, slots := 0, locals := 0 } : Room) s m #[(.int (Int32.ofNat n))] below meth c s₁ [] 0 0 := Stand.of_body Bd
  have e0 : s₁.heap = h0 := by rw [← hh, Bd.state]; rfl
  have N0 := Fr.nil n0
  show own_Go p.tables e below (own_P s (Q11 Z n h0 n0) ({ frames := 0, cells := 0, slots := 0, locals := 0 } : Room).cells ({ frames := 0, cells := 0, slots := 0, locals := 0 } : Room).slots) s₁ _
  rw [ef_11]
  show own_Go p.tables e below _ s₁ (mkF m 0 #[.val (.int (Int32.ofNat n))] [])
  refine own_go (fun tz kz => XS.iloadN X0.here hx rfl (hb hby d11_0) rfl kz) ?_
  show own_Go p.tables e below _ s₁ (mkF m 1 #[.val (.int (Int32.ofNat n))] [(.int (Int32.ofNat n))])
  refine own_go (fun tz kz => XS.ifYes X0.here hx rfl (pc0 := 1) (pc' := 12) rfl (hb hby d11_1) rfl (XT.i0_ge_t (own_nat (i := n) (by omega)).1) (by decide) (by decide) kz) ?_
  show own_Go p.tables e below _ s₁ (mkF m 12 #[.val (.int (Int32.ofNat n))] [])
  refine own_go (fun tz kz => XS.iloadN X0.here hx rfl (hb hby d11_12) rfl kz) ?_
  show own_Go p.tables e below _ s₁ (mkF m 13 #[.val (.int (Int32.ofNat n))] [(.int (Int32.ofNat n))])
  refine own_go (fun tz kz => X0.ldcI hx hown (mvT hZ (hw _ (List.mem_of_getElem? (i := 53) rfl))) rfl (hb hby d11_13) kz) ?_
  show own_Go p.tables e below _ s₁ (mkF m 15 #[.val (.int (Int32.ofNat n))] [(.int (1073741823 : Int32)), (.int (Int32.ofNat n))])
  refine own_go (fun tz kz => XS.icmpYes X0.here hx rfl (pc0 := 15) (pc' := 55) rfl (hb hby d11_15) rfl (XT.ii_lt_t (show Int32.ofNat n < (1073741823 : Int32) from (by rcases (by omega : n = 0 ∨ n = 1 ∨ n = 2 ∨ n = 3) with rfl | rfl | rfl | rfl <;> decide))) (by decide) (by decide) kz) ?_
  show own_Go p.tables e below _ s₁ (mkF m 55 #[.val (.int (Int32.ofNat n))] [])
  refine own_go (fun tz kz => XS.iloadN X0.here hx rfl (hb hby d11_55) rfl kz) ?_
  show own_Go p.tables e below _ s₁ (mkF m 56 #[.val (.int (Int32.ofNat n))] [(.int (Int32.ofNat n))])
  refine own_go (fun tz kz => XS.iconst X0.here hx rfl (hb hby d11_56) kz) ?_
  show own_Go p.tables e below _ s₁ (mkF m 57 #[.val (.int (Int32.ofNat n))] [(.int (1 : Int32)), (.int (Int32.ofNat n))])
  refine own_go (fun tz kz => XT.ishl X0.here hx rfl (hb hby d11_57) rfl kz) ?_
  show own_Go p.tables e below _ s₁ (mkF m 58 #[.val (.int (Int32.ofNat n))] [(.int ((Int32.ofNat n) <<< ((1 : Int32) &&& 31)))])
  rw [show ((Int32.ofNat n) <<< ((1 : Int32) &&& 31)) = (Int32.ofNat (2 * n)) from own_shl hn]
  show own_Go p.tables e below _ s₁ (mkF m 58 #[.val (.int (Int32.ofNat n))] [(.int (Int32.ofNat (2 * n)))])
  obtain ⟨fs, hr, hrun, hended, hW, hsame⟩ := X0.leave (v := some (.int (Int32.ofNat (2 * n)))) (fun h => by rw [Bd.returns] at h; cases h) (BodyLoose.notSynchronized Bd)
  refine ⟨_, _, ?_, hrun, hended, _, _, rfl, ?_, ⟨_, rfl⟩, hW, hsame.mono (by decide) (by decide)⟩
  · exact retI X0 hx Bd.returns (hb hby d11_58) hr
  · show Q11 Z n h0 n0 _ s₁.heap _
    rw [e0]
    exact ⟨rfl, N0, rfl⟩
theorem d10_0 : decode jdk_52_method_2_code 0 = .ok (.iload_n 0, 1) := by decide +kernel
theorem d10_1 : decode jdk_52_method_2_code 1 = .ok (.invokestatic 11, 3) := by decide +kernel
theorem d10_4 : decode jdk_52_method_2_code 4 = .ok (.newarray .byte, 2) := by decide +kernel
theorem d10_6 : decode jdk_52_method_2_code 6 = .ok (.areturn, 1) := by decide +kernel
theorem pd_0 : parseMethodDescriptor "(I)I" = some ⟨[.int], some .int⟩ := by decide +kernel
theorem ef_10 (m : MethodId) {n : Nat} : entryFrame m #[(.int (Int32.ofNat n))] 1 = mkF m 0 #[.val (.int (Int32.ofNat n))] [] := by first | (simp [entryFrame, mkF, argsToLocals, Value.category]; done) | rfl
def Q10 (Z : State) (n : Nat) (ba : Addr) (h0 : Heap) (n0 : Nat) (v : Option Value) (h : Heap) (L : List Loc) : Prop := v = some (.ref ba) ∧ Fr n0 L ∧ Ext h0 h ∧ own_Av Z h ba .byte (2 * n) (fun k => .int 0)
set_option maxRecDepth 65536 in
set_option maxHeartbeats 40000000 in
theorem rm10 (l : Launch) (Z : State) (a0 : Array Value) (hw : ∀ d ∈ tables_1, d.before a0 Z = true) (ws : List Jvm.Cond) (n : Nat) (ba : Addr) (h0 : Heap) (n0 : Nat) (Z0 : n0 ≤ h0.size) (hn : n < 4) (eb : ba = h0.size) :
    MetFree l (⟨"java/lang/StringUTF16", "newBytesFor", "(I)[B"⟩ : MethodName) (head1 (Jvm.Cond.code (⟨"java/lang/StringUTF16", "newBytesFor", "(I)[B"⟩ : MethodName) jdk_52_method_2_code 1 (some (.array .byte)) :: ws) ({ frames := 1, cells := 1, slots := 6, locals := 12 } : Room)) (fun a U => a = #[(.int (Int32.ofNat n))] ∧ Z.Warmed39 U.vm ∧ U.heap = h0) (fun _ _ _ _ _ => True) (fun _ U oz U' => ∃ v L, oz = .returned v ∧ Q10 Z n ba h0 n0 v U'.heap L ∧ FrameEnd U oz U' L (({ frames := 1, cells := 1, slots := 6, locals := 12 } : Room)).cells (({ frames := 1, cells := 1, slots := 6, locals := 12 } : Room)).slots) := by
  refine MetFree.of_bodySF (plainFor_of_name pn_1) hisR ?_
  intro p e s m args below meth c s₁ Bd hml0 hP hK
  obtain ⟨rfl, hZ, hh⟩ := hP
  have hx := Bd.exec
  have hby := Bd.bytes
  have hml : c.maxLocals = 1 := hml0
  have hown : s.vm.findClass "java/lang/StringUTF16" = some m.cls := findClass_of_methodNamed Bd.named
  have hnm := (name_of_methodNamed Bd.named Bd.method).1
  have X0 : Stand p l e ({ frames := 1, cells := 1, slots := 6, locals := 12 } : Room) s m #[(.int (Int32.ofNat n))] below meth c s₁ [] 0 0 := Stand.of_body Bd
  have e0 : s₁.heap = h0 := by rw [← hh, Bd.state]; rfl
  have N0 := Fr.nil n0
  show own_Go p.tables e below (own_P s (Q10 Z n ba h0 n0) ({ frames := 1, cells := 1, slots := 6, locals := 12 } : Room).cells ({ frames := 1, cells := 1, slots := 6, locals := 12 } : Room).slots) s₁ _
  rw [ef_10]
  show own_Go p.tables e below _ s₁ (mkF m 0 #[.val (.int (Int32.ofNat n))] [])
  refine own_go (fun tz kz => XS.iloadN X0.here hx rfl (hb hby d10_0) rfl kz) ?_
  show own_Go p.tables e below _ s₁ (mkF m 1 #[.val (.int (Int32.ofNat n))] [(.int (Int32.ofNat n))])
  obtain ⟨_, _, ⟨T1, L1, k1, n1⟩, -, X1, ⟨Lc1, hQ1, l1, y1, z1⟩, st1⟩ := Jvm.LawKit.callS X0 hx (y := (⟨"java/lang/StringUTF16", "newBytesLength", "(I)I"⟩ : MethodName)) hown (mvT hZ (hw _ (List.mem_of_getElem? (i := 50) rfl))) (mvT hZ (hw _ (List.mem_of_getElem? (i := 51) rfl))) (mvT hZ (hw _ (List.mem_of_getElem? (i := 39) rfl))) (mvT hZ (hw _ (List.mem_of_getElem? (i := 52) rfl))) (by decide) (backOf (W := 0) (rm11 l Z a0 hw [] n h0 n0 Z0 hn) hZ (hw _ (List.mem_of_getElem? (i := 52) rfl)) (hw _ (List.mem_of_getElem? (i := 39) rfl)) (by decide) (by decide)) (g := (mkF m 1 #[.val (.int (Int32.ofNat n))] [(.int (Int32.ofNat n))])) rfl (by rw [hml]; rfl) (argsL := [(.int (Int32.ofNat n))]) (rest := []) (lenOf pd_0 rfl) rfl (by show 2 * 0 + _ ≤ _; exact Nat.le_of_eq rfl) (hb hby d10_1) (fun _ _ => ⟨rfl, e0, (by decide : 0 + 0 ≤ _), (by decide : 0 + 0 ≤ _)⟩)
  dsimp only [Pt.U, Pt.locs, Pt.cells, Pt.slots] at X1 l1 y1 z1 st1 hQ1
  subst l1 y1 z1
  obtain ⟨rfl, N1q, e1⟩ := hQ1
  have N1 := Fr.app N0 N1q
  refine own_go (fun tz kz => st1 tz kz) ?_
  show own_Go p.tables e below _ T1 (mkF m 4 #[.val (.int (Int32.ofNat n))] [(.int (Int32.ofNat (2 * n)))])
  obtain ⟨T2, h2, k2, X2, e2, E2, A2, st2⟩ := newP X1 hx hZ (hw _ (List.mem_of_getElem? (i := 15) rfl)) e1 (g := (mkF m 4 #[.val (.int (Int32.ofNat n))] [(.int (Int32.ofNat (2 * n)))])) rfl (hb hby d10_4) rfl (own_nat (i := 2 * n) (by omega)).1 (cap := 6) (by rw [(own_nat (i := 2 * n) (by omega)).2]; omega) (by decide) (by decide) (by decide)
  rw [← eb] at A2 st2
  have g_ba : n0 ≤ ba := Nat.le_trans Z0 (Nat.le_of_eq eb.symm)
  have V_ba : own_Av Z h2 ba .byte (2 * n) (fun _ => .int 0) := own_Av.new A2 (own_nat (i := 2 * n) (by omega)).2
  refine own_go st2 ?_
  show own_Go p.tables e below _ T2 (mkF m 6 #[.val (.int (Int32.ofNat n))] [(.ref ba)])
  obtain ⟨fs, hr, hrun, hended, hW, hsame⟩ := X2.leave (v := some (.ref ba)) (fun h => by rw [Bd.returns] at h; cases h) (BodyLoose.notSynchronized Bd)
  refine ⟨_, _, ?_, hrun, hended, _, _, rfl, ?_, ⟨_, rfl⟩, hW, hsame.mono (by decide) (by decide)⟩
  · exact retOut X2 hx Bd.returns rfl (Or.inr (Or.inr (Or.inr (Or.inr ⟨rfl, rfl, rfl⟩)))) (hb hby d10_6) hr
  · show Q10 Z n ba h0 n0 _ T2.heap _
    rw [e2]
    exact ⟨rfl, N1, E2, V_ba⟩
theorem d12_0 : decode jdk_52_method_4_code 0 = .ok (.getstatic 44, 3) := by decide +kernel
theorem d12_3 : decode jdk_52_method_4_code 3 = .ok (.ifCond .ne 25, 3) := by decide +kernel
theorem d12_6 : decode jdk_52_method_4_code 6 = .ok (.iload_n 1, 1) := by decide +kernel
theorem d12_7 : decode jdk_52_method_4_code 7 = .ok (.ifCond .lt 11, 3) := by decide +kernel
theorem d12_10 : decode jdk_52_method_4_code 10 = .ok (.iload_n 1, 1) := by decide +kernel
theorem d12_11 : decode jdk_52_method_4_code 11 = .ok (.aload_n 0, 1) := by decide +kernel
theorem d12_12 : decode jdk_52_method_4_code 12 = .ok (.invokestatic 48, 3) := by decide +kernel
theorem d12_15 : decode jdk_52_method_4_code 15 = .ok (.if_icmp .lt 13, 3) := by decide +kernel
theorem d12_18 : decode jdk_52_method_4_code 18 = .ok (.new 52, 3) := by decide +kernel
theorem d12_21 : decode jdk_52_method_4_code 21 = .ok (.dup, 1) := by decide +kernel
theorem d12_22 : decode jdk_52_method_4_code 22 = .ok (.ldc 54, 2) := by decide +kernel
theorem d12_24 : decode jdk_52_method_4_code 24 = .ok (.invokespecial 56, 3) := by decide +kernel
theorem d12_27 : decode jdk_52_method_4_code 27 = .ok (.athrow, 1) := by decide +kernel
theorem d12_28 : decode jdk_52_method_4_code 28 = .ok (.iload_n 1, 1) := by decide +kernel
theorem d12_29 : decode jdk_52_method_4_code 29 = .ok (.iconst 1, 1) := by decide +kernel
theorem d12_30 : decode jdk_52_method_4_code 30 = .ok (.ishl, 1) := by decide +kernel
theorem d12_31 : decode jdk_52_method_4_code 31 = .ok (.istore_n 1, 1) := by decide +kernel
theorem d12_32 : decode jdk_52_method_4_code 32 = .ok (.aload_n 0, 1) := by decide +kernel
theorem d12_33 : decode jdk_52_method_4_code 33 = .ok (.iload_n 1, 1) := by decide +kernel
theorem d12_34 : decode jdk_52_method_4_code 34 = .ok (.iinc 1 1, 3) := by decide +kernel
theorem d12_37 : decode jdk_52_method_4_code 37 = .ok (.iload_n 2, 1) := by decide +kernel
theorem d12_38 : decode jdk_52_method_4_code 38 = .ok (.getstatic 59, 3) := by decide +kernel
theorem d12_41 : decode jdk_52_method_4_code 41 = .ok (.ishr, 1) := by decide +kernel
theorem d12_42 : decode jdk_52_method_4_code 42 = .ok (.i2b, 1) := by decide +kernel
theorem d12_43 : decode jdk_52_method_4_code 43 = .ok (.bastore, 1) := by decide +kernel
theorem d12_44 : decode jdk_52_method_4_code 44 = .ok (.aload_n 0, 1) := by decide +kernel
theorem d12_45 : decode jdk_52_method_4_code 45 = .ok (.iload_n 1, 1) := by decide +kernel
theorem d12_46 : decode jdk_52_method_4_code 46 = .ok (.iload_n 2, 1) := by decide +kernel
theorem d12_47 : decode jdk_52_method_4_code 47 = .ok (.getstatic 63, 3) := by decide +kernel
theorem d12_50 : decode jdk_52_method_4_code 50 = .ok (.ishr, 1) := by decide +kernel
theorem d12_51 : decode jdk_52_method_4_code 51 = .ok (.i2b, 1) := by decide +kernel
theorem d12_52 : decode jdk_52_method_4_code 52 = .ok (.bastore, 1) := by decide +kernel
theorem d12_53 : decode jdk_52_method_4_code 53 = .ok (.return_, 1) := by decide +kernel
theorem ef_12 (m : MethodId) {ba : Addr} {i : Nat} {x : Int32} : entryFrame m #[(.ref ba), (.int (Int32.ofNat i)), (.int x)] 3 = mkF m 0 #[.val (.ref ba), .val (.int (Int32.ofNat i)), .val (.int x)] [] := by first | (simp [entryFrame, mkF, argsToLocals, Value.category]; done) | rfl
def Q12 (Z : State) (ba : Addr) (i : Nat) (x : Int32) (mm : Nat) (f : Nat → Int32) (h0 : Heap) (n0 : Nat) (v : Option Value) (h : Heap) (L : List Loc) : Prop := v = none ∧ Fr n0 L ∧ Keep h0 h [ba] ∧ own_Av Z h ba .byte mm (fun k => .int ((fun k => if k = 2 * i + 1 then own_by (own_by (x >>> ((8 : Int32) &&& 31))) else if k = 2 * i then own_by (own_by (x >>> ((0 : Int32) &&& 31))) else f k) k))
set_option maxRecDepth 65536 in
set_option maxHeartbeats 40000000 in
theorem rm12 (l : Launch) (Z : State) (a0 : Array Value) (hw : ∀ d ∈ tables_1, d.before a0 Z = true) (ws : List Jvm.Cond) (ba : Addr) (i : Nat) (x : Int32) (mm : Nat) (f : Nat → Int32) (h0 : Heap) (n0 : Nat) (Z0 : n0 ≤ h0.size) (AD : Sta Z h0 "java/lang/StringUTF16" "$assertionsDisabled" "Z" (.int 1)) (HB : Sta Z h0 "java/lang/StringUTF16" "HI_BYTE_SHIFT" "I" (.int 0)) (LB : Sta Z h0 "java/lang/StringUTF16" "LO_BYTE_SHIFT" "I" (.int 8)) (Va : own_Av Z h0 ba .byte mm (fun k => .int (f k))) (hi : 2 * i + 1 < mm) (hm : mm ≤ 6) (g : n0 ≤ ba) :
    MetFree l (⟨"java/lang/StringUTF16", "putChar", "([BII)V"⟩ : MethodName) (head1 (Jvm.Cond.code (⟨"java/lang/StringUTF16", "putChar", "([BII)V"⟩ : MethodName) jdk_52_method_4_code 3 none :: ws) ({ frames := 0, cells := 0, slots := 0, locals := 0 } : Room)) (fun a U => a = #[(.ref ba), (.int (Int32.ofNat i)), (.int x)] ∧ Z.Warmed39 U.vm ∧ U.heap = h0) (fun _ _ _ _ _ => True) (fun _ U oz U' => ∃ v L, oz = .returned v ∧ Q12 Z ba i x mm f h0 n0 v U'.heap L ∧ FrameEnd U oz U' L (({ frames := 0, cells := 0, slots := 0, locals := 0 } : Room)).cells (({ frames := 0, cells := 0, slots := 0, locals := 0 } : Room)).slots) := by
  refine MetFree.of_bodySF (plainFor_of_name pn_1) hisR ?_
  intro p e s m args below meth c s₁ Bd hml0 hP hK
  obtain ⟨rfl, hZ, hh⟩ := hP
  have hx := Bd.exec
  have hby := Bd.bytes
  have hml : c.maxLocals = 3 := hml0
  have hown : s.vm.findClass "java/lang/StringUTF16" = some m.cls := findClass_of_methodNamed Bd.named
  have hnm := (name_of_methodNamed Bd.named Bd.method).1
  have X0 : Stand p l e ({ frames := 0, cells := 0, slots := 0, locals := 0 } : Room) s m #[(.ref ba), (.int (Int32.ofNat i)), (.int x)] below meth c s₁ [] 0 0 := Stand.of_body Bd
  have e0 : s₁.heap = h0 := by rw [← hh, Bd.state]; rfl
  have N0 := Fr.nil n0
  show own_Go p.tables e below (own_P s (Q12 Z ba i x mm f h0 n0) ({ frames := 0, cells := 0, slots := 0, locals := 0 } : Room).cells ({ frames := 0, cells := 0, slots := 0, locals := 0 } : Room).slots) s₁ _
  rw [ef_12]
  show own_Go p.tables e below _ s₁ (mkF m 0 #[.val (.ref ba), .val (.int (Int32.ofNat i)), .val (.int x)] [])
  obtain ⟨T1, X1, e1, st1⟩ := getS2 X0 hx hZ hown (host := "") (Or.inl (hw _ (List.mem_of_getElem? (i := 57) rfl))) Via.refl e0 AD (g := (mkF m 0 #[.val (.ref ba), .val (.int (Int32.ofNat i)), .val (.int x)] [])) rfl (hb hby d12_0)
  refine own_go st1 ?_
  show own_Go p.tables e below _ T1 (mkF m 3 #[.val (.ref ba), .val (.int (Int32.ofNat i)), .val (.int x)] [(.int (1 : Int32))])
  refine own_go (fun tz kz => XS.ifYes X1.here hx rfl (pc0 := 3) (pc' := 28) rfl (hb hby d12_3) rfl (XT.i0_ne_t (by decide)) (by decide) (by decide) kz) ?_
  show own_Go p.tables e below _ T1 (mkF m 28 #[.val (.ref ba), .val (.int (Int32.ofNat i)), .val (.int x)] [])
  refine own_go (fun tz kz => XS.iloadN X1.here hx rfl (hb hby d12_28) rfl kz) ?_
  show own_Go p.tables e below _ T1 (mkF m 29 #[.val (.ref ba), .val (.int (Int32.ofNat i)), .val (.int x)] [(.int (Int32.ofNat i))])
  refine own_go (fun tz kz => XS.iconst X1.here hx rfl (hb hby d12_29) kz) ?_
  show own_Go p.tables e below _ T1 (mkF m 30 #[.val (.ref ba), .val (.int (Int32.ofNat i)), .val (.int x)] [(.int (1 : Int32)), (.int (Int32.ofNat i))])
  refine own_go (fun tz kz => XT.ishl X1.here hx rfl (hb hby d12_30) rfl kz) ?_
  show own_Go p.tables e below _ T1 (mkF m 31 #[.val (.ref ba), .val (.int (Int32.ofNat i)), .val (.int x)] [(.int ((Int32.ofNat i) <<< ((1 : Int32) &&& 31)))])
  rw [show ((Int32.ofNat i) <<< ((1 : Int32) &&& 31)) = (Int32.ofNat (2 * i)) from own_shl (by omega)]
  show own_Go p.tables e below _ T1 (mkF m 31 #[.val (.ref ba), .val (.int (Int32.ofNat i)), .val (.int x)] [(.int (Int32.ofNat (2 * i)))])
  refine own_go (fun tz kz => XS.istoreN X1.here hx rfl (hb hby d12_31) rfl (l' := #[.val (.ref ba), .val (.int (Int32.ofNat (2 * i))), .val (.int x)]) rfl kz) ?_
  show own_Go p.tables e below _ T1 (mkF m 32 #[.val (.ref ba), .val (.int (Int32.ofNat (2 * i))), .val (.int x)] [])
  refine own_go (fun tz kz => XS.aloadN X1.here hx rfl (hb hby d12_32) rfl rfl kz) ?_
  show own_Go p.tables e below _ T1 (mkF m 33 #[.val (.ref ba), .val (.int (Int32.ofNat (2 * i))), .val (.int x)] [(.ref ba)])
  refine own_go (fun tz kz => XS.iloadN X1.here hx rfl (hb hby d12_33) rfl kz) ?_
  show own_Go p.tables e below _ T1 (mkF m 34 #[.val (.ref ba), .val (.int (Int32.ofNat (2 * i))), .val (.int x)] [(.int (Int32.ofNat (2 * i))), (.ref ba)])
  refine own_go (fun tz kz => XS.iinc X1.here hx rfl (hb hby d12_34) rfl (l' := #[.val (.ref ba), .val (.int ((Int32.ofNat (2 * i)) + (1 : Int32))), .val (.int x)]) rfl kz) ?_
  show own_Go p.tables e below _ T1 (mkF m 37 #[.val (.ref ba), .val (.int ((Int32.ofNat (2 * i)) + (1 : Int32))), .val (.int x)] [(.int (Int32.ofNat (2 * i))), (.ref ba)])
  rw [show ((Int32.ofNat (2 * i)) + (1 : Int32)) = (Int32.ofNat (2 * i + 1)) from own_succ (2 * i)]
  show own_Go p.tables e below _ T1 (mkF m 37 #[.val (.ref ba), .val (.int (Int32.ofNat (2 * i + 1))), .val (.int x)] [(.int (Int32.ofNat (2 * i))), (.ref ba)])
  refine own_go (fun tz kz => XS.iloadN X1.here hx rfl (hb hby d12_37) rfl kz) ?_
  show own_Go p.tables e below _ T1 (mkF m 38 #[.val (.ref ba), .val (.int (Int32.ofNat (2 * i + 1))), .val (.int x)] [(.int x), (.int (Int32.ofNat (2 * i))), (.ref ba)])
  obtain ⟨T2, X2, e2, st2⟩ := getS2 X1 hx hZ hown (host := "") (Or.inl (hw _ (List.mem_of_getElem? (i := 58) rfl))) Via.refl e1 HB (g := (mkF m 38 #[.val (.ref ba), .val (.int (Int32.ofNat (2 * i + 1))), .val (.int x)] [(.int x), (.int (Int32.ofNat (2 * i))), (.ref ba)])) rfl (hb hby d12_38)
  refine own_go st2 ?_
  show own_Go p.tables e below _ T2 (mkF m 41 #[.val (.ref ba), .val (.int (Int32.ofNat (2 * i + 1))), .val (.int x)] [(.int (0 : Int32)), (.int x), (.int (Int32.ofNat (2 * i))), (.ref ba)])
  refine own_go (fun tz kz => XT.ishr X2.here hx rfl (hb hby d12_41) rfl kz) ?_
  show own_Go p.tables e below _ T2 (mkF m 42 #[.val (.ref ba), .val (.int (Int32.ofNat (2 * i + 1))), .val (.int x)] [(.int (x >>> ((0 : Int32) &&& 31))), (.int (Int32.ofNat (2 * i))), (.ref ba)])
  refine own_go (fun tz kz => XT.i2b X2.here hx rfl (hb hby d12_42) rfl kz) ?_
  show own_Go p.tables e below _ T2 (mkF m 43 #[.val (.ref ba), .val (.int (Int32.ofNat (2 * i + 1))), .val (.int x)] [(.int (x >>> ((0 : Int32) &&& 31)).toInt8.toInt32), (.int (Int32.ofNat (2 * i))), (.ref ba)])
  obtain ⟨c3, Ar3, Sz3, Ge3⟩ := id (Va)
  obtain ⟨T3, h3, X3, e3, W3, st3⟩ := stB X2 hx hZ e2 Ar3 (j := (Int32.ofNat (2 * i))) (own_inb (i := (2 * i)) Sz3 (own_nat (i := 2 * i) (by omega)) (by omega)) (g := (mkF m 43 #[.val (.ref ba), .val (.int (Int32.ofNat (2 * i + 1))), .val (.int x)] [(.int (x >>> ((0 : Int32) &&& 31)).toInt8.toInt32), (.int (Int32.ofNat (2 * i))), (.ref ba)])) rfl rfl (hb hby d12_43)
  have U1 := own_Av.set (Va) W3 ((own_nat (i := 2 * i) (by omega)) : ¬ (Int32.ofNat (2 * i)) < 0 ∧ ((Int32.ofNat (2 * i))).toNatClampNeg = (2 * i)).2
  have N3 := Fr.snoc X3 N0 g
  refine own_go st3 ?_
  show own_Go p.tables e below _ T3 (mkF m 44 #[.val (.ref ba), .val (.int (Int32.ofNat (2 * i + 1))), .val (.int x)] [])
  refine own_go (fun tz kz => XS.aloadN X3.here hx rfl (hb hby d12_44) rfl rfl kz) ?_
  show own_Go p.tables e below _ T3 (mkF m 45 #[.val (.ref ba), .val (.int (Int32.ofNat (2 * i + 1))), .val (.int x)] [(.ref ba)])
  refine own_go (fun tz kz => XS.iloadN X3.here hx rfl (hb hby d12_45) rfl kz) ?_
  show own_Go p.tables e below _ T3 (mkF m 46 #[.val (.ref ba), .val (.int (Int32.ofNat (2 * i + 1))), .val (.int x)] [(.int (Int32.ofNat (2 * i + 1))), (.ref ba)])
  refine own_go (fun tz kz => XS.iloadN X3.here hx rfl (hb hby d12_46) rfl kz) ?_
  show own_Go p.tables e below _ T3 (mkF m 47 #[.val (.ref ba), .val (.int (Int32.ofNat (2 * i + 1))), .val (.int x)] [(.int x), (.int (Int32.ofNat (2 * i + 1))), (.ref ba)])
  obtain ⟨T4, X4, e4, st4⟩ := getS2 X3 hx hZ hown (host := "") (Or.inl (hw _ (List.mem_of_getElem? (i := 59) rfl))) Via.refl e3 (LB.wr W3) (g := (mkF m 47 #[.val (.ref ba), .val (.int (Int32.ofNat (2 * i + 1))), .val (.int x)] [(.int x), (.int (Int32.ofNat (2 * i + 1))), (.ref ba)])) rfl (hb hby d12_47)
  refine own_go st4 ?_
  show own_Go p.tables e below _ T4 (mkF m 50 #[.val (.ref ba), .val (.int (Int32.ofNat (2 * i + 1))), .val (.int x)] [(.int (8 : Int32)), (.int x), (.int (Int32.ofNat (2 * i + 1))), (.ref ba)])
  refine own_go (fun tz kz => XT.ishr X4.here hx rfl (hb hby d12_50) rfl kz) ?_
  show own_Go p.tables e below _ T4 (mkF m 51 #[.val (.ref ba), .val (.int (Int32.ofNat (2 * i + 1))), .val (.int x)] [(.int (x >>> ((8 : Int32) &&& 31))), (.int (Int32.ofNat (2 * i + 1))), (.ref ba)])
  refine own_go (fun tz kz => XT.i2b X4.here hx rfl (hb hby d12_51) rfl kz) ?_
  show own_Go p.tables e below _ T4 (mkF m 52 #[.val (.ref ba), .val (.int (Int32.ofNat (2 * i + 1))), .val (.int x)] [(.int (x >>> ((8 : Int32) &&& 31)).toInt8.toInt32), (.int (Int32.ofNat (2 * i + 1))), (.ref ba)])
  obtain ⟨c5, Ar5, Sz5, Ge5⟩ := id (U1)
  obtain ⟨T5, h5, X5, e5, W5, st5⟩ := stB X4 hx hZ e4 Ar5 (j := (Int32.ofNat (2 * i + 1))) (own_inb (i := (2 * i + 1)) Sz5 (own_nat (i := 2 * i + 1) (by omega)) hi) (g := (mkF m 52 #[.val (.ref ba), .val (.int (Int32.ofNat (2 * i + 1))), .val (.int x)] [(.int (x >>> ((8 : Int32) &&& 31)).toInt8.toInt32), (.int (Int32.ofNat (2 * i + 1))), (.ref ba)])) rfl rfl (hb hby d12_52)
  have U2 := own_Av.set (U1) W5 ((own_nat (i := 2 * i + 1) (by omega)) : ¬ (Int32.ofNat (2 * i + 1)) < 0 ∧ ((Int32.ofNat (2 * i + 1))).toNatClampNeg = (2 * i + 1)).2
  have N5 := Fr.snoc X5 N3 g
  refine own_go st5 ?_
  show own_Go p.tables e below _ T5 (mkF m 53 #[.val (.ref ba), .val (.int (Int32.ofNat (2 * i + 1))), .val (.int x)] [])
  obtain ⟨fs, hr, hrun, hended, hW, hsame⟩ := X5.leave (v := none) (fun _ => rfl) (BodyLoose.notSynchronized Bd)
  refine ⟨_, _, ?_, hrun, hended, _, _, rfl, ?_, ⟨_, rfl⟩, hW, hsame.mono (by decide) (by decide)⟩
  · exact X5.returnOut hx Bd.returns (hb hby d12_53) hr
  · show Q12 Z ba i x mm f h0 n0 _ T5.heap _
    rw [e5]
    exact ⟨rfl, N5, ((Keep.refl _ _).wr W3 (Or.inl (List.mem_singleton.mpr rfl))).wr W5 (Or.inl (List.mem_singleton.mpr rfl)), own_Av.eq U2 (fun k _ => by by_cases q : k = 2 * i + 1 <;> by_cases q' : k = 2 * i <;> simp [q, q'] <;> rfl)⟩
theorem d13_0 : decode jdk_52_method_5_code 0 = .ok (.getstatic 44, 3) := by decide +kernel
theorem d13_3 : decode jdk_52_method_5_code 3 = .ok (.ifCond .ne 25, 3) := by decide +kernel
theorem d13_6 : decode jdk_52_method_5_code 6 = .ok (.iload_n 1, 1) := by decide +kernel
theorem d13_7 : decode jdk_52_method_5_code 7 = .ok (.ifCond .lt 11, 3) := by decide +kernel
theorem d13_10 : decode jdk_52_method_5_code 10 = .ok (.iload_n 1, 1) := by decide +kernel
theorem d13_11 : decode jdk_52_method_5_code 11 = .ok (.aload_n 0, 1) := by decide +kernel
theorem d13_12 : decode jdk_52_method_5_code 12 = .ok (.invokestatic 48, 3) := by decide +kernel
theorem d13_15 : decode jdk_52_method_5_code 15 = .ok (.if_icmp .lt 13, 3) := by decide +kernel
theorem d13_18 : decode jdk_52_method_5_code 18 = .ok (.new 52, 3) := by decide +kernel
theorem d13_21 : decode jdk_52_method_5_code 21 = .ok (.dup, 1) := by decide +kernel
theorem d13_22 : decode jdk_52_method_5_code 22 = .ok (.ldc 54, 2) := by decide +kernel
theorem d13_24 : decode jdk_52_method_5_code 24 = .ok (.invokespecial 56, 3) := by decide +kernel
theorem d13_27 : decode jdk_52_method_5_code 27 = .ok (.athrow, 1) := by decide +kernel
theorem d13_28 : decode jdk_52_method_5_code 28 = .ok (.iload_n 1, 1) := by decide +kernel
theorem d13_29 : decode jdk_52_method_5_code 29 = .ok (.iconst 1, 1) := by decide +kernel
theorem d13_30 : decode jdk_52_method_5_code 30 = .ok (.ishl, 1) := by decide +kernel
theorem d13_31 : decode jdk_52_method_5_code 31 = .ok (.istore_n 1, 1) := by decide +kernel
theorem d13_32 : decode jdk_52_method_5_code 32 = .ok (.aload_n 0, 1) := by decide +kernel
theorem d13_33 : decode jdk_52_method_5_code 33 = .ok (.iload_n 1, 1) := by decide +kernel
theorem d13_34 : decode jdk_52_method_5_code 34 = .ok (.iinc 1 1, 3) := by decide +kernel
theorem d13_37 : decode jdk_52_method_5_code 37 = .ok (.baload, 1) := by decide +kernel
theorem d13_38 : decode jdk_52_method_5_code 38 = .ok (.sipush 255, 3) := by decide +kernel
theorem d13_41 : decode jdk_52_method_5_code 41 = .ok (.iand, 1) := by decide +kernel
theorem d13_42 : decode jdk_52_method_5_code 42 = .ok (.getstatic 59, 3) := by decide +kernel
theorem d13_45 : decode jdk_52_method_5_code 45 = .ok (.ishl, 1) := by decide +kernel
theorem d13_46 : decode jdk_52_method_5_code 46 = .ok (.aload_n 0, 1) := by decide +kernel
theorem d13_47 : decode jdk_52_method_5_code 47 = .ok (.iload_n 1, 1) := by decide +kernel
theorem d13_48 : decode jdk_52_method_5_code 48 = .ok (.baload, 1) := by decide +kernel
theorem d13_49 : decode jdk_52_method_5_code 49 = .ok (.sipush 255, 3) := by decide +kernel
theorem d13_52 : decode jdk_52_method_5_code 52 = .ok (.iand, 1) := by decide +kernel
theorem d13_53 : decode jdk_52_method_5_code 53 = .ok (.getstatic 63, 3) := by decide +kernel
theorem d13_56 : decode jdk_52_method_5_code 56 = .ok (.ishl, 1) := by decide +kernel
theorem d13_57 : decode jdk_52_method_5_code 57 = .ok (.ior, 1) := by decide +kernel
theorem d13_58 : decode jdk_52_method_5_code 58 = .ok (.i2c, 1) := by decide +kernel
theorem d13_59 : decode jdk_52_method_5_code 59 = .ok (.ireturn, 1) := by decide +kernel
theorem ef_13 (m : MethodId) {ba : Addr} {i : Nat} : entryFrame m #[(.ref ba), (.int (Int32.ofNat i))] 2 = mkF m 0 #[.val (.ref ba), .val (.int (Int32.ofNat i))] [] := by first | (simp [entryFrame, mkF, argsToLocals, Value.category]; done) | rfl
def Q13 (Z : State) (ba : Addr) (i : Nat) (mm : Nat) (f : Nat → Int32) (h0 : Heap) (n0 : Nat) (v : Option Value) (h : Heap) (L : List Loc) : Prop := v = some (.int (own_gc (f (2 * i)) (f (2 * i + 1)))) ∧ Fr n0 L ∧ h = h0
set_option maxRecDepth 65536 in
set_option maxHeartbeats 40000000 in
theorem rm13 (l : Launch) (Z : State) (a0 : Array Value) (hw : ∀ d ∈ tables_1, d.before a0 Z = true) (ws : List Jvm.Cond) (ba : Addr) (i : Nat) (mm : Nat) (f : Nat → Int32) (h0 : Heap) (n0 : Nat) (Z0 : n0 ≤ h0.size) (AD : Sta Z h0 "java/lang/StringUTF16" "$assertionsDisabled" "Z" (.int 1)) (HB : Sta Z h0 "java/lang/StringUTF16" "HI_BYTE_SHIFT" "I" (.int 0)) (LB : Sta Z h0 "java/lang/StringUTF16" "LO_BYTE_SHIFT" "I" (.int 8)) (Va : own_Av Z h0 ba .byte mm (fun k => .int (f k))) (hi : 2 * i + 1 < mm) (hm : mm ≤ 6) :
    MetFree l (⟨"java/lang/StringUTF16", "getChar", "([BI)C"⟩ : MethodName) (head1 (Jvm.Cond.code (⟨"java/lang/StringUTF16", "getChar", "([BI)C"⟩ : MethodName) jdk_52_method_5_code 2 (some .char) :: ws) ({ frames := 0, cells := 0, slots := 0, locals := 0 } : Room)) (fun a U => a = #[(.ref ba), (.int (Int32.ofNat i))] ∧ Z.Warmed39 U.vm ∧ U.heap = h0) (fun _ _ _ _ _ => True) (fun _ U oz U' => ∃ v L, oz = .returned v ∧ Q13 Z ba i mm f h0 n0 v U'.heap L ∧ FrameEnd U oz U' L (({ frames := 0, cells := 0, slots := 0, locals := 0 } : Room)).cells (({ frames := 0, cells := 0, slots := 0, locals := 0 } : Room)).slots) := by
  refine MetFree.of_bodySF (plainFor_of_name pn_1) hisR ?_
  intro p e s m args below meth c s₁ Bd hml0 hP hK
  obtain ⟨rfl, hZ, hh⟩ := hP
  have hx := Bd.exec
  have hby := Bd.bytes
  have hml : c.maxLocals = 2 := hml0
  have hown : s.vm.findClass "java/lang/StringUTF16" = some m.cls := findClass_of_methodNamed Bd.named
  have hnm := (name_of_methodNamed Bd.named Bd.method).1
  have X0 : Stand p l e ({ frames := 0, cells := 0, slots := 0, locals := 0 } : Room) s m #[(.ref ba), (.int (Int32.ofNat i))] below meth c s₁ [] 0 0 := Stand.of_body Bd
  have e0 : s₁.heap = h0 := by rw [← hh, Bd.state]; rfl
  have N0 := Fr.nil n0
  show own_Go p.tables e below (own_P s (Q13 Z ba i mm f h0 n0) ({ frames := 0, cells := 0, slots := 0, locals := 0 } : Room).cells ({ frames := 0, cells := 0, slots := 0, locals := 0 } : Room).slots) s₁ _
  rw [ef_13]
  show own_Go p.tables e below _ s₁ (mkF m 0 #[.val (.ref ba), .val (.int (Int32.ofNat i))] [])
  obtain ⟨T1, X1, e1, st1⟩ := getS2 X0 hx hZ hown (host := "") (Or.inl (hw _ (List.mem_of_getElem? (i := 57) rfl))) Via.refl e0 AD (g := (mkF m 0 #[.val (.ref ba), .val (.int (Int32.ofNat i))] [])) rfl (hb hby d13_0)
  refine own_go st1 ?_
  show own_Go p.tables e below _ T1 (mkF m 3 #[.val (.ref ba), .val (.int (Int32.ofNat i))] [(.int (1 : Int32))])
  refine own_go (fun tz kz => XS.ifYes X1.here hx rfl (pc0 := 3) (pc' := 28) rfl (hb hby d13_3) rfl (XT.i0_ne_t (by decide)) (by decide) (by decide) kz) ?_
  show own_Go p.tables e below _ T1 (mkF m 28 #[.val (.ref ba), .val (.int (Int32.ofNat i))] [])
  refine own_go (fun tz kz => XS.iloadN X1.here hx rfl (hb hby d13_28) rfl kz) ?_
  show own_Go p.tables e below _ T1 (mkF m 29 #[.val (.ref ba), .val (.int (Int32.ofNat i))] [(.int (Int32.ofNat i))])
  refine own_go (fun tz kz => XS.iconst X1.here hx rfl (hb hby d13_29) kz) ?_
  show own_Go p.tables e below _ T1 (mkF m 30 #[.val (.ref ba), .val (.int (Int32.ofNat i))] [(.int (1 : Int32)), (.int (Int32.ofNat i))])
  refine own_go (fun tz kz => XT.ishl X1.here hx rfl (hb hby d13_30) rfl kz) ?_
  show own_Go p.tables e below _ T1 (mkF m 31 #[.val (.ref ba), .val (.int (Int32.ofNat i))] [(.int ((Int32.ofNat i) <<< ((1 : Int32) &&& 31)))])
  rw [show ((Int32.ofNat i) <<< ((1 : Int32) &&& 31)) = (Int32.ofNat (2 * i)) from own_shl (by omega)]
  show own_Go p.tables e below _ T1 (mkF m 31 #[.val (.ref ba), .val (.int (Int32.ofNat i))] [(.int (Int32.ofNat (2 * i)))])
  refine own_go (fun tz kz => XS.istoreN X1.here hx rfl (hb hby d13_31) rfl (l' := #[.val (.ref ba), .val (.int (Int32.ofNat (2 * i)))]) rfl kz) ?_
  show own_Go p.tables e below _ T1 (mkF m 32 #[.val (.ref ba), .val (.int (Int32.ofNat (2 * i)))] [])
  refine own_go (fun tz kz => XS.aloadN X1.here hx rfl (hb hby d13_32) rfl rfl kz) ?_
  show own_Go p.tables e below _ T1 (mkF m 33 #[.val (.ref ba), .val (.int (Int32.ofNat (2 * i)))] [(.ref ba)])
  refine own_go (fun tz kz => XS.iloadN X1.here hx rfl (hb hby d13_33) rfl kz) ?_
  show own_Go p.tables e below _ T1 (mkF m 34 #[.val (.ref ba), .val (.int (Int32.ofNat (2 * i)))] [(.int (Int32.ofNat (2 * i))), (.ref ba)])
  refine own_go (fun tz kz => XS.iinc X1.here hx rfl (hb hby d13_34) rfl (l' := #[.val (.ref ba), .val (.int ((Int32.ofNat (2 * i)) + (1 : Int32)))]) rfl kz) ?_
  show own_Go p.tables e below _ T1 (mkF m 37 #[.val (.ref ba), .val (.int ((Int32.ofNat (2 * i)) + (1 : Int32)))] [(.int (Int32.ofNat (2 * i))), (.ref ba)])
  rw [show ((Int32.ofNat (2 * i)) + (1 : Int32)) = (Int32.ofNat (2 * i + 1)) from own_succ (2 * i)]
  show own_Go p.tables e below _ T1 (mkF m 37 #[.val (.ref ba), .val (.int (Int32.ofNat (2 * i + 1)))] [(.int (Int32.ofNat (2 * i))), (.ref ba)])
  obtain ⟨c2, Ar2, Sz2, Ge2⟩ := id (Va)
  refine own_go (fun tz kz => X1.baloadBytes hx (j := (Int32.ofNat (2 * i))) (v := (.int (f (2 * i)))) (by rw [e1]; exact Ar2.1) (State.isArrayOf_alike hZ.alike Ar2.2.1) Ar2.2.2 (own_inb Sz2 (own_nat (i := 2 * i) (by omega)) (by omega)) (own_at Ge2 (own_nat (i := 2 * i) (by omega)) (by omega) rfl) (g := (mkF m 37 #[.val (.ref ba), .val (.int (Int32.ofNat (2 * i + 1)))] [(.int (Int32.ofNat (2 * i))), (.ref ba)])) rfl rfl (hb hby d13_37) tz kz) ?_
  show own_Go p.tables e below _ T1 (mkF m 38 #[.val (.ref ba), .val (.int (Int32.ofNat (2 * i + 1)))] [(.int (f (2 * i)))])
  refine own_go (fun tz kz => XS.sipush X1.here hx rfl (hb hby d13_38) kz) ?_
  show own_Go p.tables e below _ T1 (mkF m 41 #[.val (.ref ba), .val (.int (Int32.ofNat (2 * i + 1)))] [(.int (255 : Int32)), (.int (f (2 * i)))])
  refine own_go (fun tz kz => XS.iand X1.here hx rfl (hb hby d13_41) rfl kz) ?_
  show own_Go p.tables e below _ T1 (mkF m 42 #[.val (.ref ba), .val (.int (Int32.ofNat (2 * i + 1)))] [(.int ((f (2 * i)) &&& (255 : Int32)))])
  obtain ⟨T3, X3, e3, st3⟩ := getS2 X1 hx hZ hown (host := "") (Or.inl (hw _ (List.mem_of_getElem? (i := 58) rfl))) Via.refl e1 HB (g := (mkF m 42 #[.val (.ref ba), .val (.int (Int32.ofNat (2 * i + 1)))] [(.int ((f (2 * i)) &&& (255 : Int32)))])) rfl (hb hby d13_42)
  refine own_go st3 ?_
  show own_Go p.tables e below _ T3 (mkF m 45 #[.val (.ref ba), .val (.int (Int32.ofNat (2 * i + 1)))] [(.int (0 : Int32)), (.int ((f (2 * i)) &&& (255 : Int32)))])
  refine own_go (fun tz kz => XT.ishl X3.here hx rfl (hb hby d13_45) rfl kz) ?_
  show own_Go p.tables e below _ T3 (mkF m 46 #[.val (.ref ba), .val (.int (Int32.ofNat (2 * i + 1)))] [(.int (((f (2 * i)) &&& (255 : Int32)) <<< ((0 : Int32) &&& 31)))])
  refine own_go (fun tz kz => XS.aloadN X3.here hx rfl (hb hby d13_46) rfl rfl kz) ?_
  show own_Go p.tables e below _ T3 (mkF m 47 #[.val (.ref ba), .val (.int (Int32.ofNat (2 * i + 1)))] [(.ref ba), (.int (((f (2 * i)) &&& (255 : Int32)) <<< ((0 : Int32) &&& 31)))])
  refine own_go (fun tz kz => XS.iloadN X3.here hx rfl (hb hby d13_47) rfl kz) ?_
  show own_Go p.tables e below _ T3 (mkF m 48 #[.val (.ref ba), .val (.int (Int32.ofNat (2 * i + 1)))] [(.int (Int32.ofNat (2 * i + 1))), (.ref ba), (.int (((f (2 * i)) &&& (255 : Int32)) <<< ((0 : Int32) &&& 31)))])
  obtain ⟨c4, Ar4, Sz4, Ge4⟩ := id (Va)
  refine own_go (fun tz kz => X3.baloadBytes hx (j := (Int32.ofNat (2 * i + 1))) (v := (.int (f (2 * i + 1)))) (by rw [e3]; exact Ar4.1) (State.isArrayOf_alike hZ.alike Ar4.2.1) Ar4.2.2 (own_inb Sz4 (own_nat (i := 2 * i + 1) (by omega)) hi) (own_at Ge4 (own_nat (i := 2 * i + 1) (by omega)) hi rfl) (g := (mkF m 48 #[.val (.ref ba), .val (.int (Int32.ofNat (2 * i + 1)))] [(.int (Int32.ofNat (2 * i + 1))), (.ref ba), (.int (((f (2 * i)) &&& (255 : Int32)) <<< ((0 : Int32) &&& 31)))])) rfl rfl (hb hby d13_48) tz kz) ?_
  show own_Go p.tables e below _ T3 (mkF m 49 #[.val (.ref ba), .val (.int (Int32.ofNat (2 * i + 1)))] [(.int (f (2 * i + 1))), (.int (((f (2 * i)) &&& (255 : Int32)) <<< ((0 : Int32) &&& 31)))])
  refine own_go (fun tz kz => XS.sipush X3.here hx rfl (hb hby d13_49) kz) ?_
  show own_Go p.tables e below _ T3 (mkF m 52 #[.val (.ref ba), .val (.int (Int32.ofNat (2 * i + 1)))] [(.int (255 : Int32)), (.int (f (2 * i + 1))), (.int (((f (2 * i)) &&& (255 : Int32)) <<< ((0 : Int32) &&& 31)))])
  refine own_go (fun tz kz => XS.iand X3.here hx rfl (hb hby d13_52) rfl kz) ?_
  show own_Go p.tables e below _ T3 (mkF m 53 #[.val (.ref ba), .val (.int (Int32.ofNat (2 * i + 1)))] [(.int ((f (2 * i + 1)) &&& (255 : Int32))), (.int (((f (2 * i)) &&& (255 : Int32)) <<< ((0 : Int32) &&& 31)))])
  obtain ⟨T5, X5, e5, st5⟩ := getS2 X3 hx hZ hown (host := "") (Or.inl (hw _ (List.mem_of_getElem? (i := 59) rfl))) Via.refl e3 LB (g := (mkF m 53 #[.val (.ref ba), .val (.int (Int32.ofNat (2 * i + 1)))] [(.int ((f (2 * i + 1)) &&& (255 : Int32))), (.int (((f (2 * i)) &&& (255 : Int32)) <<< ((0 : Int32) &&& 31)))])) rfl (hb hby d13_53)
  refine own_go st5 ?_
  show own_Go p.tables e below _ T5 (mkF m 56 #[.val (.ref ba), .val (.int (Int32.ofNat (2 * i + 1)))] [(.int (8 : Int32)), (.int ((f (2 * i + 1)) &&& (255 : Int32))), (.int (((f (2 * i)) &&& (255 : Int32)) <<< ((0 : Int32) &&& 31)))])
  refine own_go (fun tz kz => XT.ishl X5.here hx rfl (hb hby d13_56) rfl kz) ?_
  show own_Go p.tables e below _ T5 (mkF m 57 #[.val (.ref ba), .val (.int (Int32.ofNat (2 * i + 1)))] [(.int (((f (2 * i + 1)) &&& (255 : Int32)) <<< ((8 : Int32) &&& 31))), (.int (((f (2 * i)) &&& (255 : Int32)) <<< ((0 : Int32) &&& 31)))])
  refine own_go (fun tz kz => XT.ior X5.here hx rfl (hb hby d13_57) rfl kz) ?_
  show own_Go p.tables e below _ T5 (mkF m 58 #[.val (.ref ba), .val (.int (Int32.ofNat (2 * i + 1)))] [(.int ((((f (2 * i)) &&& (255 : Int32)) <<< ((0 : Int32) &&& 31)) ||| (((f (2 * i + 1)) &&& (255 : Int32)) <<< ((8 : Int32) &&& 31))))])
  refine own_go (fun tz kz => XT.i2c X5.here hx rfl (hb hby d13_58) rfl kz) ?_
  show own_Go p.tables e below _ T5 (mkF m 59 #[.val (.ref ba), .val (.int (Int32.ofNat (2 * i + 1)))] [(.int ((((f (2 * i)) &&& (255 : Int32)) <<< ((0 : Int32) &&& 31)) ||| (((f (2 * i + 1)) &&& (255 : Int32)) <<< ((8 : Int32) &&& 31))).toUInt32.toUInt16.toUInt32.toInt32)])
  obtain ⟨fs, hr, hrun, hended, hW, hsame⟩ := X5.leave (v := some (.int (nar .char ((((f (2 * i)) &&& (255 : Int32)) <<< ((0 : Int32) &&& 31)) ||| (((f (2 * i + 1)) &&& (255 : Int32)) <<< ((8 : Int32) &&& 31))).toUInt32.toUInt16.toUInt32.toInt32))) (fun h => by rw [Bd.returns] at h; cases h) (BodyLoose.notSynchronized Bd)
  refine ⟨_, _, ?_, hrun, hended, _, _, rfl, ?_, ⟨_, rfl⟩, hW, hsame.mono (by decide) (by decide)⟩
  · exact retN X5 hx (t := .char) Bd.returns (by simp) (hb hby d13_59) hr
  · show Q13 Z ba i mm f h0 n0 _ T5.heap _
    rw [e5]
    exact ⟨congrArg (fun z => some (Value.int z)) (own_ch_ch _), N0, rfl⟩
theorem d8_0 : decode jdk_52_method_21_code 0 = .ok (.iconst 0, 1) := by decide +kernel
theorem d8_1 : decode jdk_52_method_21_code 1 = .ok (.istore 5, 2) := by decide +kernel
theorem d8_3 : decode jdk_52_method_21_code 3 = .ok (.iload 5, 2) := by decide +kernel
theorem d8_5 : decode jdk_52_method_21_code 5 = .ok (.iload 4, 2) := by decide +kernel
theorem d8_7 : decode jdk_52_method_21_code 7 = .ok (.if_icmp .ge 37, 3) := by decide +kernel
theorem d8_10 : decode jdk_52_method_21_code 10 = .ok (.aload_n 0, 1) := by decide +kernel
theorem d8_11 : decode jdk_52_method_21_code 11 = .ok (.iload_n 1, 1) := by decide +kernel
theorem d8_12 : decode jdk_52_method_21_code 12 = .ok (.caload, 1) := by decide +kernel
theorem d8_13 : decode jdk_52_method_21_code 13 = .ok (.istore 6, 2) := by decide +kernel
theorem d8_15 : decode jdk_52_method_21_code 15 = .ok (.iload 6, 2) := by decide +kernel
theorem d8_17 : decode jdk_52_method_21_code 17 = .ok (.sipush 255, 3) := by decide +kernel
theorem d8_20 : decode jdk_52_method_21_code 20 = .ok (.if_icmp .le 6, 3) := by decide +kernel
theorem d8_23 : decode jdk_52_method_21_code 23 = .ok (.iload 5, 2) := by decide +kernel
theorem d8_25 : decode jdk_52_method_21_code 25 = .ok (.ireturn, 1) := by decide +kernel
theorem d8_26 : decode jdk_52_method_21_code 26 = .ok (.aload_n 2, 1) := by decide +kernel
theorem d8_27 : decode jdk_52_method_21_code 27 = .ok (.iload_n 3, 1) := by decide +kernel
theorem d8_28 : decode jdk_52_method_21_code 28 = .ok (.iload 6, 2) := by decide +kernel
theorem d8_30 : decode jdk_52_method_21_code 30 = .ok (.i2b, 1) := by decide +kernel
theorem d8_31 : decode jdk_52_method_21_code 31 = .ok (.bastore, 1) := by decide +kernel
theorem d8_32 : decode jdk_52_method_21_code 32 = .ok (.iinc 1 1, 3) := by decide +kernel
theorem d8_35 : decode jdk_52_method_21_code 35 = .ok (.iinc 3 1, 3) := by decide +kernel
theorem d8_38 : decode jdk_52_method_21_code 38 = .ok (.iinc 5 1, 3) := by decide +kernel
theorem d8_41 : decode jdk_52_method_21_code 41 = .ok (.goto (-38), 3) := by decide +kernel
theorem d8_44 : decode jdk_52_method_21_code 44 = .ok (.iload 4, 2) := by decide +kernel
theorem d8_46 : decode jdk_52_method_21_code 46 = .ok (.ireturn, 1) := by decide +kernel
theorem ef_8 (m : MethodId) {ca : Addr} {da : Addr} {n : Nat} : entryFrame m #[(.ref ca), (.int (0 : Int32)), (.ref da), (.int (0 : Int32)), (.int (Int32.ofNat n))] 7 = mkF m 0 #[.val (.ref ca), .val (.int (0 : Int32)), .val (.ref da), .val (.int (0 : Int32)), .val (.int (Int32.ofNat n)), .unset, .unset] [] := by first | (simp [entryFrame, mkF, argsToLocals, Value.category]; done) | rfl
def Q8 (Z : State) (ca : Addr) (da : Addr) (n : Nat) (ch : Nat → Int32) (f0 : Nat → Int32) (h0 : Heap) (n0 : Nat) (v : Option Value) (h : Heap) (L : List Loc) : Prop := Fr n0 L ∧ ∃ (r : Nat) (f : Nat → Int32), v = some (.int (Int32.ofNat r)) ∧ r ≤ n ∧ (∀ k, k < r → ¬ 255 < own_ch (ch k)) ∧ (r < n → 255 < own_ch (ch r)) ∧ Keep h0 h [da] ∧ own_Av Z h da .byte n (fun k => .int (f k)) ∧ ∀ k, k < r → f k = own_by (own_by (own_ch (ch k)))
set_option maxRecDepth 65536 in
set_option maxHeartbeats 40000000 in
theorem rm8 (l : Launch) (Z : State) (a0 : Array Value) (hw : ∀ d ∈ tables_1, d.before a0 Z = true) (ws : List Jvm.Cond) (ca : Addr) (da : Addr) (n : Nat) (ch : Nat → Int32) (f0 : Nat → Int32) (h0 : Heap) (n0 : Nat) (Z0 : n0 ≤ h0.size) (Va : own_Av Z h0 ca .char n (fun k => .int (own_ch (ch k)))) (Vd : own_Av Z h0 da .byte n (fun k => .int (f0 k))) (hn : n < 4) (g : n0 ≤ da) (hne : ca ≠ da) :
    MetFree l (⟨"java/lang/StringUTF16", "compress", "([CI[BII)I"⟩ : MethodName) (head1 (Jvm.Cond.code (⟨"java/lang/StringUTF16", "compress", "([CI[BII)I"⟩ : MethodName) jdk_52_method_21_code 7 (some .int) :: ws) ({ frames := 0, cells := 0, slots := 0, locals := 0 } : Room)) (fun a U => a = #[(.ref ca), (.int (0 : Int32)), (.ref da), (.int (0 : Int32)), (.int (Int32.ofNat n))] ∧ Z.Warmed39 U.vm ∧ U.heap = h0) (fun _ _ _ _ _ => True) (fun _ U oz U' => ∃ v L, oz = .returned v ∧ Q8 Z ca da n ch f0 h0 n0 v U'.heap L ∧ FrameEnd U oz U' L (({ frames := 0, cells := 0, slots := 0, locals := 0 } : Room)).cells (({ frames := 0, cells := 0, slots := 0, locals := 0 } : Room)).slots) := by
  refine MetFree.of_bodySF (plainFor_of_name pn_1) hisR ?_
  intro p e s m args below meth c s₁ Bd hml0 hP hK
  obtain ⟨rfl, hZ, hh⟩ := hP
  have hx := Bd.exec
  have hby := Bd.bytes
  have hml : c.maxLocals = 7 := hml0
  have hown : s.vm.findClass "java/lang/StringUTF16" = some m.cls := findClass_of_methodNamed Bd.named
  have hnm := (name_of_methodNamed Bd.named Bd.method).1
  have X0 : Stand p l e ({ frames := 0, cells := 0, slots := 0, locals := 0 } : Room) s m #[(.ref ca), (.int (0 : Int32)), (.ref da), (.int (0 : Int32)), (.int (Int32.ofNat n))] below meth c s₁ [] 0 0 := Stand.of_body Bd
  have e0 : s₁.heap = h0 := by rw [← hh, Bd.state]; rfl
  have N0 := Fr.nil n0
  show own_Go p.tables e below (own_P s (Q8 Z ca da n ch f0 h0 n0) ({ frames := 0, cells := 0, slots := 0, locals := 0 } : Room).cells ({ frames := 0, cells := 0, slots := 0, locals := 0 } : Room).slots) s₁ _
  rw [ef_8]
  show own_Go p.tables e below _ s₁ (mkF m 0 #[.val (.ref ca), .val (.int (0 : Int32)), .val (.ref da), .val (.int (0 : Int32)), .val (.int (Int32.ofNat n)), .unset, .unset] [])
  refine own_go (fun tz kz => XS.iconst X0.here hx rfl (hb hby d8_0) kz) ?_
  show own_Go p.tables e below _ s₁ (mkF m 1 #[.val (.ref ca), .val (.int (0 : Int32)), .val (.ref da), .val (.int (0 : Int32)), .val (.int (Int32.ofNat n)), .unset, .unset] [(.int (0 : Int32))])
  refine own_go (fun tz kz => XS.istore X0.here hx rfl (hb hby d8_1) rfl (l' := #[.val (.ref ca), .val (.int (0 : Int32)), .val (.ref da), .val (.int (0 : Int32)), .val (.int (Int32.ofNat n)), .val (.int (0 : Int32)), .unset]) rfl kz) ?_
  show own_Go p.tables e below _ s₁ (mkF m 3 #[.val (.ref ca), .val (.int (0 : Int32)), .val (.ref da), .val (.int (0 : Int32)), .val (.int (Int32.ofNat n)), .val (.int (0 : Int32)), .unset] [])
  have loop : ∀ (k i : Nat) (Tq : State) (hq : Heap) (lq : List Loc) (sl6 : Slot) (f : Nat → Int32), i + k = n → (sl6 = .unset ∨ ∃ z, sl6 = .val (.int z)) → Stand p l e ({ frames := 0, cells := 0, slots := 0, locals := 0 } : Room) s m #[(.ref ca), (.int (0 : Int32)), (.ref da), (.int (0 : Int32)), (.int (Int32.ofNat n))] below meth c Tq lq 0 0 → Tq.heap = hq → Fr n0 lq → Keep h0 hq [da] → own_Av Z hq da .byte n (fun k => .int (f k)) → (∀ k, k < i → f k = own_by (own_by (own_ch (ch k)))) → (∀ k, k < i → ¬ 255 < own_ch (ch k)) → own_Go p.tables e below (own_P s (Q8 Z ca da n ch f0 h0 n0) ({ frames := 0, cells := 0, slots := 0, locals := 0 } : Room).cells ({ frames := 0, cells := 0, slots := 0, locals := 0 } : Room).slots) Tq (mkF m 3 #[.val (.ref ca), .val (.int (Int32.ofNat i)), .val (.ref da), .val (.int (Int32.ofNat i)), .val (.int (Int32.ofNat n)), .val (.int (Int32.ofNat i)), sl6] []) := by
    intro k
    induction k with
    | zero =>
      intro i Tq hq lq sl6 f hi hs6 Xq eq Nq Kq Vq fq lo
      obtain rfl : n = i := by omega
      show own_Go p.tables e below _ Tq (mkF m 3 #[.val (.ref ca), .val (.int (Int32.ofNat n)), .val (.ref da), .val (.int (Int32.ofNat n)), .val (.int (Int32.ofNat n)), .val (.int (Int32.ofNat n)), sl6] [])
      refine own_go (fun tz kz => XS.iload Xq.here hx rfl (hb hby d8_3) rfl kz) ?_
      show own_Go p.tables e below _ Tq (mkF m 5 #[.val (.ref ca), .val (.int (Int32.ofNat n)), .val (.ref da), .val (.int (Int32.ofNat n)), .val (.int (Int32.ofNat n)), .val (.int (Int32.ofNat n)), sl6] [(.int (Int32.ofNat n))])
      refine own_go (fun tz kz => XS.iload Xq.here hx rfl (hb hby d8_5) rfl kz) ?_
      show own_Go p.tables e below _ Tq (mkF m 7 #[.val (.ref ca), .val (.int (Int32.ofNat n)), .val (.ref da), .val (.int (Int32.ofNat n)), .val (.int (Int32.ofNat n)), .val (.int (Int32.ofNat n)), sl6] [(.int (Int32.ofNat n)), (.int (Int32.ofNat n))])
      refine own_go (fun tz kz => XS.icmpYes Xq.here hx rfl (pc0 := 7) (pc' := 44) rfl (hb hby d8_7) rfl (XT.ii_ge_t (fun q => absurd ((own_ltn (by omega) (by omega)).mp q) (by omega))) (by decide) (by decide) kz) ?_
      show own_Go p.tables e below _ Tq (mkF m 44 #[.val (.ref ca), .val (.int (Int32.ofNat n)), .val (.ref da), .val (.int (Int32.ofNat n)), .val (.int (Int32.ofNat n)), .val (.int (Int32.ofNat n)), sl6] [])
      refine own_go (fun tz kz => XS.iload Xq.here hx rfl (hb hby d8_44) rfl kz) ?_
      show own_Go p.tables e below _ Tq (mkF m 46 #[.val (.ref ca), .val (.int (Int32.ofNat n)), .val (.ref da), .val (.int (Int32.ofNat n)), .val (.int (Int32.ofNat n)), .val (.int (Int32.ofNat n)), sl6] [(.int (Int32.ofNat n))])
      obtain ⟨fs, hr, hrun, hended, hW, hsame⟩ := Xq.leave (v := some (.int (Int32.ofNat n))) (fun h => by rw [Bd.returns] at h; cases h) (BodyLoose.notSynchronized Bd)
      refine ⟨_, _, ?_, hrun, hended, _, _, rfl, ?_, ⟨_, rfl⟩, hW, hsame.mono (by decide) (by decide)⟩
      · exact retI Xq hx Bd.returns (hb hby d8_46) hr
      · show Q8 Z ca da n ch f0 h0 n0 _ Tq.heap _
        rw [eq]
        exact ⟨Nq, _, f, rfl, Nat.le_refl _, lo, (fun q => absurd q (Nat.lt_irrefl _)), Kq, Vq, fq⟩
    | succ k ih =>
      intro i Tq hq lq sl6 f hi hs6 Xq eq Nq Kq Vq fq lo
      show own_Go p.tables e below _ Tq (mkF m 3 #[.val (.ref ca), .val (.int (Int32.ofNat i)), .val (.ref da), .val (.int (Int32.ofNat i)), .val (.int (Int32.ofNat n)), .val (.int (Int32.ofNat i)), sl6] [])
      refine own_go (fun tz kz => XS.iload Xq.here hx rfl (hb hby d8_3) rfl kz) ?_
      show own_Go p.tables e below _ Tq (mkF m 5 #[.val (.ref ca), .val (.int (Int32.ofNat i)), .val (.ref da), .val (.int (Int32.ofNat i)), .val (.int (Int32.ofNat n)), .val (.int (Int32.ofNat i)), sl6] [(.int (Int32.ofNat i))])
      refine own_go (fun tz kz => XS.iload Xq.here hx rfl (hb hby d8_5) rfl kz) ?_
      show own_Go p.tables e below _ Tq (mkF m 7 #[.val (.ref ca), .val (.int (Int32.ofNat i)), .val (.ref da), .val (.int (Int32.ofNat i)), .val (.int (Int32.ofNat n)), .val (.int (Int32.ofNat i)), sl6] [(.int (Int32.ofNat n)), (.int (Int32.ofNat i))])
      refine own_go (fun tz kz => XS.icmpNo Xq.here hx rfl (hb hby d8_7) rfl (XT.ii_ge_f ((own_ltn (by omega) (by omega)).mpr (by omega))) kz) ?_
      show own_Go p.tables e below _ Tq (mkF m 10 #[.val (.ref ca), .val (.int (Int32.ofNat i)), .val (.ref da), .val (.int (Int32.ofNat i)), .val (.int (Int32.ofNat n)), .val (.int (Int32.ofNat i)), sl6] [])
      refine own_go (fun tz kz => XS.aloadN Xq.here hx rfl (hb hby d8_10) rfl rfl kz) ?_
      show own_Go p.tables e below _ Tq (mkF m 11 #[.val (.ref ca), .val (.int (Int32.ofNat i)), .val (.ref da), .val (.int (Int32.ofNat i)), .val (.int (Int32.ofNat n)), .val (.int (Int32.ofNat i)), sl6] [(.ref ca)])
      refine own_go (fun tz kz => XS.iloadN Xq.here hx rfl (hb hby d8_11) rfl kz) ?_
      show own_Go p.tables e below _ Tq (mkF m 12 #[.val (.ref ca), .val (.int (Int32.ofNat i)), .val (.ref da), .val (.int (Int32.ofNat i)), .val (.int (Int32.ofNat n)), .val (.int (Int32.ofNat i)), sl6] [(.int (Int32.ofNat i)), (.ref ca)])
      have Va' := Va.keep Kq (own_not1 hne)
      obtain ⟨c1, Ar1, Sz1, Ge1⟩ := id (Va')
      refine own_go (fun tz kz => Xq.caload hx (j := (Int32.ofNat i)) (v := (.int (own_ch (ch i)))) (by rw [eq]; exact Ar1.1) (State.isArrayOf_alike hZ.alike Ar1.2.1) Ar1.2.2 (own_inb Sz1 (own_nat (i := i) (by omega)) (by omega)) (own_at Ge1 (own_nat (i := i) (by omega)) (by omega) rfl) (g := (mkF m 12 #[.val (.ref ca), .val (.int (Int32.ofNat i)), .val (.ref da), .val (.int (Int32.ofNat i)), .val (.int (Int32.ofNat n)), .val (.int (Int32.ofNat i)), sl6] [(.int (Int32.ofNat i)), (.ref ca)])) rfl rfl (hb hby d8_12) tz kz) ?_
      show own_Go p.tables e below _ Tq (mkF m 13 #[.val (.ref ca), .val (.int (Int32.ofNat i)), .val (.ref da), .val (.int (Int32.ofNat i)), .val (.int (Int32.ofNat n)), .val (.int (Int32.ofNat i)), sl6] [(.int (own_ch (ch i)))])
      refine own_go (fun tz kz => XS.istore Xq.here hx rfl (hb hby d8_13) rfl (l' := #[.val (.ref ca), .val (.int (Int32.ofNat i)), .val (.ref da), .val (.int (Int32.ofNat i)), .val (.int (Int32.ofNat n)), .val (.int (Int32.ofNat i)), .val (.int (own_ch (ch i)))]) (by rcases hs6 with rfl | ⟨z, rfl⟩ <;> rfl) kz) ?_
      show own_Go p.tables e below _ Tq (mkF m 15 #[.val (.ref ca), .val (.int (Int32.ofNat i)), .val (.ref da), .val (.int (Int32.ofNat i)), .val (.int (Int32.ofNat n)), .val (.int (Int32.ofNat i)), .val (.int (own_ch (ch i)))] [])
      refine own_go (fun tz kz => XS.iload Xq.here hx rfl (hb hby d8_15) rfl kz) ?_
      show own_Go p.tables e below _ Tq (mkF m 17 #[.val (.ref ca), .val (.int (Int32.ofNat i)), .val (.ref da), .val (.int (Int32.ofNat i)), .val (.int (Int32.ofNat n)), .val (.int (Int32.ofNat i)), .val (.int (own_ch (ch i)))] [(.int (own_ch (ch i)))])
      refine own_go (fun tz kz => XS.sipush Xq.here hx rfl (hb hby d8_17) kz) ?_
      show own_Go p.tables e below _ Tq (mkF m 20 #[.val (.ref ca), .val (.int (Int32.ofNat i)), .val (.ref da), .val (.int (Int32.ofNat i)), .val (.int (Int32.ofNat n)), .val (.int (Int32.ofNat i)), .val (.int (own_ch (ch i)))] [(.int (255 : Int32)), (.int (own_ch (ch i)))])
      by_cases hc : (255 : Int32) < (own_ch (ch i))
      ·
        refine own_go (fun tz kz => XS.icmpNo Xq.here hx rfl (hb hby d8_20) rfl (XT.ii_le_f hc) kz) ?_
        show own_Go p.tables e below _ Tq (mkF m 23 #[.val (.ref ca), .val (.int (Int32.ofNat i)), .val (.ref da), .val (.int (Int32.ofNat i)), .val (.int (Int32.ofNat n)), .val (.int (Int32.ofNat i)), .val (.int (own_ch (ch i)))] [])
        refine own_go (fun tz kz => XS.iload Xq.here hx rfl (hb hby d8_23) rfl kz) ?_
        show own_Go p.tables e below _ Tq (mkF m 25 #[.val (.ref ca), .val (.int (Int32.ofNat i)), .val (.ref da), .val (.int (Int32.ofNat i)), .val (.int (Int32.ofNat n)), .val (.int (Int32.ofNat i)), .val (.int (own_ch (ch i)))] [(.int (Int32.ofNat i))])
        obtain ⟨fs, hr, hrun, hended, hW, hsame⟩ := Xq.leave (v := some (.int (Int32.ofNat i))) (fun h => by rw [Bd.returns] at h; cases h) (BodyLoose.notSynchronized Bd)
        refine ⟨_, _, ?_, hrun, hended, _, _, rfl, ?_, ⟨_, rfl⟩, hW, hsame.mono (by decide) (by decide)⟩
        · exact retI Xq hx Bd.returns (hb hby d8_25) hr
        · show Q8 Z ca da n ch f0 h0 n0 _ Tq.heap _
          rw [eq]
          exact ⟨Nq, i, f, rfl, (by omega), lo, (fun _ => hc), Kq, Vq, fq⟩
      ·
        refine own_go (fun tz kz => XS.icmpYes Xq.here hx rfl (pc0 := 20) (pc' := 26) rfl (hb hby d8_20) rfl (XT.ii_le_t hc) (by decide) (by decide) kz) ?_
        show own_Go p.tables e below _ Tq (mkF m 26 #[.val (.ref ca), .val (.int (Int32.ofNat i)), .val (.ref da), .val (.int (Int32.ofNat i)), .val (.int (Int32.ofNat n)), .val (.int (Int32.ofNat i)), .val (.int (own_ch (ch i)))] [])
        refine own_go (fun tz kz => XS.aloadN Xq.here hx rfl (hb hby d8_26) rfl rfl kz) ?_
        show own_Go p.tables e below _ Tq (mkF m 27 #[.val (.ref ca), .val (.int (Int32.ofNat i)), .val (.ref da), .val (.int (Int32.ofNat i)), .val (.int (Int32.ofNat n)), .val (.int (Int32.ofNat i)), .val (.int (own_ch (ch i)))] [(.ref da)])
        refine own_go (fun tz kz => XS.iloadN Xq.here hx rfl (hb hby d8_27) rfl kz) ?_
        show own_Go p.tables e below _ Tq (mkF m 28 #[.val (.ref ca), .val (.int (Int32.ofNat i)), .val (.ref da), .val (.int (Int32.ofNat i)), .val (.int (Int32.ofNat n)), .val (.int (Int32.ofNat i)), .val (.int (own_ch (ch i)))] [(.int (Int32.ofNat i)), (.ref da)])
        refine own_go (fun tz kz => XS.iload Xq.here hx rfl (hb hby d8_28) rfl kz) ?_
        show own_Go p.tables e below _ Tq (mkF m 30 #[.val (.ref ca), .val (.int (Int32.ofNat i)), .val (.ref da), .val (.int (Int32.ofNat i)), .val (.int (Int32.ofNat n)), .val (.int (Int32.ofNat i)), .val (.int (own_ch (ch i)))] [(.int (own_ch (ch i))), (.int (Int32.ofNat i)), (.ref da)])
        refine own_go (fun tz kz => XT.i2b Xq.here hx rfl (hb hby d8_30) rfl kz) ?_
        show own_Go p.tables e below _ Tq (mkF m 31 #[.val (.ref ca), .val (.int (Int32.ofNat i)), .val (.ref da), .val (.int (Int32.ofNat i)), .val (.int (Int32.ofNat n)), .val (.int (Int32.ofNat i)), .val (.int (own_ch (ch i)))] [(.int (own_ch (ch i)).toInt8.toInt32), (.int (Int32.ofNat i)), (.ref da)])
        obtain ⟨c2, Ar2, Sz2, Ge2⟩ := id (Vq)
        obtain ⟨T2, h2, X2, e2, W2, st2⟩ := stB Xq hx hZ eq Ar2 (j := (Int32.ofNat i)) (own_inb (i := i) Sz2 (own_nat (i := i) (by omega)) (by omega)) (g := (mkF m 31 #[.val (.ref ca), .val (.int (Int32.ofNat i)), .val (.ref da), .val (.int (Int32.ofNat i)), .val (.int (Int32.ofNat n)), .val (.int (Int32.ofNat i)), .val (.int (own_ch (ch i)))] [(.int (own_ch (ch i)).toInt8.toInt32), (.int (Int32.ofNat i)), (.ref da)])) rfl rfl (hb hby d8_31)
        have U := own_Av.set (Vq) W2 ((own_nat (i := i) (by omega)) : ¬ (Int32.ofNat i) < 0 ∧ ((Int32.ofNat i)).toNatClampNeg = i).2
        have N2 := Fr.snoc X2 Nq g
        refine own_go st2 ?_
        show own_Go p.tables e below _ T2 (mkF m 32 #[.val (.ref ca), .val (.int (Int32.ofNat i)), .val (.ref da), .val (.int (Int32.ofNat i)), .val (.int (Int32.ofNat n)), .val (.int (Int32.ofNat i)), .val (.int (own_ch (ch i)))] [])
        refine own_go (fun tz kz => XS.iinc X2.here hx rfl (hb hby d8_32) rfl (l' := #[.val (.ref ca), .val (.int ((Int32.ofNat i) + (1 : Int32))), .val (.ref da), .val (.int (Int32.ofNat i)), .val (.int (Int32.ofNat n)), .val (.int (Int32.ofNat i)), .val (.int (own_ch (ch i)))]) rfl kz) ?_
        show own_Go p.tables e below _ T2 (mkF m 35 #[.val (.ref ca), .val (.int ((Int32.ofNat i) + (1 : Int32))), .val (.ref da), .val (.int (Int32.ofNat i)), .val (.int (Int32.ofNat n)), .val (.int (Int32.ofNat i)), .val (.int (own_ch (ch i)))] [])
        rw [show ((Int32.ofNat i) + (1 : Int32)) = (Int32.ofNat (i + 1)) from own_succ i]
        show own_Go p.tables e below _ T2 (mkF m 35 #[.val (.ref ca), .val (.int (Int32.ofNat (i + 1))), .val (.ref da), .val (.int (Int32.ofNat i)), .val (.int (Int32.ofNat n)), .val (.int (Int32.ofNat i)), .val (.int (own_ch (ch i)))] [])
        refine own_go (fun tz kz => XS.iinc X2.here hx rfl (hb hby d8_35) rfl (l' := #[.val (.ref ca), .val (.int (Int32.ofNat (i + 1))), .val (.ref da), .val (.int ((Int32.ofNat i) + (1 : Int32))), .val (.int (Int32.ofNat n)), .val (.int (Int32.ofNat i)), .val (.int (own_ch (ch i)))]) rfl kz) ?_
        show own_Go p.tables e below _ T2 (mkF m 38 #[.val (.ref ca), .val (.int (Int32.ofNat (i + 1))), .val (.ref da), .val (.int ((Int32.ofNat i) + (1 : Int32))), .val (.int (Int32.ofNat n)), .val (.int (Int32.ofNat i)), .val (.int (own_ch (ch i)))] [])
        rw [show ((Int32.ofNat i) + (1 : Int32)) = (Int32.ofNat (i + 1)) from own_succ i]
        show own_Go p.tables e below _ T2 (mkF m 38 #[.val (.ref ca), .val (.int (Int32.ofNat (i + 1))), .val (.ref da), .val (.int (Int32.ofNat (i + 1))), .val (.int (Int32.ofNat n)), .val (.int (Int32.ofNat i)), .val (.int (own_ch (ch i)))] [])
        refine own_go (fun tz kz => XS.iinc X2.here hx rfl (hb hby d8_38) rfl (l' := #[.val (.ref ca), .val (.int (Int32.ofNat (i + 1))), .val (.ref da), .val (.int (Int32.ofNat (i + 1))), .val (.int (Int32.ofNat n)), .val (.int ((Int32.ofNat i) + (1 : Int32))), .val (.int (own_ch (ch i)))]) rfl kz) ?_
        show own_Go p.tables e below _ T2 (mkF m 41 #[.val (.ref ca), .val (.int (Int32.ofNat (i + 1))), .val (.ref da), .val (.int (Int32.ofNat (i + 1))), .val (.int (Int32.ofNat n)), .val (.int ((Int32.ofNat i) + (1 : Int32))), .val (.int (own_ch (ch i)))] [])
        rw [show ((Int32.ofNat i) + (1 : Int32)) = (Int32.ofNat (i + 1)) from own_succ i]
        show own_Go p.tables e below _ T2 (mkF m 41 #[.val (.ref ca), .val (.int (Int32.ofNat (i + 1))), .val (.ref da), .val (.int (Int32.ofNat (i + 1))), .val (.int (Int32.ofNat n)), .val (.int (Int32.ofNat (i + 1))), .val (.int (own_ch (ch i)))] [])
        refine own_go (fun tz kz => XS.goto X2.here hx rfl (pc0 := 41) (pc' := 3) rfl (hb hby d8_41) (by decide) (by decide) kz) ?_
        show own_Go p.tables e below _ T2 (mkF m 3 #[.val (.ref ca), .val (.int (Int32.ofNat (i + 1))), .val (.ref da), .val (.int (Int32.ofNat (i + 1))), .val (.int (Int32.ofNat n)), .val (.int (Int32.ofNat (i + 1))), .val (.int (own_ch (ch i)))] [])
        exact ih (i + 1) _ _ _ _ (fun k => if k = i then own_by (own_by (own_ch (ch i))) else f k) (by omega) (Or.inr ⟨_, rfl⟩) X2 e2 N2 (Kq.wr W2 (Or.inl (List.mem_singleton.mpr rfl))) (own_Av.eq U (fun k _ => by by_cases q : k = i <;> simp [q] <;> rfl)) (fun k hk => by by_cases q : k = i <;> simp [q]; exact fq k (by omega)) (fun k hk => (by omega : k = i ∨ k < i).elim (fun q => q ▸ hc) (lo k))
  exact loop n 0 _ _ _ _ f0 (by omega) (Or.inl rfl) X0 e0 N0 (Keep.refl _ _) Vd (fun k hk => absurd hk (Nat.not_lt_zero k)) (fun k hk => absurd hk (Nat.not_lt_zero k))
theorem d9_0 : decode jdk_52_method_14_code 0 = .ok (.iload_n 2, 1) := by decide +kernel
theorem d9_1 : decode jdk_52_method_14_code 1 = .ok (.invokestatic 107, 3) := by decide +kernel
theorem d9_4 : decode jdk_52_method_14_code 4 = .ok (.astore_n 3, 1) := by decide +kernel
theorem d9_5 : decode jdk_52_method_14_code 5 = .ok (.iconst 0, 1) := by decide +kernel
theorem d9_6 : decode jdk_52_method_14_code 6 = .ok (.istore 4, 2) := by decide +kernel
theorem d9_8 : decode jdk_52_method_14_code 8 = .ok (.iload 4, 2) := by decide +kernel
theorem d9_10 : decode jdk_52_method_14_code 10 = .ok (.iload_n 2, 1) := by decide +kernel
theorem d9_11 : decode jdk_52_method_14_code 11 = .ok (.if_icmp .ge 21, 3) := by decide +kernel
theorem d9_14 : decode jdk_52_method_14_code 14 = .ok (.aload_n 3, 1) := by decide +kernel
theorem d9_15 : decode jdk_52_method_14_code 15 = .ok (.iload 4, 2) := by decide +kernel
theorem d9_17 : decode jdk_52_method_14_code 17 = .ok (.aload_n 0, 1) := by decide +kernel
theorem d9_18 : decode jdk_52_method_14_code 18 = .ok (.iload_n 1, 1) := by decide +kernel
theorem d9_19 : decode jdk_52_method_14_code 19 = .ok (.caload, 1) := by decide +kernel
theorem d9_20 : decode jdk_52_method_14_code 20 = .ok (.invokestatic 111, 3) := by decide +kernel
theorem d9_23 : decode jdk_52_method_14_code 23 = .ok (.iinc 1 1, 3) := by decide +kernel
theorem d9_26 : decode jdk_52_method_14_code 26 = .ok (.iinc 4 1, 3) := by decide +kernel
theorem d9_29 : decode jdk_52_method_14_code 29 = .ok (.goto (-21), 3) := by decide +kernel
theorem d9_32 : decode jdk_52_method_14_code 32 = .ok (.aload_n 3, 1) := by decide +kernel
theorem d9_33 : decode jdk_52_method_14_code 33 = .ok (.areturn, 1) := by decide +kernel
theorem pd_1 : parseMethodDescriptor "(I)[B" = some ⟨[.int], some (.array .byte)⟩ := by decide +kernel
theorem pd_2 : parseMethodDescriptor "([BII)V" = some ⟨[(.array .byte), .int, .int], none⟩ := by decide +kernel
theorem ef_9 (m : MethodId) {ca : Addr} {n : Nat} : entryFrame m #[(.ref ca), (.int (0 : Int32)), (.int (Int32.ofNat n))] 5 = mkF m 0 #[.val (.ref ca), .val (.int (0 : Int32)), .val (.int (Int32.ofNat n)), .unset, .unset] [] := by first | (simp [entryFrame, mkF, argsToLocals, Value.category]; done) | rfl
def Q9 (Z : State) (ca : Addr) (n : Nat) (ch : Nat → Int32) (ba : Addr) (h0 : Heap) (n0 : Nat) (v : Option Value) (h : Heap) (L : List Loc) : Prop := Fr n0 L ∧ ∃ (f : Nat → Int32), v = some (.ref ba) ∧ Keep h0 h [] ∧ own_Av Z h ba .byte (2 * n) (fun k => .int (f k)) ∧ ∀ k, k < n → f (2 * k) = own_by (own_by (own_ch (ch k) >>> ((0 : Int32) &&& 31))) ∧ f (2 * k + 1) = own_by (own_by (own_ch (ch k) >>> ((8 : Int32) &&& 31)))
set_option maxRecDepth 65536 in
set_option maxHeartbeats 40000000 in
theorem rm9 (l : Launch) (Z : State) (a0 : Array Value) (hw : ∀ d ∈ tables_1, d.before a0 Z = true) (ws : List Jvm.Cond) (ca : Addr) (n : Nat) (ch : Nat → Int32) (ba : Addr) (h0 : Heap) (n0 : Nat) (Z0 : n0 ≤ h0.size) (AD : Sta Z Z.heap "java/lang/StringUTF16" "$assertionsDisabled" "Z" (.int 1)) (HB : Sta Z Z.heap "java/lang/StringUTF16" "HI_BYTE_SHIFT" "I" (.int 0)) (LB : Sta Z Z.heap "java/lang/StringUTF16" "LO_BYTE_SHIFT" "I" (.int 8)) (O0 : Old Z n0 h0) (Va : own_Av Z h0 ca .char n (fun k => .int (own_ch (ch k)))) (hn : n < 4) (eb : ba = h0.size) :
    MetFree l (⟨"java/lang/StringUTF16", "toBytes", "([CII)[B"⟩ : MethodName) (head1 (Jvm.Cond.code (⟨"java/lang/StringUTF16", "toBytes", "([CII)[B"⟩ : MethodName) jdk_52_method_14_code 5 (some (.array .byte)) :: ws) ({ frames := 2, cells := 1, slots := 6, locals := 24 } : Room)) (fun a U => a = #[(.ref ca), (.int (0 : Int32)), (.int (Int32.ofNat n))] ∧ Z.Warmed39 U.vm ∧ U.heap = h0) (fun _ _ _ _ _ => True) (fun _ U oz U' => ∃ v L, oz = .returned v ∧ Q9 Z ca n ch ba h0 n0 v U'.heap L ∧ FrameEnd U oz U' L (({ frames := 2, cells := 1, slots := 6, locals := 24 } : Room)).cells (({ frames := 2, cells := 1, slots := 6, locals := 24 } : Room)).slots) := by
  refine MetFree.of_bodySF (plainFor_of_name pn_1) hisR ?_
  intro p e s m args below meth c s₁ Bd hml0 hP hK
  obtain ⟨rfl, hZ, hh⟩ := hP
  have hx := Bd.exec
  have hby := Bd.bytes
  have hml : c.maxLocals = 5 := hml0
  have hown : s.vm.findClass "java/lang/StringUTF16" = some m.cls := findClass_of_methodNamed Bd.named
  have hnm := (name_of_methodNamed Bd.named Bd.method).1
  have X0 : Stand p l e ({ frames := 2, cells := 1, slots := 6, locals := 24 } : Room) s m #[(.ref ca), (.int (0 : Int32)), (.int (Int32.ofNat n))] below meth c s₁ [] 0 0 := Stand.of_body Bd
  have e0 : s₁.heap = h0 := by rw [← hh, Bd.state]; rfl
  have N0 := Fr.nil n0
  show own_Go p.tables e below (own_P s (Q9 Z ca n ch ba h0 n0) ({ frames := 2, cells := 1, slots := 6, locals := 24 } : Room).cells ({ frames := 2, cells := 1, slots := 6, locals := 24 } : Room).slots) s₁ _
  rw [ef_9]
  show own_Go p.tables e below _ s₁ (mkF m 0 #[.val (.ref ca), .val (.int (0 : Int32)), .val (.int (Int32.ofNat n)), .unset, .unset] [])
  refine own_go (fun tz kz => XS.iloadN X0.here hx rfl (hb hby d9_0) rfl kz) ?_
  show own_Go p.tables e below _ s₁ (mkF m 1 #[.val (.ref ca), .val (.int (0 : Int32)), .val (.int (Int32.ofNat n)), .unset, .unset] [(.int (Int32.ofNat n))])
  obtain ⟨_, _, ⟨T1, L1, k1, n1⟩, -, X1, ⟨Lc1, hQ1, l1, y1, z1⟩, st1⟩ := Jvm.LawKit.callS X0 hx (y := (⟨"java/lang/StringUTF16", "newBytesFor", "(I)[B"⟩ : MethodName)) hown (mvT hZ (hw _ (List.mem_of_getElem? (i := 47) rfl))) (mvT hZ (hw _ (List.mem_of_getElem? (i := 48) rfl))) (mvT hZ (hw _ (List.mem_of_getElem? (i := 39) rfl))) (mvT hZ (hw _ (List.mem_of_getElem? (i := 49) rfl))) (by decide) (backOf (W := 0) (rm10 l Z a0 hw [] n ba h0 n0 Z0 hn eb) hZ (hw _ (List.mem_of_getElem? (i := 49) rfl)) (hw _ (List.mem_of_getElem? (i := 39) rfl)) (by decide) (by decide)) (g := (mkF m 1 #[.val (.ref ca), .val (.int (0 : Int32)), .val (.int (Int32.ofNat n)), .unset, .unset] [(.int (Int32.ofNat n))])) rfl (by rw [hml]; rfl) (argsL := [(.int (Int32.ofNat n))]) (rest := []) (lenOf pd_1 rfl) rfl (by show 2 * 0 + _ ≤ _; exact Nat.le_of_eq rfl) (hb hby d9_1) (fun _ _ => ⟨rfl, e0, (by decide : 0 + 1 ≤ _), (by decide : 0 + 6 ≤ _)⟩)
  dsimp only [Pt.U, Pt.locs, Pt.cells, Pt.slots] at X1 l1 y1 z1 st1 hQ1
  subst l1 y1 z1
  obtain ⟨rfl, N1q, E1, Vb⟩ := hQ1
  have N1 := Fr.app N0 N1q
  refine own_go (fun tz kz => st1 tz kz) ?_
  show own_Go p.tables e below _ T1 (mkF m 4 #[.val (.ref ca), .val (.int (0 : Int32)), .val (.int (Int32.ofNat n)), .unset, .unset] [(.ref ba)])
  have g : n0 ≤ ba := Nat.le_trans Z0 (Nat.le_of_eq eb.symm)
  have hne : ca ≠ ba := Nat.ne_of_lt (Nat.lt_of_lt_of_le Va.lt (Nat.le_of_eq eb.symm))
  have K0 := (Keep.refl h0 []).ext E1
  have Oz := O0.ext E1
  have Vc := Va.ext E1
  refine own_go (fun tz kz => XS.astoreN X1.here hx rfl (hb hby d9_4) rfl rfl (l' := #[.val (.ref ca), .val (.int (0 : Int32)), .val (.int (Int32.ofNat n)), .val (.ref ba), .unset]) rfl kz) ?_
  show own_Go p.tables e below _ T1 (mkF m 5 #[.val (.ref ca), .val (.int (0 : Int32)), .val (.int (Int32.ofNat n)), .val (.ref ba), .unset] [])
  refine own_go (fun tz kz => XS.iconst X1.here hx rfl (hb hby d9_5) kz) ?_
  show own_Go p.tables e below _ T1 (mkF m 6 #[.val (.ref ca), .val (.int (0 : Int32)), .val (.int (Int32.ofNat n)), .val (.ref ba), .unset] [(.int (0 : Int32))])
  refine own_go (fun tz kz => XS.istore X1.here hx rfl (hb hby d9_6) rfl (l' := #[.val (.ref ca), .val (.int (0 : Int32)), .val (.int (Int32.ofNat n)), .val (.ref ba), .val (.int (0 : Int32))]) rfl kz) ?_
  show own_Go p.tables e below _ T1 (mkF m 8 #[.val (.ref ca), .val (.int (0 : Int32)), .val (.int (Int32.ofNat n)), .val (.ref ba), .val (.int (0 : Int32))] [])
  have loop : ∀ (k i : Nat) (Tq : State) (hq : Heap) (lq : List Loc) (f : Nat → Int32), i + k = n → Stand p l e ({ frames := 2, cells := 1, slots := 6, locals := 24 } : Room) s m #[(.ref ca), (.int (0 : Int32)), (.int (Int32.ofNat n))] below meth c Tq lq 1 6 → Tq.heap = hq → Fr n0 lq → Keep h0 hq [] → Old Z n0 hq → own_Av Z hq ca .char n (fun k => .int (own_ch (ch k))) → own_Av Z hq ba .byte (2 * n) (fun k => .int (f k)) → (∀ k, k < i → f (2 * k) = own_by (own_by (own_ch (ch k) >>> ((0 : Int32) &&& 31))) ∧ f (2 * k + 1) = own_by (own_by (own_ch (ch k) >>> ((8 : Int32) &&& 31)))) → own_Go p.tables e below (own_P s (Q9 Z ca n ch ba h0 n0) ({ frames := 2, cells := 1, slots := 6, locals := 24 } : Room).cells ({ frames := 2, cells := 1, slots := 6, locals := 24 } : Room).slots) Tq (mkF m 8 #[.val (.ref ca), .val (.int (Int32.ofNat i)), .val (.int (Int32.ofNat n)), .val (.ref ba), .val (.int (Int32.ofNat i))] []) := by
    intro k
    induction k with
    | zero =>
      intro i Tq hq lq f hi Xq eq Nq Kq Oq Vq Vq' fq
      obtain rfl : n = i := by omega
      show own_Go p.tables e below _ Tq (mkF m 8 #[.val (.ref ca), .val (.int (Int32.ofNat n)), .val (.int (Int32.ofNat n)), .val (.ref ba), .val (.int (Int32.ofNat n))] [])
      refine own_go (fun tz kz => XS.iload Xq.here hx rfl (hb hby d9_8) rfl kz) ?_
      show own_Go p.tables e below _ Tq (mkF m 10 #[.val (.ref ca), .val (.int (Int32.ofNat n)), .val (.int (Int32.ofNat n)), .val (.ref ba), .val (.int (Int32.ofNat n))] [(.int (Int32.ofNat n))])
      refine own_go (fun tz kz => XS.iloadN Xq.here hx rfl (hb hby d9_10) rfl kz) ?_
      show own_Go p.tables e below _ Tq (mkF m 11 #[.val (.ref ca), .val (.int (Int32.ofNat n)), .val (.int (Int32.ofNat n)), .val (.ref ba), .val (.int (Int32.ofNat n))] [(.int (Int32.ofNat n)), (.int (Int32.ofNat n))])
      refine own_go (fun tz kz => XS.icmpYes Xq.here hx rfl (pc0 := 11) (pc' := 32) rfl (hb hby d9_11) rfl (XT.ii_ge_t (fun q => absurd ((own_ltn (by omega) (by omega)).mp q) (by omega))) (by decide) (by decide) kz) ?_
      show own_Go p.tables e below _ Tq (mkF m 32 #[.val (.ref ca), .val (.int (Int32.ofNat n)), .val (.int (Int32.ofNat n)), .val (.ref ba), .val (.int (Int32.ofNat n))] [])
      refine own_go (fun tz kz => XS.aloadN Xq.here hx rfl (hb hby d9_32) rfl rfl kz) ?_
      show own_Go p.tables e below _ Tq (mkF m 33 #[.val (.ref ca), .val (.int (Int32.ofNat n)), .val (.int (Int32.ofNat n)), .val (.ref ba), .val (.int (Int32.ofNat n))] [(.ref ba)])
      obtain ⟨fs, hr, hrun, hended, hW, hsame⟩ := Xq.leave (v := some (.ref ba)) (fun h => by rw [Bd.returns] at h; cases h) (BodyLoose.notSynchronized Bd)
      refine ⟨_, _, ?_, hrun, hended, _, _, rfl, ?_, ⟨_, rfl⟩, hW, hsame.mono (by decide) (by decide)⟩
      · exact retOut Xq hx Bd.returns rfl (Or.inr (Or.inr (Or.inr (Or.inr ⟨rfl, rfl, rfl⟩)))) (hb hby d9_33) hr
      · show Q9 Z ca n ch ba h0 n0 _ Tq.heap _
        rw [eq]
        exact ⟨Nq, f, rfl, Kq, Vq', fq⟩
    | succ k ih =>
      intro i Tq hq lq f hi Xq eq Nq Kq Oq Vq Vq' fq
      show own_Go p.tables e below _ Tq (mkF m 8 #[.val (.ref ca), .val (.int (Int32.ofNat i)), .val (.int (Int32.ofNat n)), .val (.ref ba), .val (.int (Int32.ofNat i))] [])
      refine own_go (fun tz kz => XS.iload Xq.here hx rfl (hb hby d9_8) rfl kz) ?_
      show own_Go p.tables e below _ Tq (mkF m 10 #[.val (.ref ca), .val (.int (Int32.ofNat i)), .val (.int (Int32.ofNat n)), .val (.ref ba), .val (.int (Int32.ofNat i))] [(.int (Int32.ofNat i))])
      refine own_go (fun tz kz => XS.iloadN Xq.here hx rfl (hb hby d9_10) rfl kz) ?_
      show own_Go p.tables e below _ Tq (mkF m 11 #[.val (.ref ca), .val (.int (Int32.ofNat i)), .val (.int (Int32.ofNat n)), .val (.ref ba), .val (.int (Int32.ofNat i))] [(.int (Int32.ofNat n)), (.int (Int32.ofNat i))])
      refine own_go (fun tz kz => XS.icmpNo Xq.here hx rfl (hb hby d9_11) rfl (XT.ii_ge_f ((own_ltn (by omega) (by omega)).mpr (by omega))) kz) ?_
      show own_Go p.tables e below _ Tq (mkF m 14 #[.val (.ref ca), .val (.int (Int32.ofNat i)), .val (.int (Int32.ofNat n)), .val (.ref ba), .val (.int (Int32.ofNat i))] [])
      refine own_go (fun tz kz => XS.aloadN Xq.here hx rfl (hb hby d9_14) rfl rfl kz) ?_
      show own_Go p.tables e below _ Tq (mkF m 15 #[.val (.ref ca), .val (.int (Int32.ofNat i)), .val (.int (Int32.ofNat n)), .val (.ref ba), .val (.int (Int32.ofNat i))] [(.ref ba)])
      refine own_go (fun tz kz => XS.iload Xq.here hx rfl (hb hby d9_15) rfl kz) ?_
      show own_Go p.tables e below _ Tq (mkF m 17 #[.val (.ref ca), .val (.int (Int32.ofNat i)), .val (.int (Int32.ofNat n)), .val (.ref ba), .val (.int (Int32.ofNat i))] [(.int (Int32.ofNat i)), (.ref ba)])
      refine own_go (fun tz kz => XS.aloadN Xq.here hx rfl (hb hby d9_17) rfl rfl kz) ?_
      show own_Go p.tables e below _ Tq (mkF m 18 #[.val (.ref ca), .val (.int (Int32.ofNat i)), .val (.int (Int32.ofNat n)), .val (.ref ba), .val (.int (Int32.ofNat i))] [(.ref ca), (.int (Int32.ofNat i)), (.ref ba)])
      refine own_go (fun tz kz => XS.iloadN Xq.here hx rfl (hb hby d9_18) rfl kz) ?_
      show own_Go p.tables e below _ Tq (mkF m 19 #[.val (.ref ca), .val (.int (Int32.ofNat i)), .val (.int (Int32.ofNat n)), .val (.ref ba), .val (.int (Int32.ofNat i))] [(.int (Int32.ofNat i)), (.ref ca), (.int (Int32.ofNat i)), (.ref ba)])
      obtain ⟨c2, Ar2, Sz2, Ge2⟩ := id (Vq)
      refine own_go (fun tz kz => Xq.caload hx (j := (Int32.ofNat i)) (v := (.int (own_ch (ch i)))) (by rw [eq]; exact Ar2.1) (State.isArrayOf_alike hZ.alike Ar2.2.1) Ar2.2.2 (own_inb Sz2 (own_nat (i := i) (by omega)) (by omega)) (own_at Ge2 (own_nat (i := i) (by omega)) (by omega) rfl) (g := (mkF m 19 #[.val (.ref ca), .val (.int (Int32.ofNat i)), .val (.int (Int32.ofNat n)), .val (.ref ba), .val (.int (Int32.ofNat i))] [(.int (Int32.ofNat i)), (.ref ca), (.int (Int32.ofNat i)), (.ref ba)])) rfl rfl (hb hby d9_19) tz kz) ?_
      show own_Go p.tables e below _ Tq (mkF m 20 #[.val (.ref ca), .val (.int (Int32.ofNat i)), .val (.int (Int32.ofNat n)), .val (.ref ba), .val (.int (Int32.ofNat i))] [(.int (own_ch (ch i))), (.int (Int32.ofNat i)), (.ref ba)])
      obtain ⟨_, _, ⟨T3, L3, k3, n3⟩, -, X3, ⟨Lc3, hQ3, l3, y3, z3⟩, st3⟩ := Jvm.LawKit.callS Xq hx (y := (⟨"java/lang/StringUTF16", "putChar", "([BII)V"⟩ : MethodName)) hown (mvT hZ (hw _ (List.mem_of_getElem? (i := 54) rfl))) (mvT hZ (hw _ (List.mem_of_getElem? (i := 55) rfl))) (mvT hZ (hw _ (List.mem_of_getElem? (i := 39) rfl))) (mvT hZ (hw _ (List.mem_of_getElem? (i := 56) rfl))) (by decide) (backOf (W := 0) (rm12 l Z a0 hw [] ba i (own_ch (ch i)) (2 * n) f hq n0 (Nat.le_trans Z0 Kq.1) (AD.ext Oq.2) (HB.ext Oq.2) (LB.ext Oq.2) Vq' (by omega) (by omega) g) hZ (hw _ (List.mem_of_getElem? (i := 56) rfl)) (hw _ (List.mem_of_getElem? (i := 39) rfl)) (by decide) (by decide)) (g := (mkF m 20 #[.val (.ref ca), .val (.int (Int32.ofNat i)), .val (.int (Int32.ofNat n)), .val (.ref ba), .val (.int (Int32.ofNat i))] [(.int (own_ch (ch i))), (.int (Int32.ofNat i)), (.ref ba)])) rfl (by rw [hml]; rfl) (argsL := [(.ref ba), (.int (Int32.ofNat i)), (.int (own_ch (ch i)))]) (rest := []) (lenOf pd_2 rfl) rfl (by show 2 * 0 + _ ≤ _; exact Nat.le_of_eq rfl) (hb hby d9_20) (fun _ _ => ⟨rfl, eq, (by decide : 1 + 0 ≤ _), (by decide : 6 + 0 ≤ _)⟩)
      dsimp only [Pt.U, Pt.locs, Pt.cells, Pt.slots] at X3 l3 y3 z3 st3 hQ3
      subst l3 y3 z3
      obtain ⟨rfl, N3q, K3, Vp⟩ := hQ3
      have N3 := Fr.app Nq N3q
      refine own_go (fun tz kz => st3 tz kz) ?_
      show own_Go p.tables e below _ T3 (mkF m 23 #[.val (.ref ca), .val (.int (Int32.ofNat i)), .val (.int (Int32.ofNat n)), .val (.ref ba), .val (.int (Int32.ofNat i))] [])
      have Kn := own_keep1 Kq K3 (Nat.le_of_eq eb.symm)
      refine own_go (fun tz kz => XS.iinc X3.here hx rfl (hb hby d9_23) rfl (l' := #[.val (.ref ca), .val (.int ((Int32.ofNat i) + (1 : Int32))), .val (.int (Int32.ofNat n)), .val (.ref ba), .val (.int (Int32.ofNat i))]) rfl kz) ?_
      show own_Go p.tables e below _ T3 (mkF m 26 #[.val (.ref ca), .val (.int ((Int32.ofNat i) + (1 : Int32))), .val (.int (Int32.ofNat n)), .val (.ref ba), .val (.int (Int32.ofNat i))] [])
      rw [show ((Int32.ofNat i) + (1 : Int32)) = (Int32.ofNat (i + 1)) from own_succ i]
      show own_Go p.tables e below _ T3 (mkF m 26 #[.val (.ref ca), .val (.int (Int32.ofNat (i + 1))), .val (.int (Int32.ofNat n)), .val (.ref ba), .val (.int (Int32.ofNat i))] [])
      refine own_go (fun tz kz => XS.iinc X3.here hx rfl (hb hby d9_26) rfl (l' := #[.val (.ref ca), .val (.int (Int32.ofNat (i + 1))), .val (.int (Int32.ofNat n)), .val (.ref ba), .val (.int ((Int32.ofNat i) + (1 : Int32)))]) rfl kz) ?_
      show own_Go p.tables e below _ T3 (mkF m 29 #[.val (.ref ca), .val (.int (Int32.ofNat (i + 1))), .val (.int (Int32.ofNat n)), .val (.ref ba), .val (.int ((Int32.ofNat i) + (1 : Int32)))] [])
      rw [show ((Int32.ofNat i) + (1 : Int32)) = (Int32.ofNat (i + 1)) from own_succ i]
      show own_Go p.tables e below _ T3 (mkF m 29 #[.val (.ref ca), .val (.int (Int32.ofNat (i + 1))), .val (.int (Int32.ofNat n)), .val (.ref ba), .val (.int (Int32.ofNat (i + 1)))] [])
      refine own_go (fun tz kz => XS.goto X3.here hx rfl (pc0 := 29) (pc' := 8) rfl (hb hby d9_29) (by decide) (by decide) kz) ?_
      show own_Go p.tables e below _ T3 (mkF m 8 #[.val (.ref ca), .val (.int (Int32.ofNat (i + 1))), .val (.int (Int32.ofNat n)), .val (.ref ba), .val (.int (Int32.ofNat (i + 1)))] [])
      exact ih (i + 1) _ _ _ _ (by omega) X3 rfl N3 Kn (Oq.keep K3 (fun x hx => by cases List.mem_singleton.mp hx; exact g)) (Vq.keep K3 (own_not1 hne)) Vp (fun k hk => (by omega : k = i ∨ k < i).elim (fun q => by subst q; exact ⟨by simp, by simp⟩) (fun q => by have t := fq k q; simp [show ¬ 2 * k = 2 * i + 1 by omega, show ¬ k = i by omega, show ¬ 2 * k = 2 * i by omega, show ¬ 2 * k + 1 = 2 * i by omega, t]))
  exact loop n 0 _ _ _ (fun _ => 0) (by omega) X1 rfl N1 K0 Oz Vc Vb (fun k hk => absurd hk (Nat.not_lt_zero k))
theorem d7_0 : decode jdk_52_method_16_code 0 = .ok (.iload_n 2, 1) := by decide +kernel
theorem d7_1 : decode jdk_52_method_16_code 1 = .ok (.newarray .byte, 2) := by decide +kernel
theorem d7_3 : decode jdk_52_method_16_code 3 = .ok (.astore_n 3, 1) := by decide +kernel
theorem d7_4 : decode jdk_52_method_16_code 4 = .ok (.aload_n 0, 1) := by decide +kernel
theorem d7_5 : decode jdk_52_method_16_code 5 = .ok (.iload_n 1, 1) := by decide +kernel
theorem d7_6 : decode jdk_52_method_16_code 6 = .ok (.aload_n 3, 1) := by decide +kernel
theorem d7_7 : decode jdk_52_method_16_code 7 = .ok (.iconst 0, 1) := by decide +kernel
theorem d7_8 : decode jdk_52_method_16_code 8 = .ok (.iload_n 2, 1) := by decide +kernel
theorem d7_9 : decode jdk_52_method_16_code 9 = .ok (.invokestatic 115, 3) := by decide +kernel
theorem d7_12 : decode jdk_52_method_16_code 12 = .ok (.istore 4, 2) := by decide +kernel
theorem d7_14 : decode jdk_52_method_16_code 14 = .ok (.iload 4, 2) := by decide +kernel
theorem d7_16 : decode jdk_52_method_16_code 16 = .ok (.iload_n 2, 1) := by decide +kernel
theorem d7_17 : decode jdk_52_method_16_code 17 = .ok (.if_icmp .eq 40, 3) := by decide +kernel
theorem d7_20 : decode jdk_52_method_16_code 20 = .ok (.aload_n 0, 1) := by decide +kernel
theorem d7_21 : decode jdk_52_method_16_code 21 = .ok (.iload_n 1, 1) := by decide +kernel
theorem d7_22 : decode jdk_52_method_16_code 22 = .ok (.iload_n 2, 1) := by decide +kernel
theorem d7_23 : decode jdk_52_method_16_code 23 = .ok (.invokestatic 119, 3) := by decide +kernel
theorem d7_26 : decode jdk_52_method_16_code 26 = .ok (.astore 5, 2) := by decide +kernel
theorem d7_28 : decode jdk_52_method_16_code 28 = .ok (.aload 5, 2) := by decide +kernel
theorem d7_30 : decode jdk_52_method_16_code 30 = .ok (.iload 4, 2) := by decide +kernel
theorem d7_32 : decode jdk_52_method_16_code 32 = .ok (.invokestatic 71, 3) := by decide +kernel
theorem d7_35 : decode jdk_52_method_16_code 35 = .ok (.sipush 255, 3) := by decide +kernel
theorem d7_38 : decode jdk_52_method_16_code 38 = .ok (.if_icmp .gt 16, 3) := by decide +kernel
theorem d7_41 : decode jdk_52_method_16_code 41 = .ok (.aload 5, 2) := by decide +kernel
theorem d7_43 : decode jdk_52_method_16_code 43 = .ok (.iconst 0, 1) := by decide +kernel
theorem d7_44 : decode jdk_52_method_16_code 44 = .ok (.aload_n 3, 1) := by decide +kernel
theorem d7_45 : decode jdk_52_method_16_code 45 = .ok (.iconst 0, 1) := by decide +kernel
theorem d7_46 : decode jdk_52_method_16_code 46 = .ok (.iload_n 2, 1) := by decide +kernel
theorem d7_47 : decode jdk_52_method_16_code 47 = .ok (.invokestatic 123, 3) := by decide +kernel
theorem d7_50 : decode jdk_52_method_16_code 50 = .ok (.iload_n 2, 1) := by decide +kernel
theorem d7_51 : decode jdk_52_method_16_code 51 = .ok (.if_icmp .eq 6, 3) := by decide +kernel
theorem d7_54 : decode jdk_52_method_16_code 54 = .ok (.aload 5, 2) := by decide +kernel
theorem d7_56 : decode jdk_52_method_16_code 56 = .ok (.areturn, 1) := by decide +kernel
theorem d7_57 : decode jdk_52_method_16_code 57 = .ok (.aload_n 3, 1) := by decide +kernel
theorem d7_58 : decode jdk_52_method_16_code 58 = .ok (.areturn, 1) := by decide +kernel
theorem pd_3 : parseMethodDescriptor "([CI[BII)I" = some ⟨[(.array .char), .int, (.array .byte), .int, .int], some .int⟩ := by decide +kernel
theorem pd_4 : parseMethodDescriptor "([CII)[B" = some ⟨[(.array .char), .int, .int], some (.array .byte)⟩ := by decide +kernel
theorem pd_5 : parseMethodDescriptor "([BI)C" = some ⟨[(.array .byte), .int], some .char⟩ := by decide +kernel
theorem ef_7 (m : MethodId) {ca : Addr} {n : Nat} : entryFrame m #[(.ref ca), (.int (0 : Int32)), (.int (Int32.ofNat n))] 6 = mkF m 0 #[.val (.ref ca), .val (.int (0 : Int32)), .val (.int (Int32.ofNat n)), .unset, .unset, .unset] [] := by first | (simp [entryFrame, mkF, argsToLocals, Value.category]; done) | rfl
def Q7 (Z : State) (ca : Addr) (n : Nat) (ch : Nat → Int32) (h0 : Heap) (n0 : Nat) (v : Option Value) (h : Heap) (L : List Loc) : Prop := Fr n0 L ∧ ∃ (va : Addr) (mm : Nat) (cd : Int32), v = some (.ref va) ∧ Keep h0 h [] ∧ n0 ≤ va ∧ h0.size ≤ va ∧ own_Bs Z h va n ch mm cd
set_option maxRecDepth 65536 in
set_option maxHeartbeats 40000000 in
theorem rm7 (l : Launch) (Z : State) (a0 : Array Value) (hw : ∀ d ∈ tables_1, d.before a0 Z = true) (ws : List Jvm.Cond) (ca : Addr) (n : Nat) (ch : Nat → Int32) (h0 : Heap) (n0 : Nat) (Z0 : n0 ≤ h0.size) (AD : Sta Z Z.heap "java/lang/StringUTF16" "$assertionsDisabled" "Z" (.int 1)) (HB : Sta Z Z.heap "java/lang/StringUTF16" "HI_BYTE_SHIFT" "I" (.int 0)) (LB : Sta Z Z.heap "java/lang/StringUTF16" "LO_BYTE_SHIFT" "I" (.int 8)) (O0 : Old Z n0 h0) (Va : own_Av Z h0 ca .char n (fun k => .int (own_ch (ch k)))) (hn : n < 4) :
    MetFree l (⟨"java/lang/StringUTF16", "compress", "([CII)[B"⟩ : MethodName) (head1 (Jvm.Cond.code (⟨"java/lang/StringUTF16", "compress", "([CII)[B"⟩ : MethodName) jdk_52_method_16_code 6 (some (.array .byte)) :: ws) ({ frames := 3, cells := 2, slots := 9, locals := 40 } : Room)) (fun a U => a = #[(.ref ca), (.int (0 : Int32)), (.int (Int32.ofNat n))] ∧ Z.Warmed39 U.vm ∧ U.heap = h0) (fun _ _ _ _ _ => True) (fun _ U oz U' => ∃ v L, oz = .returned v ∧ Q7 Z ca n ch h0 n0 v U'.heap L ∧ FrameEnd U oz U' L (({ frames := 3, cells := 2, slots := 9, locals := 40 } : Room)).cells (({ frames := 3, cells := 2, slots := 9, locals := 40 } : Room)).slots) := by
  refine MetFree.of_bodySF (plainFor_of_name pn_1) hisR ?_
  intro p e s m args below meth c s₁ Bd hml0 hP hK
  obtain ⟨rfl, hZ, hh⟩ := hP
  have hx := Bd.exec
  have hby := Bd.bytes
  have hml : c.maxLocals = 6 := hml0
  have hown : s.vm.findClass "java/lang/StringUTF16" = some m.cls := findClass_of_methodNamed Bd.named
  have hnm := (name_of_methodNamed Bd.named Bd.method).1
  have X0 : Stand p l e ({ frames := 3, cells := 2, slots := 9, locals := 40 } : Room) s m #[(.ref ca), (.int (0 : Int32)), (.int (Int32.ofNat n))] below meth c s₁ [] 0 0 := Stand.of_body Bd
  have e0 : s₁.heap = h0 := by rw [← hh, Bd.state]; rfl
  have N0 := Fr.nil n0
  show own_Go p.tables e below (own_P s (Q7 Z ca n ch h0 n0) ({ frames := 3, cells := 2, slots := 9, locals := 40 } : Room).cells ({ frames := 3, cells := 2, slots := 9, locals := 40 } : Room).slots) s₁ _
  rw [ef_7]
  show own_Go p.tables e below _ s₁ (mkF m 0 #[.val (.ref ca), .val (.int (0 : Int32)), .val (.int (Int32.ofNat n)), .unset, .unset, .unset] [])
  refine own_go (fun tz kz => XS.iloadN X0.here hx rfl (hb hby d7_0) rfl kz) ?_
  show own_Go p.tables e below _ s₁ (mkF m 1 #[.val (.ref ca), .val (.int (0 : Int32)), .val (.int (Int32.ofNat n)), .unset, .unset, .unset] [(.int (Int32.ofNat n))])
  obtain ⟨T1, h1, k1, X1, e1, E1, A1, st1⟩ := newP X0 hx hZ (hw _ (List.mem_of_getElem? (i := 15) rfl)) e0 (g := (mkF m 1 #[.val (.ref ca), .val (.int (0 : Int32)), .val (.int (Int32.ofNat n)), .unset, .unset, .unset] [(.int (Int32.ofNat n))])) rfl (hb hby d7_1) rfl (own_nat (i := n) (by omega)).1 (cap := 3) (by rw [(own_nat (i := n) (by omega)).2]; omega) (by decide) (by decide) (by decide)
  obtain ⟨la, eq_la⟩ : ∃ z, z = (h0).size := ⟨_, rfl⟩
  rw [← eq_la] at A1 st1
  have g_la : n0 ≤ la := Nat.le_trans Z0 (Nat.le_of_eq eq_la.symm)
  have V_la : own_Av Z h1 la .byte n (fun _ => .int 0) := own_Av.new A1 (own_nat (i := n) (by omega)).2
  refine own_go st1 ?_
  show own_Go p.tables e below _ T1 (mkF m 3 #[.val (.ref ca), .val (.int (0 : Int32)), .val (.int (Int32.ofNat n)), .unset, .unset, .unset] [(.ref la)])
  refine own_go (fun tz kz => XS.astoreN X1.here hx rfl (hb hby d7_3) rfl rfl (l' := #[.val (.ref ca), .val (.int (0 : Int32)), .val (.int (Int32.ofNat n)), .val (.ref la), .unset, .unset]) rfl kz) ?_
  show own_Go p.tables e below _ T1 (mkF m 4 #[.val (.ref ca), .val (.int (0 : Int32)), .val (.int (Int32.ofNat n)), .val (.ref la), .unset, .unset] [])
  refine own_go (fun tz kz => XS.aloadN X1.here hx rfl (hb hby d7_4) rfl rfl kz) ?_
  show own_Go p.tables e below _ T1 (mkF m 5 #[.val (.ref ca), .val (.int (0 : Int32)), .val (.int (Int32.ofNat n)), .val (.ref la), .unset, .unset] [(.ref ca)])
  refine own_go (fun tz kz => XS.iloadN X1.here hx rfl (hb hby d7_5) rfl kz) ?_
  show own_Go p.tables e below _ T1 (mkF m 6 #[.val (.ref ca), .val (.int (0 : Int32)), .val (.int (Int32.ofNat n)), .val (.ref la), .unset, .unset] [(.int (0 : Int32)), (.ref ca)])
  refine own_go (fun tz kz => XS.aloadN X1.here hx rfl (hb hby d7_6) rfl rfl kz) ?_
  show own_Go p.tables e below _ T1 (mkF m 7 #[.val (.ref ca), .val (.int (0 : Int32)), .val (.int (Int32.ofNat n)), .val (.ref la), .unset, .unset] [(.ref la), (.int (0 : Int32)), (.ref ca)])
  refine own_go (fun tz kz => XS.iconst X1.here hx rfl (hb hby d7_7) kz) ?_
  show own_Go p.tables e below _ T1 (mkF m 8 #[.val (.ref ca), .val (.int (0 : Int32)), .val (.int (Int32.ofNat n)), .val (.ref la), .unset, .unset] [(.int (0 : Int32)), (.ref la), (.int (0 : Int32)), (.ref ca)])
  refine own_go (fun tz kz => XS.iloadN X1.here hx rfl (hb hby d7_8) rfl kz) ?_
  show own_Go p.tables e below _ T1 (mkF m 9 #[.val (.ref ca), .val (.int (0 : Int32)), .val (.int (Int32.ofNat n)), .val (.ref la), .unset, .unset] [(.int (Int32.ofNat n)), (.int (0 : Int32)), (.ref la), (.int (0 : Int32)), (.ref ca)])
  have hne : ca ≠ la := Nat.ne_of_lt (Nat.lt_of_lt_of_le Va.lt (Nat.le_of_eq eq_la.symm))
  obtain ⟨_, _, ⟨T2, L2, k2, n2⟩, -, X2, ⟨Lc2, hQ2, l2, y2, z2⟩, st2⟩ := Jvm.LawKit.callS X1 hx (y := (⟨"java/lang/StringUTF16", "compress", "([CI[BII)I"⟩ : MethodName)) hown (mvT hZ (hw _ (List.mem_of_getElem? (i := 41) rfl))) (mvT hZ (hw _ (List.mem_of_getElem? (i := 42) rfl))) (mvT hZ (hw _ (List.mem_of_getElem? (i := 39) rfl))) (mvT hZ (hw _ (List.mem_of_getElem? (i := 43) rfl))) (by decide) (backOf (W := 0) (rm8 l Z a0 hw [] ca la n ch (fun _ => 0) h1 n0 (Nat.le_trans Z0 E1.1) (Va.ext E1) V_la hn g_la hne) hZ (hw _ (List.mem_of_getElem? (i := 43) rfl)) (hw _ (List.mem_of_getElem? (i := 39) rfl)) (by decide) (by decide)) (g := (mkF m 9 #[.val (.ref ca), .val (.int (0 : Int32)), .val (.int (Int32.ofNat n)), .val (.ref la), .unset, .unset] [(.int (Int32.ofNat n)), (.int (0 : Int32)), (.ref la), (.int (0 : Int32)), (.ref ca)])) rfl (by rw [hml]; rfl) (argsL := [(.ref ca), (.int (0 : Int32)), (.ref la), (.int (0 : Int32)), (.int (Int32.ofNat n))]) (rest := []) (lenOf pd_3 rfl) rfl (by show 2 * 0 + _ ≤ _; exact Nat.le_of_eq rfl) (hb hby d7_9) (fun _ _ => ⟨rfl, e1, (by decide : 1 + 0 ≤ _), (by decide : 3 + 0 ≤ _)⟩)
  dsimp only [Pt.U, Pt.locs, Pt.cells, Pt.slots] at X2 l2 y2 z2 st2 hQ2
  subst l2 y2 z2
  obtain ⟨N2q, r, f, rfl, hr, lo, hi, K2, Vl, fl⟩ := hQ2
  have N2 := Fr.app N0 N2q
  refine own_go (fun tz kz => st2 tz kz) ?_
  show own_Go p.tables e below _ T2 (mkF m 12 #[.val (.ref ca), .val (.int (0 : Int32)), .val (.int (Int32.ofNat n)), .val (.ref la), .unset, .unset] [(.int (Int32.ofNat r))])
  have K0 := own_keep1 ((Keep.refl h0 []).ext E1) K2 (Nat.le_of_eq eq_la.symm)
  have O1 := (O0.ext E1).keep K2 (fun x hx => by cases List.mem_singleton.mp hx; exact g_la)
  refine own_go (fun tz kz => XS.istore X2.here hx rfl (hb hby d7_12) rfl (l' := #[.val (.ref ca), .val (.int (0 : Int32)), .val (.int (Int32.ofNat n)), .val (.ref la), .val (.int (Int32.ofNat r)), .unset]) rfl kz) ?_
  show own_Go p.tables e below _ T2 (mkF m 14 #[.val (.ref ca), .val (.int (0 : Int32)), .val (.int (Int32.ofNat n)), .val (.ref la), .val (.int (Int32.ofNat r)), .unset] [])
  refine own_go (fun tz kz => XS.iload X2.here hx rfl (hb hby d7_14) rfl kz) ?_
  show own_Go p.tables e below _ T2 (mkF m 16 #[.val (.ref ca), .val (.int (0 : Int32)), .val (.int (Int32.ofNat n)), .val (.ref la), .val (.int (Int32.ofNat r)), .unset] [(.int (Int32.ofNat r))])
  refine own_go (fun tz kz => XS.iloadN X2.here hx rfl (hb hby d7_16) rfl kz) ?_
  show own_Go p.tables e below _ T2 (mkF m 17 #[.val (.ref ca), .val (.int (0 : Int32)), .val (.int (Int32.ofNat n)), .val (.ref la), .val (.int (Int32.ofNat r)), .unset] [(.int (Int32.ofNat n)), (.int (Int32.ofNat r))])
  by_cases hrn : r = n
  ·
    refine own_go (fun tz kz => XS.icmpYes X2.here hx rfl (pc0 := 17) (pc' := 57) rfl (hb hby d7_17) rfl (XT.ii_eq_t (congrArg Int32.ofNat hrn)) (by decide) (by decide) kz) ?_
    show own_Go p.tables e below _ T2 (mkF m 57 #[.val (.ref ca), .val (.int (0 : Int32)), .val (.int (Int32.ofNat n)), .val (.ref la), .val (.int (Int32.ofNat r)), .unset] [])
    refine own_go (fun tz kz => XS.aloadN X2.here hx rfl (hb hby d7_57) rfl rfl kz) ?_
    show own_Go p.tables e below _ T2 (mkF m 58 #[.val (.ref ca), .val (.int (0 : Int32)), .val (.int (Int32.ofNat n)), .val (.ref la), .val (.int (Int32.ofNat r)), .unset] [(.ref la)])
    obtain ⟨fs, hr, hrun, hended, hW, hsame⟩ := X2.leave (v := some (.ref la)) (fun h => by rw [Bd.returns] at h; cases h) (BodyLoose.notSynchronized Bd)
    refine ⟨_, _, ?_, hrun, hended, _, _, rfl, ?_, ⟨_, rfl⟩, hW, hsame.mono (by decide) (by decide)⟩
    · exact retOut X2 hx Bd.returns rfl (Or.inr (Or.inr (Or.inr (Or.inr ⟨rfl, rfl, rfl⟩)))) (hb hby d7_58) hr
    · show Q7 Z ca n ch h0 n0 _ T2.heap _
      exact ⟨N2, la, n, 0, rfl, K0, g_la, Nat.le_of_eq eq_la.symm, f, Vl, Or.inl ⟨rfl, rfl, fun k hk => by rw [fl k (by omega)]; exact own_lat (lo k (by omega))⟩⟩
  ·
    refine own_go (fun tz kz => XS.icmpNo X2.here hx rfl (hb hby d7_17) rfl (XT.ii_eq_f (fun q => hrn ((own_ofNat_inj (by omega) (by omega)).mp q))) kz) ?_
    show own_Go p.tables e below _ T2 (mkF m 20 #[.val (.ref ca), .val (.int (0 : Int32)), .val (.int (Int32.ofNat n)), .val (.ref la), .val (.int (Int32.ofNat r)), .unset] [])
    refine own_go (fun tz kz => XS.aloadN X2.here hx rfl (hb hby d7_20) rfl rfl kz) ?_
    show own_Go p.tables e below _ T2 (mkF m 21 #[.val (.ref ca), .val (.int (0 : Int32)), .val (.int (Int32.ofNat n)), .val (.ref la), .val (.int (Int32.ofNat r)), .unset] [(.ref ca)])
    refine own_go (fun tz kz => XS.iloadN X2.here hx rfl (hb hby d7_21) rfl kz) ?_
    show own_Go p.tables e below _ T2 (mkF m 22 #[.val (.ref ca), .val (.int (0 : Int32)), .val (.int (Int32.ofNat n)), .val (.ref la), .val (.int (Int32.ofNat r)), .unset] [(.int (0 : Int32)), (.ref ca)])
    refine own_go (fun tz kz => XS.iloadN X2.here hx rfl (hb hby d7_22) rfl kz) ?_
    show own_Go p.tables e below _ T2 (mkF m 23 #[.val (.ref ca), .val (.int (0 : Int32)), .val (.int (Int32.ofNat n)), .val (.ref la), .val (.int (Int32.ofNat r)), .unset] [(.int (Int32.ofNat n)), (.int (0 : Int32)), (.ref ca)])
    obtain ⟨ba, eba⟩ : ∃ z, z = (T2.heap).size := ⟨_, rfl⟩
    obtain ⟨_, _, ⟨T3, L3, k3, n3⟩, -, X3, ⟨Lc3, hQ3, l3, y3, z3⟩, st3⟩ := Jvm.LawKit.callS X2 hx (y := (⟨"java/lang/StringUTF16", "toBytes", "([CII)[B"⟩ : MethodName)) hown (mvT hZ (hw _ (List.mem_of_getElem? (i := 44) rfl))) (mvT hZ (hw _ (List.mem_of_getElem? (i := 45) rfl))) (mvT hZ (hw _ (List.mem_of_getElem? (i := 39) rfl))) (mvT hZ (hw _ (List.mem_of_getElem? (i := 46) rfl))) (by decide) (backOf (W := 0) (rm9 l Z a0 hw [] ca n ch ba T2.heap n0 (Nat.le_trans (Nat.le_trans Z0 E1.1) K2.1) AD HB LB O1 ((Va.ext E1).keep K2 (own_not1 hne)) hn eba) hZ (hw _ (List.mem_of_getElem? (i := 46) rfl)) (hw _ (List.mem_of_getElem? (i := 39) rfl)) (by decide) (by decide)) (g := (mkF m 23 #[.val (.ref ca), .val (.int (0 : Int32)), .val (.int (Int32.ofNat n)), .val (.ref la), .val (.int (Int32.ofNat r)), .unset] [(.int (Int32.ofNat n)), (.int (0 : Int32)), (.ref ca)])) rfl (by rw [hml]; rfl) (argsL := [(.ref ca), (.int (0 : Int32)), (.int (Int32.ofNat n))]) (rest := []) (lenOf pd_4 rfl) rfl (by show 2 * 0 + _ ≤ _; exact Nat.le_of_eq rfl) (hb hby d7_23) (fun _ _ => ⟨rfl, rfl, (by decide : 1 + 1 ≤ _), (by decide : 3 + 6 ≤ _)⟩)
    dsimp only [Pt.U, Pt.locs, Pt.cells, Pt.slots] at X3 l3 y3 z3 st3 hQ3
    subst l3 y3 z3
    obtain ⟨N3q, f2, rfl, K3, Vu, fu⟩ := hQ3
    have N3 := Fr.app N2 N3q
    refine own_go (fun tz kz => st3 tz kz) ?_
    show own_Go p.tables e below _ T3 (mkF m 26 #[.val (.ref ca), .val (.int (0 : Int32)), .val (.int (Int32.ofNat n)), .val (.ref la), .val (.int (Int32.ofNat r)), .unset] [(.ref ba)])
    have O2 := O1.keep K3 (fun x hx => nomatch hx)
    refine own_go (fun tz kz => XS.astore X3.here hx rfl (hb hby d7_26) rfl rfl (l' := #[.val (.ref ca), .val (.int (0 : Int32)), .val (.int (Int32.ofNat n)), .val (.ref la), .val (.int (Int32.ofNat r)), .val (.ref ba)]) rfl kz) ?_
    show own_Go p.tables e below _ T3 (mkF m 28 #[.val (.ref ca), .val (.int (0 : Int32)), .val (.int (Int32.ofNat n)), .val (.ref la), .val (.int (Int32.ofNat r)), .val (.ref ba)] [])
    refine own_go (fun tz kz => XS.aload X3.here hx rfl (hb hby d7_28) rfl rfl kz) ?_
    show own_Go p.tables e below _ T3 (mkF m 30 #[.val (.ref ca), .val (.int (0 : Int32)), .val (.int (Int32.ofNat n)), .val (.ref la), .val (.int (Int32.ofNat r)), .val (.ref ba)] [(.ref ba)])
    refine own_go (fun tz kz => XS.iload X3.here hx rfl (hb hby d7_30) rfl kz) ?_
    show own_Go p.tables e below _ T3 (mkF m 32 #[.val (.ref ca), .val (.int (0 : Int32)), .val (.int (Int32.ofNat n)), .val (.ref la), .val (.int (Int32.ofNat r)), .val (.ref ba)] [(.int (Int32.ofNat r)), (.ref ba)])
    obtain ⟨_, _, ⟨T4, L4, k4, n4⟩, -, X4, ⟨Lc4, hQ4, l4, y4, z4⟩, st4⟩ := Jvm.LawKit.callS X3 hx (y := (⟨"java/lang/StringUTF16", "getChar", "([BI)C"⟩ : MethodName)) hown (mvT hZ (hw _ (List.mem_of_getElem? (i := 60) rfl))) (mvT hZ (hw _ (List.mem_of_getElem? (i := 61) rfl))) (mvT hZ (hw _ (List.mem_of_getElem? (i := 39) rfl))) (mvT hZ (hw _ (List.mem_of_getElem? (i := 62) rfl))) (by decide) (backOf (W := 0) (rm13 l Z a0 hw [] ba r (2 * n) f2 T3.heap n0 (Nat.le_trans (Nat.le_trans (Nat.le_trans Z0 E1.1) K2.1) K3.1) (AD.ext O2.2) (HB.ext O2.2) (LB.ext O2.2) Vu (by omega) (by omega)) hZ (hw _ (List.mem_of_getElem? (i := 62) rfl)) (hw _ (List.mem_of_getElem? (i := 39) rfl)) (by decide) (by decide)) (g := (mkF m 32 #[.val (.ref ca), .val (.int (0 : Int32)), .val (.int (Int32.ofNat n)), .val (.ref la), .val (.int (Int32.ofNat r)), .val (.ref ba)] [(.int (Int32.ofNat r)), (.ref ba)])) rfl (by rw [hml]; rfl) (argsL := [(.ref ba), (.int (Int32.ofNat r))]) (rest := []) (lenOf pd_5 rfl) rfl (by show 2 * 0 + _ ≤ _; exact Nat.le_of_eq rfl) (hb hby d7_32) (fun _ _ => ⟨rfl, rfl, (by decide : 2 + 0 ≤ _), (by decide : 9 + 0 ≤ _)⟩)
    dsimp only [Pt.U, Pt.locs, Pt.cells, Pt.slots] at X4 l4 y4 z4 st4 hQ4
    subst l4 y4 z4
    obtain ⟨rfl, N4q, e4⟩ := hQ4
    have N4 := Fr.app N3 N4q
    refine own_go (fun tz kz => st4 tz kz) ?_
    show own_Go p.tables e below _ T4 (mkF m 35 #[.val (.ref ca), .val (.int (0 : Int32)), .val (.int (Int32.ofNat n)), .val (.ref la), .val (.int (Int32.ofNat r)), .val (.ref ba)] [(.int (own_gc (f2 (2 * r)) (f2 (2 * r + 1))))])
    rw [show (own_gc (f2 (2 * r)) (f2 (2 * r + 1))) = (own_ch (ch r)) from (by rw [(fu r (by omega)).1, (fu r (by omega)).2]; exact own_utf (ch r))]
    show own_Go p.tables e below _ T4 (mkF m 35 #[.val (.ref ca), .val (.int (0 : Int32)), .val (.int (Int32.ofNat n)), .val (.ref la), .val (.int (Int32.ofNat r)), .val (.ref ba)] [(.int (own_ch (ch r)))])
    refine own_go (fun tz kz => XS.sipush X4.here hx rfl (hb hby d7_35) kz) ?_
    show own_Go p.tables e below _ T4 (mkF m 38 #[.val (.ref ca), .val (.int (0 : Int32)), .val (.int (Int32.ofNat n)), .val (.ref la), .val (.int (Int32.ofNat r)), .val (.ref ba)] [(.int (255 : Int32)), (.int (own_ch (ch r)))])
    refine own_go (fun tz kz => XS.icmpYes X4.here hx rfl (pc0 := 38) (pc' := 54) rfl (hb hby d7_38) rfl (XT.ii_gt_t (hi (by omega))) (by decide) (by decide) kz) ?_
    show own_Go p.tables e below _ T4 (mkF m 54 #[.val (.ref ca), .val (.int (0 : Int32)), .val (.int (Int32.ofNat n)), .val (.ref la), .val (.int (Int32.ofNat r)), .val (.ref ba)] [])
    refine own_go (fun tz kz => XS.aload X4.here hx rfl (hb hby d7_54) rfl rfl kz) ?_
    show own_Go p.tables e below _ T4 (mkF m 56 #[.val (.ref ca), .val (.int (0 : Int32)), .val (.int (Int32.ofNat n)), .val (.ref la), .val (.int (Int32.ofNat r)), .val (.ref ba)] [(.ref ba)])
    obtain ⟨fs, hr, hrun, hended, hW, hsame⟩ := X4.leave (v := some (.ref ba)) (fun h => by rw [Bd.returns] at h; cases h) (BodyLoose.notSynchronized Bd)
    refine ⟨_, _, ?_, hrun, hended, _, _, rfl, ?_, ⟨_, rfl⟩, hW, hsame.mono (by decide) (by decide)⟩
    · exact retOut X4 hx Bd.returns rfl (Or.inr (Or.inr (Or.inr (Or.inr ⟨rfl, rfl, rfl⟩)))) (hb hby d7_56) hr
    · show Q7 Z ca n ch h0 n0 _ T4.heap _
      rw [e4]
      exact ⟨N4, ba, 2 * n, 1, rfl, K0.trans K3 (fun x hx => nomatch hx), Nat.le_trans (Nat.le_trans Z0 K0.1) (Nat.le_of_eq eba.symm), Nat.le_trans K0.1 (Nat.le_of_eq eba.symm), f2, Vu, Or.inr ⟨rfl, rfl, fun k hk => by rw [(fu k hk).1, (fu k hk).2]; exact own_utf (ch k)⟩⟩
theorem d14_0 : decode jdk_52_method_15_code 0 = .ok (.iload_n 1, 1) := by decide +kernel
theorem d14_1 : decode jdk_52_method_15_code 1 = .ok (.aload_n 0, 1) := by decide +kernel
theorem d14_2 : decode jdk_52_method_15_code 2 = .ok (.arraylength, 1) := by decide +kernel
theorem d14_3 : decode jdk_52_method_15_code 3 = .ok (.isub, 1) := by decide +kernel
theorem d14_4 : decode jdk_52_method_15_code 4 = .ok (.bipush 31, 2) := by decide +kernel
theorem d14_6 : decode jdk_52_method_15_code 6 = .ok (.iushr, 1) := by decide +kernel
theorem d14_7 : decode jdk_52_method_15_code 7 = .ok (.i2b, 1) := by decide +kernel
theorem d14_8 : decode jdk_52_method_15_code 8 = .ok (.ireturn, 1) := by decide +kernel
theorem ef_14 (m : MethodId) {va : Addr} {n : Nat} : entryFrame m #[(.ref va), (.int (Int32.ofNat n))] 2 = mkF m 0 #[.val (.ref va), .val (.int (Int32.ofNat n))] [] := by first | (simp [entryFrame, mkF, argsToLocals, Value.category]; done) | rfl
def Q14 (Z : State) (va : Addr) (n : Nat) (mm : Nat) (cd : Int32) (f : Nat → Int32) (h0 : Heap) (n0 : Nat) (v : Option Value) (h : Heap) (L : List Loc) : Prop := v = some (.int cd) ∧ Fr n0 L ∧ h = h0
set_option maxRecDepth 65536 in
set_option maxHeartbeats 40000000 in
theorem rm14 (l : Launch) (Z : State) (a0 : Array Value) (hw : ∀ d ∈ tables_1, d.before a0 Z = true) (ws : List Jvm.Cond) (va : Addr) (n : Nat) (mm : Nat) (cd : Int32) (f : Nat → Int32) (h0 : Heap) (n0 : Nat) (Z0 : n0 ≤ h0.size) (Va : own_Av Z h0 va .byte mm (fun k => .int (f k))) (hcd : (cd = 0 ∧ mm = n) ∨ (cd = 1 ∧ mm = 2 * n)) (hn : n < 4) (hn0 : 0 < n) :
    MetFree l (⟨"java/lang/StringUTF16", "coderFromArrayLen", "([BI)B"⟩ : MethodName) (head1 (Jvm.Cond.code (⟨"java/lang/StringUTF16", "coderFromArrayLen", "([BI)B"⟩ : MethodName) jdk_52_method_15_code 2 (some .byte) :: ws) ({ frames := 0, cells := 0, slots := 0, locals := 0 } : Room)) (fun a U => a = #[(.ref va), (.int (Int32.ofNat n))] ∧ Z.Warmed39 U.vm ∧ U.heap = h0) (fun _ _ _ _ _ => True) (fun _ U oz U' => ∃ v L, oz = .returned v ∧ Q14 Z va n mm cd f h0 n0 v U'.heap L ∧ FrameEnd U oz U' L (({ frames := 0, cells := 0, slots := 0, locals := 0 } : Room)).cells (({ frames := 0, cells := 0, slots := 0, locals := 0 } : Room)).slots) := by
  refine MetFree.of_bodySF (plainFor_of_name pn_1) hisR ?_
  intro p e s m args below meth c s₁ Bd hml0 hP hK
  obtain ⟨rfl, hZ, hh⟩ := hP
  have hx := Bd.exec
  have hby := Bd.bytes
  have hml : c.maxLocals = 2 := hml0
  have hown : s.vm.findClass "java/lang/StringUTF16" = some m.cls := findClass_of_methodNamed Bd.named
  have hnm := (name_of_methodNamed Bd.named Bd.method).1
  have X0 : Stand p l e ({ frames := 0, cells := 0, slots := 0, locals := 0 } : Room) s m #[(.ref va), (.int (Int32.ofNat n))] below meth c s₁ [] 0 0 := Stand.of_body Bd
  have e0 : s₁.heap = h0 := by rw [← hh, Bd.state]; rfl
  have N0 := Fr.nil n0
  show own_Go p.tables e below (own_P s (Q14 Z va n mm cd f h0 n0) ({ frames := 0, cells := 0, slots := 0, locals := 0 } : Room).cells ({ frames := 0, cells := 0, slots := 0, locals := 0 } : Room).slots) s₁ _
  rw [ef_14]
  show own_Go p.tables e below _ s₁ (mkF m 0 #[.val (.ref va), .val (.int (Int32.ofNat n))] [])
  refine own_go (fun tz kz => XS.iloadN X0.here hx rfl (hb hby d14_0) rfl kz) ?_
  show own_Go p.tables e below _ s₁ (mkF m 1 #[.val (.ref va), .val (.int (Int32.ofNat n))] [(.int (Int32.ofNat n))])
  refine own_go (fun tz kz => XS.aloadN X0.here hx rfl (hb hby d14_1) rfl rfl kz) ?_
  show own_Go p.tables e below _ s₁ (mkF m 2 #[.val (.ref va), .val (.int (Int32.ofNat n))] [(.ref va), (.int (Int32.ofNat n))])
  obtain ⟨c1, Ar1, Sz1, Ge1⟩ := id (Va)
  refine own_go (fun tz kz => X0.arraylength hx (by rw [e0]; exact Ar1.1) (State.isArrayOf_alike hZ.alike Ar1.2.1) (g := (mkF m 2 #[.val (.ref va), .val (.int (Int32.ofNat n))] [(.ref va), (.int (Int32.ofNat n))])) rfl rfl (hb hby d14_2) tz kz) ?_
  rw [Sz1]
  show own_Go p.tables e below _ s₁ (mkF m 3 #[.val (.ref va), .val (.int (Int32.ofNat n))] [(.int (Int32.ofNat mm)), (.int (Int32.ofNat n))])
  refine own_go (fun tz kz => XS.isub X0.here hx rfl (hb hby d14_3) rfl kz) ?_
  show own_Go p.tables e below _ s₁ (mkF m 4 #[.val (.ref va), .val (.int (Int32.ofNat n))] [(.int ((Int32.ofNat n) - (Int32.ofNat mm)))])
  refine own_go (fun tz kz => XS.bipush X0.here hx rfl (hb hby d14_4) kz) ?_
  show own_Go p.tables e below _ s₁ (mkF m 6 #[.val (.ref va), .val (.int (Int32.ofNat n))] [(.int (31 : Int32)), (.int ((Int32.ofNat n) - (Int32.ofNat mm)))])
  refine own_go (fun tz kz => XT.iushr X0.here hx rfl (hb hby d14_6) rfl kz) ?_
  show own_Go p.tables e below _ s₁ (mkF m 7 #[.val (.ref va), .val (.int (Int32.ofNat n))] [(.int (XT.ushr ((Int32.ofNat n) - (Int32.ofNat mm)) (31 : Int32)))])
  refine own_go (fun tz kz => XT.i2b X0.here hx rfl (hb hby d14_7) rfl kz) ?_
  show own_Go p.tables e below _ s₁ (mkF m 8 #[.val (.ref va), .val (.int (Int32.ofNat n))] [(.int (XT.ushr ((Int32.ofNat n) - (Int32.ofNat mm)) (31 : Int32)).toInt8.toInt32)])
  obtain ⟨fs, hr, hrun, hended, hW, hsame⟩ := X0.leave (v := some (.int (nar .byte (XT.ushr ((Int32.ofNat n) - (Int32.ofNat mm)) (31 : Int32)).toInt8.toInt32))) (fun h => by rw [Bd.returns] at h; cases h) (BodyLoose.notSynchronized Bd)
  refine ⟨_, _, ?_, hrun, hended, _, _, rfl, ?_, ⟨_, rfl⟩, hW, hsame.mono (by decide) (by decide)⟩
  · exact retN X0 hx (t := .byte) Bd.returns (by simp) (hb hby d14_8) hr
  · show Q14 Z va n mm cd f h0 n0 _ s₁.heap _
    rw [e0]
    exact ⟨congrArg (fun z => some (Value.int z)) (own_coder hn0 hn hcd), N0, rfl⟩
theorem d22_0 : decode jdk_41_method_11_code 0 = .ok (.iload_n 0, 1) := by decide +kernel
theorem d22_1 : decode jdk_41_method_11_code 1 = .ok (.ifCond .lt 8, 3) := by decide +kernel
theorem d22_4 : decode jdk_41_method_11_code 4 = .ok (.iload_n 0, 1) := by decide +kernel
theorem d22_5 : decode jdk_41_method_11_code 5 = .ok (.iload_n 1, 1) := by decide +kernel
theorem d22_6 : decode jdk_41_method_11_code 6 = .ok (.if_icmp .lt 10, 3) := by decide +kernel
theorem d22_9 : decode jdk_41_method_11_code 9 = .ok (.aload_n 2, 1) := by decide +kernel
theorem d22_10 : decode jdk_41_method_11_code 10 = .ok (.iload_n 0, 1) := by decide +kernel
theorem d22_11 : decode jdk_41_method_11_code 11 = .ok (.iload_n 1, 1) := by decide +kernel
theorem d22_12 : decode jdk_41_method_11_code 12 = .ok (.invokestatic 95, 3) := by decide +kernel
theorem d22_15 : decode jdk_41_method_11_code 15 = .ok (.athrow, 1) := by decide +kernel
theorem d22_16 : decode jdk_41_method_11_code 16 = .ok (.iload_n 0, 1) := by decide +kernel
theorem d22_17 : decode jdk_41_method_11_code 17 = .ok (.ireturn, 1) := by decide +kernel
theorem pn_2 : plainName "jdk/internal/util/Preconditions" = true := by first | (simp [plainName, overriddenIn]; done) | decide +kernel
theorem ef_22n (m : MethodId) {i : Nat} {mm : Nat} : entryFrame m #[(.int (Int32.ofNat i)), (.int (Int32.ofNat mm)), .null] 3 = mkF m 0 #[.val (.int (Int32.ofNat i)), .val (.int (Int32.ofNat mm)), .val .null] [] := by first | (simp [entryFrame, mkF, argsToLocals, Value.category]; done) | rfl
def Q22n (Z : State) (i : Nat) (mm : Nat) (h0 : Heap) (n0 : Nat) (v : Option Value) (h : Heap) (L : List Loc) : Prop := v = some (.int (Int32.ofNat i)) ∧ Fr n0 L ∧ h = h0
set_option maxRecDepth 65536 in
set_option maxHeartbeats 40000000 in
theorem rm22n (l : Launch) (Z : State) (a0 : Array Value) (hw : ∀ d ∈ tables_1, d.before a0 Z = true) (ws : List Jvm.Cond) (i : Nat) (mm : Nat) (h0 : Heap) (n0 : Nat) (Z0 : n0 ≤ h0.size) (hi : i < mm) (hm : mm ≤ 6) :
    MetFree l (⟨"jdk/internal/util/Preconditions", "checkIndex", "(IILjava/util/function/BiFunction;)I"⟩ : MethodName) (head1 (Jvm.Cond.code (⟨"jdk/internal/util/Preconditions", "checkIndex", "(IILjava/util/function/BiFunction;)I"⟩ : MethodName) jdk_41_method_11_code 3 (some .int) :: ws) ({ frames := 0, cells := 0, slots := 0, locals := 0 } : Room)) (fun a U => a = #[(.int (Int32.ofNat i)), (.int (Int32.ofNat mm)), .null] ∧ Z.Warmed39 U.vm ∧ U.heap = h0) (fun _ _ _ _ _ => True) (fun _ U oz U' => ∃ v L, oz = .returned v ∧ Q22n Z i mm h0 n0 v U'.heap L ∧ FrameEnd U oz U' L (({ frames := 0, cells := 0, slots := 0, locals := 0 } : Room)).cells (({ frames := 0, cells := 0, slots := 0, locals := 0 } : Room)).slots) := by
  refine MetFree.of_bodySF (plainFor_of_name pn_2) hisR ?_
  intro p e s m args below meth c s₁ Bd hml0 hP hK
  obtain ⟨rfl, hZ, hh⟩ := hP
  have hx := Bd.exec
  have hby := Bd.bytes
  have hml : c.maxLocals = 3 := hml0
  have hown : s.vm.findClass "jdk/internal/util/Preconditions" = some m.cls := findClass_of_methodNamed Bd.named
  have hnm := (name_of_methodNamed Bd.named Bd.method).1
  have X0 : Stand p l e ({ frames := 0, cells := 0, slots := 0, locals := 0 } : Room) s m #[(.int (Int32.ofNat i)), (.int (Int32.ofNat mm)), .null] below meth c s₁ [] 0 0 := Stand.of_body Bd
  have e0 : s₁.heap = h0 := by rw [← hh, Bd.state]; rfl
  have N0 := Fr.nil n0
  show own_Go p.tables e below (own_P s (Q22n Z i mm h0 n0) ({ frames := 0, cells := 0, slots := 0, locals := 0 } : Room).cells ({ frames := 0, cells := 0, slots := 0, locals := 0 } : Room).slots) s₁ _
  rw [ef_22n]
  show own_Go p.tables e below _ s₁ (mkF m 0 #[.val (.int (Int32.ofNat i)), .val (.int (Int32.ofNat mm)), .val .null] [])
  refine own_go (fun tz kz => XS.iloadN X0.here hx rfl (hb hby d22_0) rfl kz) ?_
  show own_Go p.tables e below _ s₁ (mkF m 1 #[.val (.int (Int32.ofNat i)), .val (.int (Int32.ofNat mm)), .val .null] [(.int (Int32.ofNat i))])
  refine own_go (fun tz kz => XS.ifNo X0.here hx rfl (hb hby d22_1) rfl (XT.i0_lt_f (own_nat (i := i) (by omega)).1) kz) ?_
  show own_Go p.tables e below _ s₁ (mkF m 4 #[.val (.int (Int32.ofNat i)), .val (.int (Int32.ofNat mm)), .val .null] [])
  refine own_go (fun tz kz => XS.iloadN X0.here hx rfl (hb hby d22_4) rfl kz) ?_
  show own_Go p.tables e below _ s₁ (mkF m 5 #[.val (.int (Int32.ofNat i)), .val (.int (Int32.ofNat mm)), .val .null] [(.int (Int32.ofNat i))])
  refine own_go (fun tz kz => XS.iloadN X0.here hx rfl (hb hby d22_5) rfl kz) ?_
  show own_Go p.tables e below _ s₁ (mkF m 6 #[.val (.int (Int32.ofNat i)), .val (.int (Int32.ofNat mm)), .val .null] [(.int (Int32.ofNat mm)), (.int (Int32.ofNat i))])
  refine own_go (fun tz kz => XS.icmpYes X0.here hx rfl (pc0 := 6) (pc' := 16) rfl (hb hby d22_6) rfl (XT.ii_lt_t ((own_ltn (by omega) (by omega)).mpr (by omega))) (by decide) (by decide) kz) ?_
  show own_Go p.tables e below _ s₁ (mkF m 16 #[.val (.int (Int32.ofNat i)), .val (.int (Int32.ofNat mm)), .val .null] [])
  refine own_go (fun tz kz => XS.iloadN X0.here hx rfl (hb hby d22_16) rfl kz) ?_
  show own_Go p.tables e below _ s₁ (mkF m 17 #[.val (.int (Int32.ofNat i)), .val (.int (Int32.ofNat mm)), .val .null] [(.int (Int32.ofNat i))])
  obtain ⟨fs, hr, hrun, hended, hW, hsame⟩ := X0.leave (v := some (.int (Int32.ofNat i))) (fun h => by rw [Bd.returns] at h; cases h) (BodyLoose.notSynchronized Bd)
  refine ⟨_, _, ?_, hrun, hended, _, _, rfl, ?_, ⟨_, rfl⟩, hW, hsame.mono (by decide) (by decide)⟩
  · exact retI X0 hx Bd.returns (hb hby d22_17) hr
  · show Q22n Z i mm h0 n0 _ s₁.heap _
    rw [e0]
    exact ⟨rfl, N0, rfl⟩
theorem ef_22r (m : MethodId) {i : Nat} {mm : Nat} {a3 : Addr} : entryFrame m #[(.int (Int32.ofNat i)), (.int (Int32.ofNat mm)), (.ref a3)] 3 = mkF m 0 #[.val (.int (Int32.ofNat i)), .val (.int (Int32.ofNat mm)), .val (.ref a3)] [] := by first | (simp [entryFrame, mkF, argsToLocals, Value.category]; done) | rfl
def Q22r (Z : State) (i : Nat) (mm : Nat) (a3 : Addr) (h0 : Heap) (n0 : Nat) (v : Option Value) (h : Heap) (L : List Loc) : Prop := v = some (.int (Int32.ofNat i)) ∧ Fr n0 L ∧ h = h0
set_option maxRecDepth 65536 in
set_option maxHeartbeats 40000000 in
theorem rm22r (l : Launch) (Z : State) (a0 : Array Value) (hw : ∀ d ∈ tables_1, d.before a0 Z = true) (ws : List Jvm.Cond) (i : Nat) (mm : Nat) (a3 : Addr) (h0 : Heap) (n0 : Nat) (Z0 : n0 ≤ h0.size) (hi : i < mm) (hm : mm ≤ 6) :
    MetFree l (⟨"jdk/internal/util/Preconditions", "checkIndex", "(IILjava/util/function/BiFunction;)I"⟩ : MethodName) (head1 (Jvm.Cond.code (⟨"jdk/internal/util/Preconditions", "checkIndex", "(IILjava/util/function/BiFunction;)I"⟩ : MethodName) jdk_41_method_11_code 3 (some .int) :: ws) ({ frames := 0, cells := 0, slots := 0, locals := 0 } : Room)) (fun a U => a = #[(.int (Int32.ofNat i)), (.int (Int32.ofNat mm)), (.ref a3)] ∧ Z.Warmed39 U.vm ∧ U.heap = h0) (fun _ _ _ _ _ => True) (fun _ U oz U' => ∃ v L, oz = .returned v ∧ Q22r Z i mm a3 h0 n0 v U'.heap L ∧ FrameEnd U oz U' L (({ frames := 0, cells := 0, slots := 0, locals := 0 } : Room)).cells (({ frames := 0, cells := 0, slots := 0, locals := 0 } : Room)).slots) := by
  refine MetFree.of_bodySF (plainFor_of_name pn_2) hisR ?_
  intro p e s m args below meth c s₁ Bd hml0 hP hK
  obtain ⟨rfl, hZ, hh⟩ := hP
  have hx := Bd.exec
  have hby := Bd.bytes
  have hml : c.maxLocals = 3 := hml0
  have hown : s.vm.findClass "jdk/internal/util/Preconditions" = some m.cls := findClass_of_methodNamed Bd.named
  have hnm := (name_of_methodNamed Bd.named Bd.method).1
  have X0 : Stand p l e ({ frames := 0, cells := 0, slots := 0, locals := 0 } : Room) s m #[(.int (Int32.ofNat i)), (.int (Int32.ofNat mm)), (.ref a3)] below meth c s₁ [] 0 0 := Stand.of_body Bd
  have e0 : s₁.heap = h0 := by rw [← hh, Bd.state]; rfl
  have N0 := Fr.nil n0
  show own_Go p.tables e below (own_P s (Q22r Z i mm a3 h0 n0) ({ frames := 0, cells := 0, slots := 0, locals := 0 } : Room).cells ({ frames := 0, cells := 0, slots := 0, locals := 0 } : Room).slots) s₁ _
  rw [ef_22r]
  show own_Go p.tables e below _ s₁ (mkF m 0 #[.val (.int (Int32.ofNat i)), .val (.int (Int32.ofNat mm)), .val (.ref a3)] [])
  refine own_go (fun tz kz => XS.iloadN X0.here hx rfl (hb hby d22_0) rfl kz) ?_
  show own_Go p.tables e below _ s₁ (mkF m 1 #[.val (.int (Int32.ofNat i)), .val (.int (Int32.ofNat mm)), .val (.ref a3)] [(.int (Int32.ofNat i))])
  refine own_go (fun tz kz => XS.ifNo X0.here hx rfl (hb hby d22_1) rfl (XT.i0_lt_f (own_nat (i := i) (by omega)).1) kz) ?_
  show own_Go p.tables e below _ s₁ (mkF m 4 #[.val (.int (Int32.ofNat i)), .val (.int (Int32.ofNat mm)), .val (.ref a3)] [])
  refine own_go (fun tz kz => XS.iloadN X0.here hx rfl (hb hby d22_4) rfl kz) ?_
  show own_Go p.tables e below _ s₁ (mkF m 5 #[.val (.int (Int32.ofNat i)), .val (.int (Int32.ofNat mm)), .val (.ref a3)] [(.int (Int32.ofNat i))])
  refine own_go (fun tz kz => XS.iloadN X0.here hx rfl (hb hby d22_5) rfl kz) ?_
  show own_Go p.tables e below _ s₁ (mkF m 6 #[.val (.int (Int32.ofNat i)), .val (.int (Int32.ofNat mm)), .val (.ref a3)] [(.int (Int32.ofNat mm)), (.int (Int32.ofNat i))])
  refine own_go (fun tz kz => XS.icmpYes X0.here hx rfl (pc0 := 6) (pc' := 16) rfl (hb hby d22_6) rfl (XT.ii_lt_t ((own_ltn (by omega) (by omega)).mpr (by omega))) (by decide) (by decide) kz) ?_
  show own_Go p.tables e below _ s₁ (mkF m 16 #[.val (.int (Int32.ofNat i)), .val (.int (Int32.ofNat mm)), .val (.ref a3)] [])
  refine own_go (fun tz kz => XS.iloadN X0.here hx rfl (hb hby d22_16) rfl kz) ?_
  show own_Go p.tables e below _ s₁ (mkF m 17 #[.val (.int (Int32.ofNat i)), .val (.int (Int32.ofNat mm)), .val (.ref a3)] [(.int (Int32.ofNat i))])
  obtain ⟨fs, hr, hrun, hended, hW, hsame⟩ := X0.leave (v := some (.int (Int32.ofNat i))) (fun h => by rw [Bd.returns] at h; cases h) (BodyLoose.notSynchronized Bd)
  refine ⟨_, _, ?_, hrun, hended, _, _, rfl, ?_, ⟨_, rfl⟩, hW, hsame.mono (by decide) (by decide)⟩
  · exact retI X0 hx Bd.returns (hb hby d22_17) hr
  · show Q22r Z i mm a3 h0 n0 _ s₁.heap _
    rw [e0]
    exact ⟨rfl, N0, rfl⟩
theorem d21_0 : decode jdk_42_method_155_code 0 = .ok (.iload_n 0, 1) := by decide +kernel
theorem d21_1 : decode jdk_42_method_155_code 1 = .ok (.iload_n 1, 1) := by decide +kernel
theorem d21_2 : decode jdk_42_method_155_code 2 = .ok (.getstatic 1053, 3) := by decide +kernel
theorem d21_5 : decode jdk_42_method_155_code 5 = .ok (.invokestatic 1059, 3) := by decide +kernel
theorem d21_8 : decode jdk_42_method_155_code 8 = .ok (.pop, 1) := by decide +kernel
theorem d21_9 : decode jdk_42_method_155_code 9 = .ok (.return_, 1) := by decide +kernel
theorem pd_6 : parseMethodDescriptor "(IILjava/util/function/BiFunction;)I" = some ⟨[.int, .int, (.object "java/util/function/BiFunction")], some .int⟩ := by decide +kernel
theorem pn_3 : plainName "java/lang/String" = true := by first | (simp [plainName, overriddenIn]; done) | decide +kernel
theorem ef_21 (m : MethodId) {i : Nat} {mm : Nat} : entryFrame m #[(.int (Int32.ofNat i)), (.int (Int32.ofNat mm))] 2 = mkF m 0 #[.val (.int (Int32.ofNat i)), .val (.int (Int32.ofNat mm))] [] := by first | (simp [entryFrame, mkF, argsToLocals, Value.category]; done) | rfl
def Q21 (Z : State) (i : Nat) (mm : Nat) (sf : Value) (h0 : Heap) (n0 : Nat) (v : Option Value) (h : Heap) (L : List Loc) : Prop := v = none ∧ Fr n0 L ∧ h = h0
set_option maxRecDepth 65536 in
set_option maxHeartbeats 40000000 in
theorem rm21 (l : Launch) (Z : State) (a0 : Array Value) (hw : ∀ d ∈ tables_1, d.before a0 Z = true) (ws : List Jvm.Cond) (i : Nat) (mm : Nat) (sf : Value) (h0 : Heap) (n0 : Nat) (Z0 : n0 ≤ h0.size) (SF : Sta Z h0 "jdk/internal/util/Preconditions" "SIOOBE_FORMATTER" "Ljava/util/function/BiFunction;" sf) (hsf : sf = .null ∨ ∃ a, sf = .ref a) (hi : i < mm) (hm : mm ≤ 6) :
    MetFree l (⟨"java/lang/String", "checkIndex", "(II)V"⟩ : MethodName) (head1 (Jvm.Cond.code (⟨"java/lang/String", "checkIndex", "(II)V"⟩ : MethodName) jdk_42_method_155_code 2 none :: ws) ({ frames := 1, cells := 0, slots := 0, locals := 14 } : Room)) (fun a U => a = #[(.int (Int32.ofNat i)), (.int (Int32.ofNat mm))] ∧ Z.Warmed39 U.vm ∧ U.heap = h0) (fun _ _ _ _ _ => True) (fun _ U oz U' => ∃ v L, oz = .returned v ∧ Q21 Z i mm sf h0 n0 v U'.heap L ∧ FrameEnd U oz U' L (({ frames := 1, cells := 0, slots := 0, locals := 14 } : Room)).cells (({ frames := 1, cells := 0, slots := 0, locals := 14 } : Room)).slots) := by
  refine MetFree.of_bodySF (plainFor_of_name pn_3) hisR ?_
  intro p e s m args below meth c s₁ Bd hml0 hP hK
  obtain ⟨rfl, hZ, hh⟩ := hP
  have hx := Bd.exec
  have hby := Bd.bytes
  have hml : c.maxLocals = 2 := hml0
  have hown : s.vm.findClass "java/lang/String" = some m.cls := findClass_of_methodNamed Bd.named
  have hnm := (name_of_methodNamed Bd.named Bd.method).1
  have X0 : Stand p l e ({ frames := 1, cells := 0, slots := 0, locals := 14 } : Room) s m #[(.int (Int32.ofNat i)), (.int (Int32.ofNat mm))] below meth c s₁ [] 0 0 := Stand.of_body Bd
  have e0 : s₁.heap = h0 := by rw [← hh, Bd.state]; rfl
  have N0 := Fr.nil n0
  show own_Go p.tables e below (own_P s (Q21 Z i mm sf h0 n0) ({ frames := 1, cells := 0, slots := 0, locals := 14 } : Room).cells ({ frames := 1, cells := 0, slots := 0, locals := 14 } : Room).slots) s₁ _
  rw [ef_21]
  show own_Go p.tables e below _ s₁ (mkF m 0 #[.val (.int (Int32.ofNat i)), .val (.int (Int32.ofNat mm))] [])
  refine own_go (fun tz kz => XS.iloadN X0.here hx rfl (hb hby d21_0) rfl kz) ?_
  show own_Go p.tables e below _ s₁ (mkF m 1 #[.val (.int (Int32.ofNat i)), .val (.int (Int32.ofNat mm))] [(.int (Int32.ofNat i))])
  refine own_go (fun tz kz => XS.iloadN X0.here hx rfl (hb hby d21_1) rfl kz) ?_
  show own_Go p.tables e below _ s₁ (mkF m 2 #[.val (.int (Int32.ofNat i)), .val (.int (Int32.ofNat mm))] [(.int (Int32.ofNat mm)), (.int (Int32.ofNat i))])
  obtain ⟨T1, X1, e1, st1⟩ := getS2 X0 hx hZ hown (host := "") (Or.inl (hw _ (List.mem_of_getElem? (i := 92) rfl))) Via.refl e0 SF (g := (mkF m 2 #[.val (.int (Int32.ofNat i)), .val (.int (Int32.ofNat mm))] [(.int (Int32.ofNat mm)), (.int (Int32.ofNat i))])) rfl (hb hby d21_2)
  refine own_go st1 ?_
  show own_Go p.tables e below _ T1 (mkF m 5 #[.val (.int (Int32.ofNat i)), .val (.int (Int32.ofNat mm))] [sf, (.int (Int32.ofNat mm)), (.int (Int32.ofNat i))])
  obtain rfl | ⟨a3, rfl⟩ := hsf
  ·
    show own_Go p.tables e below _ T1 (mkF m 5 #[.val (.int (Int32.ofNat i)), .val (.int (Int32.ofNat mm))] [.null, (.int (Int32.ofNat mm)), (.int (Int32.ofNat i))])
    obtain ⟨_, _, ⟨T2, L2, k2, n2⟩, -, X2, ⟨Lc2, hQ2, l2, y2, z2⟩, st2⟩ := Jvm.LawKit.callS X1 hx (y := (⟨"jdk/internal/util/Preconditions", "checkIndex", "(IILjava/util/function/BiFunction;)I"⟩ : MethodName)) hown (mvT hZ (hw _ (List.mem_of_getElem? (i := 94) rfl))) (mvT hZ (hw _ (List.mem_of_getElem? (i := 95) rfl))) (mvT hZ (hw _ (List.mem_of_getElem? (i := 93) rfl))) (mvT hZ (hw _ (List.mem_of_getElem? (i := 96) rfl))) (by decide) (backOf (W := 0) (rm22n l Z a0 hw [] i mm  h0 n0 Z0 hi hm) hZ (hw _ (List.mem_of_getElem? (i := 96) rfl)) (hw _ (List.mem_of_getElem? (i := 93) rfl)) (by decide) (by decide)) (g := (mkF m 5 #[.val (.int (Int32.ofNat i)), .val (.int (Int32.ofNat mm))] [.null, (.int (Int32.ofNat mm)), (.int (Int32.ofNat i))])) rfl (by rw [hml]; rfl) (argsL := [(.int (Int32.ofNat i)), (.int (Int32.ofNat mm)), .null]) (rest := []) (lenOf pd_6 rfl) rfl (by show 2 * 0 + _ ≤ _; exact Nat.le_of_eq rfl) (hb hby d21_5) (fun _ _ => ⟨rfl, e1, (by decide : 0 + 0 ≤ _), (by decide : 0 + 0 ≤ _)⟩)
    dsimp only [Pt.U, Pt.locs, Pt.cells, Pt.slots] at X2 l2 y2 z2 st2 hQ2
    subst l2 y2 z2
    obtain ⟨rfl, N2q, e2⟩ := hQ2
    have N2 := Fr.app N0 N2q
    refine own_go (fun tz kz => st2 tz kz) ?_
    show own_Go p.tables e below _ T2 (mkF m 8 #[.val (.int (Int32.ofNat i)), .val (.int (Int32.ofNat mm))] [(.int (Int32.ofNat i))])
    refine own_go (fun tz kz => XT.pop X2.here hx rfl (hb hby d21_8) rfl rfl kz) ?_
    show own_Go p.tables e below _ T2 (mkF m 9 #[.val (.int (Int32.ofNat i)), .val (.int (Int32.ofNat mm))] [])
    obtain ⟨fs, hr, hrun, hended, hW, hsame⟩ := X2.leave (v := none) (fun _ => rfl) (BodyLoose.notSynchronized Bd)
    refine ⟨_, _, ?_, hrun, hended, _, _, rfl, ?_, ⟨_, rfl⟩, hW, hsame.mono (by decide) (by decide)⟩
    · exact X2.returnOut hx Bd.returns (hb hby d21_9) hr
    · show Q21 Z i mm (.null : Value) h0 n0 _ T2.heap _
      rw [e2]
      exact ⟨rfl, N2, rfl⟩
  ·
    show own_Go p.tables e below _ T1 (mkF m 5 #[.val (.int (Int32.ofNat i)), .val (.int (Int32.ofNat mm))] [(.ref a3), (.int (Int32.ofNat mm)), (.int (Int32.ofNat i))])
    obtain ⟨_, _, ⟨T3, L3, k3, n3⟩, -, X3, ⟨Lc3, hQ3, l3, y3, z3⟩, st3⟩ := Jvm.LawKit.callS X1 hx (y := (⟨"jdk/internal/util/Preconditions", "checkIndex", "(IILjava/util/function/BiFunction;)I"⟩ : MethodName)) hown (mvT hZ (hw _ (List.mem_of_getElem? (i := 94) rfl))) (mvT hZ (hw _ (List.mem_of_getElem? (i := 95) rfl))) (mvT hZ (hw _ (List.mem_of_getElem? (i := 93) rfl))) (mvT hZ (hw _ (List.mem_of_getElem? (i := 96) rfl))) (by decide) (backOf (W := 0) (rm22r l Z a0 hw [] i mm a3 h0 n0 Z0 hi hm) hZ (hw _ (List.mem_of_getElem? (i := 96) rfl)) (hw _ (List.mem_of_getElem? (i := 93) rfl)) (by decide) (by decide)) (g := (mkF m 5 #[.val (.int (Int32.ofNat i)), .val (.int (Int32.ofNat mm))] [(.ref a3), (.int (Int32.ofNat mm)), (.int (Int32.ofNat i))])) rfl (by rw [hml]; rfl) (argsL := [(.int (Int32.ofNat i)), (.int (Int32.ofNat mm)), (.ref a3)]) (rest := []) (lenOf pd_6 rfl) rfl (by show 2 * 0 + _ ≤ _; exact Nat.le_of_eq rfl) (hb hby d21_5) (fun _ _ => ⟨rfl, e1, (by decide : 0 + 0 ≤ _), (by decide : 0 + 0 ≤ _)⟩)
    dsimp only [Pt.U, Pt.locs, Pt.cells, Pt.slots] at X3 l3 y3 z3 st3 hQ3
    subst l3 y3 z3
    obtain ⟨rfl, N3q, e3⟩ := hQ3
    have N3 := Fr.app N0 N3q
    refine own_go (fun tz kz => st3 tz kz) ?_
    show own_Go p.tables e below _ T3 (mkF m 8 #[.val (.int (Int32.ofNat i)), .val (.int (Int32.ofNat mm))] [(.int (Int32.ofNat i))])
    refine own_go (fun tz kz => XT.pop X3.here hx rfl (hb hby d21_8) rfl rfl kz) ?_
    show own_Go p.tables e below _ T3 (mkF m 9 #[.val (.int (Int32.ofNat i)), .val (.int (Int32.ofNat mm))] [])
    obtain ⟨fs, hr, hrun, hended, hW, hsame⟩ := X3.leave (v := none) (fun _ => rfl) (BodyLoose.notSynchronized Bd)
    refine ⟨_, _, ?_, hrun, hended, _, _, rfl, ?_, ⟨_, rfl⟩, hW, hsame.mono (by decide) (by decide)⟩
    · exact X3.returnOut hx Bd.returns (hb hby d21_9) hr
    · show Q21 Z i mm (.ref a3 : Value) h0 n0 _ T3.heap _
      rw [e3]
      exact ⟨rfl, N3, rfl⟩
theorem d20_0 : decode jdk_52_method_6_code 0 = .ok (.aload_n 0, 1) := by decide +kernel
theorem d20_1 : decode jdk_52_method_6_code 1 = .ok (.arraylength, 1) := by decide +kernel
theorem d20_2 : decode jdk_52_method_6_code 2 = .ok (.iconst 1, 1) := by decide +kernel
theorem d20_3 : decode jdk_52_method_6_code 3 = .ok (.ishr, 1) := by decide +kernel
theorem d20_4 : decode jdk_52_method_6_code 4 = .ok (.ireturn, 1) := by decide +kernel
theorem ef_20 (m : MethodId) {ba : Addr} : entryFrame m #[(.ref ba)] 1 = mkF m 0 #[.val (.ref ba)] [] := by first | (simp [entryFrame, mkF, argsToLocals, Value.category]; done) | rfl
def Q20 (Z : State) (ba : Addr) (n : Nat) (f : Nat → Int32) (h0 : Heap) (n0 : Nat) (v : Option Value) (h : Heap) (L : List Loc) : Prop := v = some (.int (Int32.ofNat n)) ∧ Fr n0 L ∧ h = h0
set_option maxRecDepth 65536 in
set_option maxHeartbeats 40000000 in
theorem rm20 (l : Launch) (Z : State) (a0 : Array Value) (hw : ∀ d ∈ tables_1, d.before a0 Z = true) (ws : List Jvm.Cond) (ba : Addr) (n : Nat) (f : Nat → Int32) (h0 : Heap) (n0 : Nat) (Z0 : n0 ≤ h0.size) (Va : own_Av Z h0 ba .byte (2 * n) (fun k => .int (f k))) (hn : n < 4) :
    MetFree l (⟨"java/lang/StringUTF16", "length", "([B)I"⟩ : MethodName) (head1 (Jvm.Cond.code (⟨"java/lang/StringUTF16", "length", "([B)I"⟩ : MethodName) jdk_52_method_6_code 1 (some .int) :: ws) ({ frames := 0, cells := 0, slots := 0, locals := 0 } : Room)) (fun a U => a = #[(.ref ba)] ∧ Z.Warmed39 U.vm ∧ U.heap = h0) (fun _ _ _ _ _ => True) (fun _ U oz U' => ∃ v L, oz = .returned v ∧ Q20 Z ba n f h0 n0 v U'.heap L ∧ FrameEnd U oz U' L (({ frames := 0, cells := 0, slots := 0, locals := 0 } : Room)).cells (({ frames := 0, cells := 0, slots := 0, locals := 0 } : Room)).slots) := by
  refine MetFree.of_bodySF (plainFor_of_name pn_1) hisR ?_
  intro p e s m args below meth c s₁ Bd hml0 hP hK
  obtain ⟨rfl, hZ, hh⟩ := hP
  have hx := Bd.exec
  have hby := Bd.bytes
  have hml : c.maxLocals = 1 := hml0
  have hown : s.vm.findClass "java/lang/StringUTF16" = some m.cls := findClass_of_methodNamed Bd.named
  have hnm := (name_of_methodNamed Bd.named Bd.method).1
  have X0 : Stand p l e ({ frames := 0, cells := 0, slots := 0, locals := 0 } : Room) s m #[(.ref ba)] below meth c s₁ [] 0 0 := Stand.of_body Bd
  have e0 : s₁.heap = h0 := by rw [← hh, Bd.state]; rfl
  have N0 := Fr.nil n0
  show own_Go p.tables e below (own_P s (Q20 Z ba n f h0 n0) ({ frames := 0, cells := 0, slots := 0, locals := 0 } : Room).cells ({ frames := 0, cells := 0, slots := 0, locals := 0 } : Room).slots) s₁ _
  rw [ef_20]
  show own_Go p.tables e below _ s₁ (mkF m 0 #[.val (.ref ba)] [])
  refine own_go (fun tz kz => XS.aloadN X0.here hx rfl (hb hby d20_0) rfl rfl kz) ?_
  show own_Go p.tables e below _ s₁ (mkF m 1 #[.val (.ref ba)] [(.ref ba)])
  obtain ⟨c1, Ar1, Sz1, Ge1⟩ := id (Va)
  refine own_go (fun tz kz => X0.arraylength hx (by rw [e0]; exact Ar1.1) (State.isArrayOf_alike hZ.alike Ar1.2.1) (g := (mkF m 1 #[.val (.ref ba)] [(.ref ba)])) rfl rfl (hb hby d20_1) tz kz) ?_
  rw [Sz1]
  show own_Go p.tables e below _ s₁ (mkF m 2 #[.val (.ref ba)] [(.int (Int32.ofNat (2 * n)))])
  refine own_go (fun tz kz => XS.iconst X0.here hx rfl (hb hby d20_2) kz) ?_
  show own_Go p.tables e below _ s₁ (mkF m 3 #[.val (.ref ba)] [(.int (1 : Int32)), (.int (Int32.ofNat (2 * n)))])
  refine own_go (fun tz kz => XT.ishr X0.here hx rfl (hb hby d20_3) rfl kz) ?_
  show own_Go p.tables e below _ s₁ (mkF m 4 #[.val (.ref ba)] [(.int ((Int32.ofNat (2 * n)) >>> ((1 : Int32) &&& 31)))])
  rw [show ((Int32.ofNat (2 * n)) >>> ((1 : Int32) &&& 31)) = (Int32.ofNat n) from own_half hn]
  show own_Go p.tables e below _ s₁ (mkF m 4 #[.val (.ref ba)] [(.int (Int32.ofNat n))])
  obtain ⟨fs, hr, hrun, hended, hW, hsame⟩ := X0.leave (v := some (.int (Int32.ofNat n))) (fun h => by rw [Bd.returns] at h; cases h) (BodyLoose.notSynchronized Bd)
  refine ⟨_, _, ?_, hrun, hended, _, _, rfl, ?_, ⟨_, rfl⟩, hW, hsame.mono (by decide) (by decide)⟩
  · exact retI X0 hx Bd.returns (hb hby d20_4) hr
  · show Q20 Z ba n f h0 n0 _ s₁.heap _
    rw [e0]
    exact ⟨rfl, N0, rfl⟩
theorem d19_0 : decode jdk_52_method_91_code 0 = .ok (.iload_n 0, 1) := by decide +kernel
theorem d19_1 : decode jdk_52_method_91_code 1 = .ok (.aload_n 1, 1) := by decide +kernel
theorem d19_2 : decode jdk_52_method_91_code 2 = .ok (.invokestatic 48, 3) := by decide +kernel
theorem d19_5 : decode jdk_52_method_91_code 5 = .ok (.invokestatic 414, 3) := by decide +kernel
theorem d19_8 : decode jdk_52_method_91_code 8 = .ok (.return_, 1) := by decide +kernel
theorem pd_7 : parseMethodDescriptor "([B)I" = some ⟨[(.array .byte)], some .int⟩ := by decide +kernel
theorem pd_8 : parseMethodDescriptor "(II)V" = some ⟨[.int, .int], none⟩ := by decide +kernel
theorem ef_19 (m : MethodId) {i : Nat} {ba : Addr} : entryFrame m #[(.int (Int32.ofNat i)), (.ref ba)] 2 = mkF m 0 #[.val (.int (Int32.ofNat i)), .val (.ref ba)] [] := by first | (simp [entryFrame, mkF, argsToLocals, Value.category]; done) | rfl
def Q19 (Z : State) (i : Nat) (ba : Addr) (n : Nat) (f : Nat → Int32) (sf : Value) (h0 : Heap) (n0 : Nat) (v : Option Value) (h : Heap) (L : List Loc) : Prop := v = none ∧ Fr n0 L ∧ h = h0
set_option maxRecDepth 65536 in
set_option maxHeartbeats 40000000 in
theorem rm19 (l : Launch) (Z : State) (a0 : Array Value) (hw : ∀ d ∈ tables_1, d.before a0 Z = true) (ws : List Jvm.Cond) (i : Nat) (ba : Addr) (n : Nat) (f : Nat → Int32) (sf : Value) (h0 : Heap) (n0 : Nat) (Z0 : n0 ≤ h0.size) (SF : Sta Z h0 "jdk/internal/util/Preconditions" "SIOOBE_FORMATTER" "Ljava/util/function/BiFunction;" sf) (hsf : sf = .null ∨ ∃ a, sf = .ref a) (Va : own_Av Z h0 ba .byte (2 * n) (fun k => .int (f k))) (hn : n < 4) (hi : i < n) :
    MetFree l (⟨"java/lang/StringUTF16", "checkIndex", "(I[B)V"⟩ : MethodName) (head1 (Jvm.Cond.code (⟨"java/lang/StringUTF16", "checkIndex", "(I[B)V"⟩ : MethodName) jdk_52_method_91_code 2 none :: ws) ({ frames := 2, cells := 0, slots := 0, locals := 27 } : Room)) (fun a U => a = #[(.int (Int32.ofNat i)), (.ref ba)] ∧ Z.Warmed39 U.vm ∧ U.heap = h0) (fun _ _ _ _ _ => True) (fun _ U oz U' => ∃ v L, oz = .returned v ∧ Q19 Z i ba n f sf h0 n0 v U'.heap L ∧ FrameEnd U oz U' L (({ frames := 2, cells := 0, slots := 0, locals := 27 } : Room)).cells (({ frames := 2, cells := 0, slots := 0, locals := 27 } : Room)).slots) := by
  refine MetFree.of_bodySF (plainFor_of_name pn_1) hisR ?_
  intro p e s m args below meth c s₁ Bd hml0 hP hK
  obtain ⟨rfl, hZ, hh⟩ := hP
  have hx := Bd.exec
  have hby := Bd.bytes
  have hml : c.maxLocals = 2 := hml0
  have hown : s.vm.findClass "java/lang/StringUTF16" = some m.cls := findClass_of_methodNamed Bd.named
  have hnm := (name_of_methodNamed Bd.named Bd.method).1
  have X0 : Stand p l e ({ frames := 2, cells := 0, slots := 0, locals := 27 } : Room) s m #[(.int (Int32.ofNat i)), (.ref ba)] below meth c s₁ [] 0 0 := Stand.of_body Bd
  have e0 : s₁.heap = h0 := by rw [← hh, Bd.state]; rfl
  have N0 := Fr.nil n0
  show own_Go p.tables e below (own_P s (Q19 Z i ba n f sf h0 n0) ({ frames := 2, cells := 0, slots := 0, locals := 27 } : Room).cells ({ frames := 2, cells := 0, slots := 0, locals := 27 } : Room).slots) s₁ _
  rw [ef_19]
  show own_Go p.tables e below _ s₁ (mkF m 0 #[.val (.int (Int32.ofNat i)), .val (.ref ba)] [])
  refine own_go (fun tz kz => XS.iloadN X0.here hx rfl (hb hby d19_0) rfl kz) ?_
  show own_Go p.tables e below _ s₁ (mkF m 1 #[.val (.int (Int32.ofNat i)), .val (.ref ba)] [(.int (Int32.ofNat i))])
  refine own_go (fun tz kz => XS.aloadN X0.here hx rfl (hb hby d19_1) rfl rfl kz) ?_
  show own_Go p.tables e below _ s₁ (mkF m 2 #[.val (.int (Int32.ofNat i)), .val (.ref ba)] [(.ref ba), (.int (Int32.ofNat i))])
  obtain ⟨_, _, ⟨T1, L1, k1, n1⟩, -, X1, ⟨Lc1, hQ1, l1, y1, z1⟩, st1⟩ := Jvm.LawKit.callS X0 hx (y := (⟨"java/lang/StringUTF16", "length", "([B)I"⟩ : MethodName)) hown (mvT hZ (hw _ (List.mem_of_getElem? (i := 86) rfl))) (mvT hZ (hw _ (List.mem_of_getElem? (i := 87) rfl))) (mvT hZ (hw _ (List.mem_of_getElem? (i := 39) rfl))) (mvT hZ (hw _ (List.mem_of_getElem? (i := 88) rfl))) (by decide) (backOf (W := 1) (rm20 l Z a0 hw [] ba n f h0 n0 Z0 Va hn) hZ (hw _ (List.mem_of_getElem? (i := 88) rfl)) (hw _ (List.mem_of_getElem? (i := 39) rfl)) (by decide) (by decide)) (g := (mkF m 2 #[.val (.int (Int32.ofNat i)), .val (.ref ba)] [(.ref ba), (.int (Int32.ofNat i))])) rfl (by rw [hml]; rfl) (argsL := [(.ref ba)]) (rest := [(.int (Int32.ofNat i))]) (lenOf pd_7 rfl) rfl (by show 2 * 0 + _ ≤ _; exact Nat.le_of_eq rfl) (hb hby d19_2) (fun _ _ => ⟨rfl, e0, (by decide : 0 + 0 ≤ _), (by decide : 0 + 0 ≤ _)⟩)
  dsimp only [Pt.U, Pt.locs, Pt.cells, Pt.slots] at X1 l1 y1 z1 st1 hQ1
  subst l1 y1 z1
  obtain ⟨rfl, N1q, e1⟩ := hQ1
  have N1 := Fr.app N0 N1q
  refine own_go (fun tz kz => st1 tz kz) ?_
  show own_Go p.tables e below _ T1 (mkF m 5 #[.val (.int (Int32.ofNat i)), .val (.ref ba)] [(.int (Int32.ofNat n)), (.int (Int32.ofNat i))])
  obtain ⟨_, _, ⟨T2, L2, k2, n2⟩, -, X2, ⟨Lc2, hQ2, l2, y2, z2⟩, st2⟩ := Jvm.LawKit.callS X1 hx (y := (⟨"java/lang/String", "checkIndex", "(II)V"⟩ : MethodName)) hown (mvT hZ (hw _ (List.mem_of_getElem? (i := 89) rfl))) (mvT hZ (hw _ (List.mem_of_getElem? (i := 90) rfl))) (mvT hZ (hw _ (List.mem_of_getElem? (i := 3) rfl))) (mvT hZ (hw _ (List.mem_of_getElem? (i := 91) rfl))) (by decide) (backOf (W := 0) (rm21 l Z a0 hw [] i n sf h0 n0 Z0 SF hsf hi (by omega)) hZ (hw _ (List.mem_of_getElem? (i := 91) rfl)) (hw _ (List.mem_of_getElem? (i := 3) rfl)) (by decide) (by decide)) (g := (mkF m 5 #[.val (.int (Int32.ofNat i)), .val (.ref ba)] [(.int (Int32.ofNat n)), (.int (Int32.ofNat i))])) rfl (by rw [hml]; rfl) (argsL := [(.int (Int32.ofNat i)), (.int (Int32.ofNat n))]) (rest := []) (lenOf pd_8 rfl) rfl (by show 2 * 0 + _ ≤ _; exact Nat.le_of_eq rfl) (hb hby d19_5) (fun _ _ => ⟨rfl, e1, (by decide : 0 + 0 ≤ _), (by decide : 0 + 0 ≤ _)⟩)
  dsimp only [Pt.U, Pt.locs, Pt.cells, Pt.slots] at X2 l2 y2 z2 st2 hQ2
  subst l2 y2 z2
  obtain ⟨rfl, N2q, e2⟩ := hQ2
  have N2 := Fr.app N1 N2q
  refine own_go (fun tz kz => st2 tz kz) ?_
  show own_Go p.tables e below _ T2 (mkF m 8 #[.val (.int (Int32.ofNat i)), .val (.ref ba)] [])
  obtain ⟨fs, hr, hrun, hended, hW, hsame⟩ := X2.leave (v := none) (fun _ => rfl) (BodyLoose.notSynchronized Bd)
  refine ⟨_, _, ?_, hrun, hended, _, _, rfl, ?_, ⟨_, rfl⟩, hW, hsame.mono (by decide) (by decide)⟩
  · exact X2.returnOut hx Bd.returns (hb hby d19_8) hr
  · show Q19 Z i ba n f sf h0 n0 _ T2.heap _
    rw [e2]
    exact ⟨rfl, N2, rfl⟩
theorem d18_0 : decode jdk_52_method_83_code 0 = .ok (.iload_n 1, 1) := by decide +kernel
theorem d18_1 : decode jdk_52_method_83_code 1 = .ok (.aload_n 0, 1) := by decide +kernel
theorem d18_2 : decode jdk_52_method_83_code 2 = .ok (.invokestatic 67, 3) := by decide +kernel
theorem d18_5 : decode jdk_52_method_83_code 5 = .ok (.aload_n 0, 1) := by decide +kernel
theorem d18_6 : decode jdk_52_method_83_code 6 = .ok (.iload_n 1, 1) := by decide +kernel
theorem d18_7 : decode jdk_52_method_83_code 7 = .ok (.invokestatic 71, 3) := by decide +kernel
theorem d18_10 : decode jdk_52_method_83_code 10 = .ok (.ireturn, 1) := by decide +kernel
theorem pd_9 : parseMethodDescriptor "(I[B)V" = some ⟨[.int, (.array .byte)], none⟩ := by decide +kernel
theorem ef_18 (m : MethodId) {ba : Addr} {i : Nat} : entryFrame m #[(.ref ba), (.int (Int32.ofNat i))] 2 = mkF m 0 #[.val (.ref ba), .val (.int (Int32.ofNat i))] [] := by first | (simp [entryFrame, mkF, argsToLocals, Value.category]; done) | rfl
def Q18 (Z : State) (ba : Addr) (i : Nat) (n : Nat) (f : Nat → Int32) (sf : Value) (h0 : Heap) (n0 : Nat) (v : Option Value) (h : Heap) (L : List Loc) : Prop := v = some (.int (own_gc (f (2 * i)) (f (2 * i + 1)))) ∧ Fr n0 L ∧ h = h0
set_option maxRecDepth 65536 in
set_option maxHeartbeats 40000000 in
theorem rm18 (l : Launch) (Z : State) (a0 : Array Value) (hw : ∀ d ∈ tables_1, d.before a0 Z = true) (ws : List Jvm.Cond) (ba : Addr) (i : Nat) (n : Nat) (f : Nat → Int32) (sf : Value) (h0 : Heap) (n0 : Nat) (Z0 : n0 ≤ h0.size) (SF : Sta Z h0 "jdk/internal/util/Preconditions" "SIOOBE_FORMATTER" "Ljava/util/function/BiFunction;" sf) (hsf : sf = .null ∨ ∃ a, sf = .ref a) (AD : Sta Z h0 "java/lang/StringUTF16" "$assertionsDisabled" "Z" (.int 1)) (HB : Sta Z h0 "java/lang/StringUTF16" "HI_BYTE_SHIFT" "I" (.int 0)) (LB : Sta Z h0 "java/lang/StringUTF16" "LO_BYTE_SHIFT" "I" (.int 8)) (Va : own_Av Z h0 ba .byte (2 * n) (fun k => .int (f k))) (hn : n < 4) (hi : i < n) :
    MetFree l (⟨"java/lang/StringUTF16", "charAt", "([BI)C"⟩ : MethodName) (head1 (Jvm.Cond.code (⟨"java/lang/StringUTF16", "charAt", "([BI)C"⟩ : MethodName) jdk_52_method_83_code 2 (some .char) :: ws) ({ frames := 3, cells := 0, slots := 0, locals := 40 } : Room)) (fun a U => a = #[(.ref ba), (.int (Int32.ofNat i))] ∧ Z.Warmed39 U.vm ∧ U.heap = h0) (fun _ _ _ _ _ => True) (fun _ U oz U' => ∃ v L, oz = .returned v ∧ Q18 Z ba i n f sf h0 n0 v U'.heap L ∧ FrameEnd U oz U' L (({ frames := 3, cells := 0, slots := 0, locals := 40 } : Room)).cells (({ frames := 3, cells := 0, slots := 0, locals := 40 } : Room)).slots) := by
  refine MetFree.of_bodySF (plainFor_of_name pn_1) hisR ?_
  intro p e s m args below meth c s₁ Bd hml0 hP hK
  obtain ⟨rfl, hZ, hh⟩ := hP
  have hx := Bd.exec
  have hby := Bd.bytes
  have hml : c.maxLocals = 2 := hml0
  have hown : s.vm.findClass "java/lang/StringUTF16" = some m.cls := findClass_of_methodNamed Bd.named
  have hnm := (name_of_methodNamed Bd.named Bd.method).1
  have X0 : Stand p l e ({ frames := 3, cells := 0, slots := 0, locals := 40 } : Room) s m #[(.ref ba), (.int (Int32.ofNat i))] below meth c s₁ [] 0 0 := Stand.of_body Bd
  have e0 : s₁.heap = h0 := by rw [← hh, Bd.state]; rfl
  have N0 := Fr.nil n0
  show own_Go p.tables e below (own_P s (Q18 Z ba i n f sf h0 n0) ({ frames := 3, cells := 0, slots := 0, locals := 40 } : Room).cells ({ frames := 3, cells := 0, slots := 0, locals := 40 } : Room).slots) s₁ _
  rw [ef_18]
  show own_Go p.tables e below _ s₁ (mkF m 0 #[.val (.ref ba), .val (.int (Int32.ofNat i))] [])
  refine own_go (fun tz kz => XS.iloadN X0.here hx rfl (hb hby d18_0) rfl kz) ?_
  show own_Go p.tables e below _ s₁ (mkF m 1 #[.val (.ref ba), .val (.int (Int32.ofNat i))] [(.int (Int32.ofNat i))])
  refine own_go (fun tz kz => XS.aloadN X0.here hx rfl (hb hby d18_1) rfl rfl kz) ?_
  show own_Go p.tables e below _ s₁ (mkF m 2 #[.val (.ref ba), .val (.int (Int32.ofNat i))] [(.ref ba), (.int (Int32.ofNat i))])
  obtain ⟨_, _, ⟨T1, L1, k1, n1⟩, -, X1, ⟨Lc1, hQ1, l1, y1, z1⟩, st1⟩ := Jvm.LawKit.callS X0 hx (y := (⟨"java/lang/StringUTF16", "checkIndex", "(I[B)V"⟩ : MethodName)) hown (mvT hZ (hw _ (List.mem_of_getElem? (i := 83) rfl))) (mvT hZ (hw _ (List.mem_of_getElem? (i := 84) rfl))) (mvT hZ (hw _ (List.mem_of_getElem? (i := 39) rfl))) (mvT hZ (hw _ (List.mem_of_getElem? (i := 85) rfl))) (by decide) (backOf (W := 0) (rm19 l Z a0 hw [] i ba n f sf h0 n0 Z0 SF hsf Va hn hi) hZ (hw _ (List.mem_of_getElem? (i := 85) rfl)) (hw _ (List.mem_of_getElem? (i := 39) rfl)) (by decide) (by decide)) (g := (mkF m 2 #[.val (.ref ba), .val (.int (Int32.ofNat i))] [(.ref ba), (.int (Int32.ofNat i))])) rfl (by rw [hml]; rfl) (argsL := [(.int (Int32.ofNat i)), (.ref ba)]) (rest := []) (lenOf pd_9 rfl) rfl (by show 2 * 0 + _ ≤ _; exact Nat.le_of_eq rfl) (hb hby d18_2) (fun _ _ => ⟨rfl, e0, (by decide : 0 + 0 ≤ _), (by decide : 0 + 0 ≤ _)⟩)
  dsimp only [Pt.U, Pt.locs, Pt.cells, Pt.slots] at X1 l1 y1 z1 st1 hQ1
  subst l1 y1 z1
  obtain ⟨rfl, N1q, e1⟩ := hQ1
  have N1 := Fr.app N0 N1q
  refine own_go (fun tz kz => st1 tz kz) ?_
  show own_Go p.tables e below _ T1 (mkF m 5 #[.val (.ref ba), .val (.int (Int32.ofNat i))] [])
  refine own_go (fun tz kz => XS.aloadN X1.here hx rfl (hb hby d18_5) rfl rfl kz) ?_
  show own_Go p.tables e below _ T1 (mkF m 6 #[.val (.ref ba), .val (.int (Int32.ofNat i))] [(.ref ba)])
  refine own_go (fun tz kz => XS.iloadN X1.here hx rfl (hb hby d18_6) rfl kz) ?_
  show own_Go p.tables e below _ T1 (mkF m 7 #[.val (.ref ba), .val (.int (Int32.ofNat i))] [(.int (Int32.ofNat i)), (.ref ba)])
  obtain ⟨_, _, ⟨T2, L2, k2, n2⟩, -, X2, ⟨Lc2, hQ2, l2, y2, z2⟩, st2⟩ := Jvm.LawKit.callS X1 hx (y := (⟨"java/lang/StringUTF16", "getChar", "([BI)C"⟩ : MethodName)) hown (mvT hZ (hw _ (List.mem_of_getElem? (i := 60) rfl))) (mvT hZ (hw _ (List.mem_of_getElem? (i := 61) rfl))) (mvT hZ (hw _ (List.mem_of_getElem? (i := 39) rfl))) (mvT hZ (hw _ (List.mem_of_getElem? (i := 62) rfl))) (by decide) (backOf (W := 0) (rm13 l Z a0 hw [] ba i (2 * n) f h0 n0 Z0 AD HB LB Va (by omega) (by omega)) hZ (hw _ (List.mem_of_getElem? (i := 62) rfl)) (hw _ (List.mem_of_getElem? (i := 39) rfl)) (by decide) (by decide)) (g := (mkF m 7 #[.val (.ref ba), .val (.int (Int32.ofNat i))] [(.int (Int32.ofNat i)), (.ref ba)])) rfl (by rw [hml]; rfl) (argsL := [(.ref ba), (.int (Int32.ofNat i))]) (rest := []) (lenOf pd_5 rfl) rfl (by show 2 * 0 + _ ≤ _; exact Nat.le_of_eq rfl) (hb hby d18_7) (fun _ _ => ⟨rfl, e1, (by decide : 0 + 0 ≤ _), (by decide : 0 + 0 ≤ _)⟩)
  dsimp only [Pt.U, Pt.locs, Pt.cells, Pt.slots] at X2 l2 y2 z2 st2 hQ2
  subst l2 y2 z2
  obtain ⟨rfl, N2q, e2⟩ := hQ2
  have N2 := Fr.app N1 N2q
  refine own_go (fun tz kz => st2 tz kz) ?_
  show own_Go p.tables e below _ T2 (mkF m 10 #[.val (.ref ba), .val (.int (Int32.ofNat i))] [(.int (own_gc (f (2 * i)) (f (2 * i + 1))))])
  obtain ⟨fs, hr, hrun, hended, hW, hsame⟩ := X2.leave (v := some (.int (nar .char (own_gc (f (2 * i)) (f (2 * i + 1)))))) (fun h => by rw [Bd.returns] at h; cases h) (BodyLoose.notSynchronized Bd)
  refine ⟨_, _, ?_, hrun, hended, _, _, rfl, ?_, ⟨_, rfl⟩, hW, hsame.mono (by decide) (by decide)⟩
  · exact retN X2 hx (t := .char) Bd.returns (by simp) (hb hby d18_10) hr
  · show Q18 Z ba i n f sf h0 n0 _ T2.heap _
    rw [e2]
    exact ⟨congrArg (fun z => some (Value.int z)) (own_ch_ch _), N2, rfl⟩
theorem d23_0 : decode jdk_43_method_2_code 0 = .ok (.iload_n 1, 1) := by decide +kernel
theorem d23_1 : decode jdk_43_method_2_code 1 = .ok (.aload_n 0, 1) := by decide +kernel
theorem d23_2 : decode jdk_43_method_2_code 2 = .ok (.arraylength, 1) := by decide +kernel
theorem d23_3 : decode jdk_43_method_2_code 3 = .ok (.invokestatic 9, 3) := by decide +kernel
theorem d23_6 : decode jdk_43_method_2_code 6 = .ok (.aload_n 0, 1) := by decide +kernel
theorem d23_7 : decode jdk_43_method_2_code 7 = .ok (.iload_n 1, 1) := by decide +kernel
theorem d23_8 : decode jdk_43_method_2_code 8 = .ok (.baload, 1) := by decide +kernel
theorem d23_9 : decode jdk_43_method_2_code 9 = .ok (.sipush 255, 3) := by decide +kernel
theorem d23_12 : decode jdk_43_method_2_code 12 = .ok (.iand, 1) := by decide +kernel
theorem d23_13 : decode jdk_43_method_2_code 13 = .ok (.i2c, 1) := by decide +kernel
theorem d23_14 : decode jdk_43_method_2_code 14 = .ok (.ireturn, 1) := by decide +kernel
theorem pn_4 : plainName "java/lang/StringLatin1" = true := by first | (simp [plainName, overriddenIn]; done) | decide +kernel
theorem ef_23 (m : MethodId) {ba : Addr} {i : Nat} : entryFrame m #[(.ref ba), (.int (Int32.ofNat i))] 2 = mkF m 0 #[.val (.ref ba), .val (.int (Int32.ofNat i))] [] := by first | (simp [entryFrame, mkF, argsToLocals, Value.category]; done) | rfl
def Q23 (Z : State) (ba : Addr) (i : Nat) (n : Nat) (f : Nat → Int32) (sf : Value) (h0 : Heap) (n0 : Nat) (v : Option Value) (h : Heap) (L : List Loc) : Prop := v = some (.int (own_ch (f i &&& 255))) ∧ Fr n0 L ∧ h = h0
set_option maxRecDepth 65536 in
set_option maxHeartbeats 40000000 in
theorem rm23 (l : Launch) (Z : State) (a0 : Array Value) (hw : ∀ d ∈ tables_1, d.before a0 Z = true) (ws : List Jvm.Cond) (ba : Addr) (i : Nat) (n : Nat) (f : Nat → Int32) (sf : Value) (h0 : Heap) (n0 : Nat) (Z0 : n0 ≤ h0.size) (SF : Sta Z h0 "jdk/internal/util/Preconditions" "SIOOBE_FORMATTER" "Ljava/util/function/BiFunction;" sf) (hsf : sf = .null ∨ ∃ a, sf = .ref a) (Va : own_Av Z h0 ba .byte n (fun k => .int (f k))) (hn : n < 4) (hi : i < n) :
    MetFree l (⟨"java/lang/StringLatin1", "charAt", "([BI)C"⟩ : MethodName) (head1 (Jvm.Cond.code (⟨"java/lang/StringLatin1", "charAt", "([BI)C"⟩ : MethodName) jdk_43_method_2_code 2 (some .char) :: ws) ({ frames := 2, cells := 0, slots := 0, locals := 27 } : Room)) (fun a U => a = #[(.ref ba), (.int (Int32.ofNat i))] ∧ Z.Warmed39 U.vm ∧ U.heap = h0) (fun _ _ _ _ _ => True) (fun _ U oz U' => ∃ v L, oz = .returned v ∧ Q23 Z ba i n f sf h0 n0 v U'.heap L ∧ FrameEnd U oz U' L (({ frames := 2, cells := 0, slots := 0, locals := 27 } : Room)).cells (({ frames := 2, cells := 0, slots := 0, locals := 27 } : Room)).slots) := by
  refine MetFree.of_bodySF (plainFor_of_name pn_4) hisR ?_
  intro p e s m args below meth c s₁ Bd hml0 hP hK
  obtain ⟨rfl, hZ, hh⟩ := hP
  have hx := Bd.exec
  have hby := Bd.bytes
  have hml : c.maxLocals = 2 := hml0
  have hown : s.vm.findClass "java/lang/StringLatin1" = some m.cls := findClass_of_methodNamed Bd.named
  have hnm := (name_of_methodNamed Bd.named Bd.method).1
  have X0 : Stand p l e ({ frames := 2, cells := 0, slots := 0, locals := 27 } : Room) s m #[(.ref ba), (.int (Int32.ofNat i))] below meth c s₁ [] 0 0 := Stand.of_body Bd
  have e0 : s₁.heap = h0 := by rw [← hh, Bd.state]; rfl
  have N0 := Fr.nil n0
  show own_Go p.tables e below (own_P s (Q23 Z ba i n f sf h0 n0) ({ frames := 2, cells := 0, slots := 0, locals := 27 } : Room).cells ({ frames := 2, cells := 0, slots := 0, locals := 27 } : Room).slots) s₁ _
  rw [ef_23]
  show own_Go p.tables e below _ s₁ (mkF m 0 #[.val (.ref ba), .val (.int (Int32.ofNat i))] [])
  refine own_go (fun tz kz => XS.iloadN X0.here hx rfl (hb hby d23_0) rfl kz) ?_
  show own_Go p.tables e below _ s₁ (mkF m 1 #[.val (.ref ba), .val (.int (Int32.ofNat i))] [(.int (Int32.ofNat i))])
  refine own_go (fun tz kz => XS.aloadN X0.here hx rfl (hb hby d23_1) rfl rfl kz) ?_
  show own_Go p.tables e below _ s₁ (mkF m 2 #[.val (.ref ba), .val (.int (Int32.ofNat i))] [(.ref ba), (.int (Int32.ofNat i))])
  obtain ⟨c1, Ar1, Sz1, Ge1⟩ := id (Va)
  refine own_go (fun tz kz => X0.arraylength hx (by rw [e0]; exact Ar1.1) (State.isArrayOf_alike hZ.alike Ar1.2.1) (g := (mkF m 2 #[.val (.ref ba), .val (.int (Int32.ofNat i))] [(.ref ba), (.int (Int32.ofNat i))])) rfl rfl (hb hby d23_2) tz kz) ?_
  rw [Sz1]
  show own_Go p.tables e below _ s₁ (mkF m 3 #[.val (.ref ba), .val (.int (Int32.ofNat i))] [(.int (Int32.ofNat n)), (.int (Int32.ofNat i))])
  obtain ⟨_, _, ⟨T2, L2, k2, n2⟩, -, X2, ⟨Lc2, hQ2, l2, y2, z2⟩, st2⟩ := Jvm.LawKit.callS X0 hx (y := (⟨"java/lang/String", "checkIndex", "(II)V"⟩ : MethodName)) hown (mvT hZ (hw _ (List.mem_of_getElem? (i := 101) rfl))) (mvT hZ (hw _ (List.mem_of_getElem? (i := 90) rfl))) (mvT hZ (hw _ (List.mem_of_getElem? (i := 3) rfl))) (mvT hZ (hw _ (List.mem_of_getElem? (i := 91) rfl))) (by decide) (backOf (W := 0) (rm21 l Z a0 hw [] i n sf h0 n0 Z0 SF hsf hi (by omega)) hZ (hw _ (List.mem_of_getElem? (i := 91) rfl)) (hw _ (List.mem_of_getElem? (i := 3) rfl)) (by decide) (by decide)) (g := (mkF m 3 #[.val (.ref ba), .val (.int (Int32.ofNat i))] [(.int (Int32.ofNat n)), (.int (Int32.ofNat i))])) rfl (by rw [hml]; rfl) (argsL := [(.int (Int32.ofNat i)), (.int (Int32.ofNat n))]) (rest := []) (lenOf pd_8 rfl) rfl (by show 2 * 0 + _ ≤ _; exact Nat.le_of_eq rfl) (hb hby d23_3) (fun _ _ => ⟨rfl, e0, (by decide : 0 + 0 ≤ _), (by decide : 0 + 0 ≤ _)⟩)
  dsimp only [Pt.U, Pt.locs, Pt.cells, Pt.slots] at X2 l2 y2 z2 st2 hQ2
  subst l2 y2 z2
  obtain ⟨rfl, N2q, e2⟩ := hQ2
  have N2 := Fr.app N0 N2q
  refine own_go (fun tz kz => st2 tz kz) ?_
  show own_Go p.tables e below _ T2 (mkF m 6 #[.val (.ref ba), .val (.int (Int32.ofNat i))] [])
  refine own_go (fun tz kz => XS.aloadN X2.here hx rfl (hb hby d23_6) rfl rfl kz) ?_
  show own_Go p.tables e below _ T2 (mkF m 7 #[.val (.ref ba), .val (.int (Int32.ofNat i))] [(.ref ba)])
  refine own_go (fun tz kz => XS.iloadN X2.here hx rfl (hb hby d23_7) rfl kz) ?_
  show own_Go p.tables e below _ T2 (mkF m 8 #[.val (.ref ba), .val (.int (Int32.ofNat i))] [(.int (Int32.ofNat i)), (.ref ba)])
  obtain ⟨c3, Ar3, Sz3, Ge3⟩ := id (Va)
  refine own_go (fun tz kz => X2.baloadBytes hx (j := (Int32.ofNat i)) (v := (.int (f i))) (by rw [e2]; exact Ar3.1) (State.isArrayOf_alike hZ.alike Ar3.2.1) Ar3.2.2 (own_inb Sz3 (own_nat (i := i) (by omega)) hi) (own_at Ge3 (own_nat (i := i) (by omega)) hi rfl) (g := (mkF m 8 #[.val (.ref ba), .val (.int (Int32.ofNat i))] [(.int (Int32.ofNat i)), (.ref ba)])) rfl rfl (hb hby d23_8) tz kz) ?_
  show own_Go p.tables e below _ T2 (mkF m 9 #[.val (.ref ba), .val (.int (Int32.ofNat i))] [(.int (f i))])
  refine own_go (fun tz kz => XS.sipush X2.here hx rfl (hb hby d23_9) kz) ?_
  show own_Go p.tables e below _ T2 (mkF m 12 #[.val (.ref ba), .val (.int (Int32.ofNat i))] [(.int (255 : Int32)), (.int (f i))])
  refine own_go (fun tz kz => XS.iand X2.here hx rfl (hb hby d23_12) rfl kz) ?_
  show own_Go p.tables e below _ T2 (mkF m 13 #[.val (.ref ba), .val (.int (Int32.ofNat i))] [(.int ((f i) &&& (255 : Int32)))])
  refine own_go (fun tz kz => XT.i2c X2.here hx rfl (hb hby d23_13) rfl kz) ?_
  show own_Go p.tables e below _ T2 (mkF m 14 #[.val (.ref ba), .val (.int (Int32.ofNat i))] [(.int ((f i) &&& (255 : Int32)).toUInt32.toUInt16.toUInt32.toInt32)])
  obtain ⟨fs, hr, hrun, hended, hW, hsame⟩ := X2.leave (v := some (.int (nar .char ((f i) &&& (255 : Int32)).toUInt32.toUInt16.toUInt32.toInt32))) (fun h => by rw [Bd.returns] at h; cases h) (BodyLoose.notSynchronized Bd)
  refine ⟨_, _, ?_, hrun, hended, _, _, rfl, ?_, ⟨_, rfl⟩, hW, hsame.mono (by decide) (by decide)⟩
  · exact retN X2 hx (t := .char) Bd.returns (by simp) (hb hby d23_14) hr
  · show Q23 Z ba i n f sf h0 n0 _ T2.heap _
    rw [e2]
    exact ⟨congrArg (fun z => some (Value.int z)) (own_ch_ch _), N2, rfl⟩
theorem d6_0 : decode jdk_42_method_152_code 0 = .ok (.getstatic 38, 3) := by decide +kernel
theorem d6_3 : decode jdk_42_method_152_code 3 = .ok (.ifCond .eq 10, 3) := by decide +kernel
theorem d6_6 : decode jdk_42_method_152_code 6 = .ok (.aload_n 0, 1) := by decide +kernel
theorem d6_7 : decode jdk_42_method_152_code 7 = .ok (.getfield 15, 3) := by decide +kernel
theorem d6_10 : decode jdk_42_method_152_code 10 = .ok (.goto 4, 3) := by decide +kernel
theorem d6_13 : decode jdk_42_method_152_code 13 = .ok (.iconst 1, 1) := by decide +kernel
theorem d6_14 : decode jdk_42_method_152_code 14 = .ok (.ireturn, 1) := by decide +kernel
theorem ef_6 (m : MethodId) {sa : Addr} : entryFrame m #[(.ref sa)] 1 = mkF m 0 #[.val (.ref sa)] [] := by first | (simp [entryFrame, mkF, argsToLocals, Value.category]; done) | rfl
def Q6 (Z : State) (sa : Addr) (cd : Int32) (cs : Int32) (h0 : Heap) (n0 : Nat) (v : Option Value) (h : Heap) (L : List Loc) : Prop := v = some (.int cd) ∧ Fr n0 L ∧ h = h0
set_option maxRecDepth 65536 in
set_option maxHeartbeats 40000000 in
theorem rm6 (l : Launch) (Z : State) (a0 : Array Value) (hw : ∀ d ∈ tables_1, d.before a0 Z = true) (ws : List Jvm.Cond) (sa : Addr) (cd : Int32) (cs : Int32) (h0 : Heap) (n0 : Nat) (Z0 : n0 ≤ h0.size) (SC : Sta Z h0 "java/lang/String" "COMPACT_STRINGS" "Z" (.int cs)) (hcs : ¬ cs = 0) (Fc : Fld Z h0 sa "java/lang/String" "coder" "B" (.int cd)) (hcd : own_by cd = cd) :
    MetFree l (⟨"java/lang/String", "coder", "()B"⟩ : MethodName) (head1 (Jvm.Cond.code (⟨"java/lang/String", "coder", "()B"⟩ : MethodName) jdk_42_method_152_code 1 (some .byte) :: ws) ({ frames := 0, cells := 0, slots := 0, locals := 0 } : Room)) (fun a U => a = #[(.ref sa)] ∧ Z.Warmed39 U.vm ∧ U.heap = h0) (fun _ _ _ _ _ => True) (fun _ U oz U' => ∃ v L, oz = .returned v ∧ Q6 Z sa cd cs h0 n0 v U'.heap L ∧ FrameEnd U oz U' L (({ frames := 0, cells := 0, slots := 0, locals := 0 } : Room)).cells (({ frames := 0, cells := 0, slots := 0, locals := 0 } : Room)).slots) := by
  refine MetFree.of_bodySF (plainFor_of_name pn_3) hisR ?_
  intro p e s m args below meth c s₁ Bd hml0 hP hK
  obtain ⟨rfl, hZ, hh⟩ := hP
  have hx := Bd.exec
  have hby := Bd.bytes
  have hml : c.maxLocals = 1 := hml0
  have hown : s.vm.findClass "java/lang/String" = some m.cls := findClass_of_methodNamed Bd.named
  have hnm := (name_of_methodNamed Bd.named Bd.method).1
  have X0 : Stand p l e ({ frames := 0, cells := 0, slots := 0, locals := 0 } : Room) s m #[(.ref sa)] below meth c s₁ [] 0 0 := Stand.of_body Bd
  have e0 : s₁.heap = h0 := by rw [← hh, Bd.state]; rfl
  have N0 := Fr.nil n0
  show own_Go p.tables e below (own_P s (Q6 Z sa cd cs h0 n0) ({ frames := 0, cells := 0, slots := 0, locals := 0 } : Room).cells ({ frames := 0, cells := 0, slots := 0, locals := 0 } : Room).slots) s₁ _
  rw [ef_6]
  show own_Go p.tables e below _ s₁ (mkF m 0 #[.val (.ref sa)] [])
  obtain ⟨T1, X1, e1, st1⟩ := getS2 X0 hx hZ hown (host := "") (Or.inl (hw _ (List.mem_of_getElem? (i := 36) rfl))) Via.refl e0 SC (g := (mkF m 0 #[.val (.ref sa)] [])) rfl (hb hby d6_0)
  refine own_go st1 ?_
  show own_Go p.tables e below _ T1 (mkF m 3 #[.val (.ref sa)] [(.int cs)])
  refine own_go (fun tz kz => XS.ifNo X1.here hx rfl (hb hby d6_3) rfl (XT.i0_eq_f hcs) kz) ?_
  show own_Go p.tables e below _ T1 (mkF m 6 #[.val (.ref sa)] [])
  refine own_go (fun tz kz => XS.aloadN X1.here hx rfl (hb hby d6_6) rfl rfl kz) ?_
  show own_Go p.tables e below _ T1 (mkF m 7 #[.val (.ref sa)] [(.ref sa)])
  obtain ⟨T2, X2, e2, st2⟩ := getF X1 hx hZ hown (host := "") (Or.inl (hw _ (List.mem_of_getElem? (i := 21) rfl))) Via.refl e1 Fc (g := (mkF m 7 #[.val (.ref sa)] [(.ref sa)])) rfl rfl (hb hby d6_7)
  refine own_go st2 ?_
  show own_Go p.tables e below _ T2 (mkF m 10 #[.val (.ref sa)] [(.int cd)])
  refine own_go (fun tz kz => XS.goto X2.here hx rfl (pc0 := 10) (pc' := 14) rfl (hb hby d6_10) (by decide) (by decide) kz) ?_
  show own_Go p.tables e below _ T2 (mkF m 14 #[.val (.ref sa)] [(.int cd)])
  obtain ⟨fs, hr, hrun, hended, hW, hsame⟩ := X2.leave (v := some (.int (nar .byte cd))) (fun h => by rw [Bd.returns] at h; cases h) (BodyLoose.notSynchronized Bd)
  refine ⟨_, _, ?_, hrun, hended, _, _, rfl, ?_, ⟨_, rfl⟩, hW, hsame.mono (by decide) (by decide)⟩
  · exact retN X2 hx (t := .byte) Bd.returns (by simp) (hb hby d6_14) hr
  · show Q6 Z sa cd cs h0 n0 _ T2.heap _
    rw [e2]
    exact ⟨congrArg (fun z => some (Value.int z)) (hcd), N0, rfl⟩
theorem d17_0 : decode jdk_42_method_154_code 0 = .ok (.getstatic 38, 3) := by decide +kernel
theorem d17_3 : decode jdk_42_method_154_code 3 = .ok (.ifCond .eq 14, 3) := by decide +kernel
theorem d17_6 : decode jdk_42_method_154_code 6 = .ok (.aload_n 0, 1) := by decide +kernel
theorem d17_7 : decode jdk_42_method_154_code 7 = .ok (.getfield 15, 3) := by decide +kernel
theorem d17_10 : decode jdk_42_method_154_code 10 = .ok (.ifCond .ne 7, 3) := by decide +kernel
theorem d17_13 : decode jdk_42_method_154_code 13 = .ok (.iconst 1, 1) := by decide +kernel
theorem d17_14 : decode jdk_42_method_154_code 14 = .ok (.goto 4, 3) := by decide +kernel
theorem d17_17 : decode jdk_42_method_154_code 17 = .ok (.iconst 0, 1) := by decide +kernel
theorem d17_18 : decode jdk_42_method_154_code 18 = .ok (.ireturn, 1) := by decide +kernel
theorem ef_17 (m : MethodId) {sa : Addr} : entryFrame m #[(.ref sa)] 1 = mkF m 0 #[.val (.ref sa)] [] := by first | (simp [entryFrame, mkF, argsToLocals, Value.category]; done) | rfl
def Q17 (Z : State) (sa : Addr) (cd : Int32) (cs : Int32) (h0 : Heap) (n0 : Nat) (v : Option Value) (h : Heap) (L : List Loc) : Prop := v = some (.int (if cd = 0 then 1 else 0)) ∧ Fr n0 L ∧ h = h0
set_option maxRecDepth 65536 in
set_option maxHeartbeats 40000000 in
theorem rm17 (l : Launch) (Z : State) (a0 : Array Value) (hw : ∀ d ∈ tables_1, d.before a0 Z = true) (ws : List Jvm.Cond) (sa : Addr) (cd : Int32) (cs : Int32) (h0 : Heap) (n0 : Nat) (Z0 : n0 ≤ h0.size) (SC : Sta Z h0 "java/lang/String" "COMPACT_STRINGS" "Z" (.int cs)) (hcs : ¬ cs = 0) (Fc : Fld Z h0 sa "java/lang/String" "coder" "B" (.int cd)) :
    MetFree l (⟨"java/lang/String", "isLatin1", "()Z"⟩ : MethodName) (head1 (Jvm.Cond.code (⟨"java/lang/String", "isLatin1", "()Z"⟩ : MethodName) jdk_42_method_154_code 1 (some .boolean) :: ws) ({ frames := 0, cells := 0, slots := 0, locals := 0 } : Room)) (fun a U => a = #[(.ref sa)] ∧ Z.Warmed39 U.vm ∧ U.heap = h0) (fun _ _ _ _ _ => True) (fun _ U oz U' => ∃ v L, oz = .returned v ∧ Q17 Z sa cd cs h0 n0 v U'.heap L ∧ FrameEnd U oz U' L (({ frames := 0, cells := 0, slots := 0, locals := 0 } : Room)).cells (({ frames := 0, cells := 0, slots := 0, locals := 0 } : Room)).slots) := by
  refine MetFree.of_bodySF (plainFor_of_name pn_3) hisR ?_
  intro p e s m args below meth c s₁ Bd hml0 hP hK
  obtain ⟨rfl, hZ, hh⟩ := hP
  have hx := Bd.exec
  have hby := Bd.bytes
  have hml : c.maxLocals = 1 := hml0
  have hown : s.vm.findClass "java/lang/String" = some m.cls := findClass_of_methodNamed Bd.named
  have hnm := (name_of_methodNamed Bd.named Bd.method).1
  have X0 : Stand p l e ({ frames := 0, cells := 0, slots := 0, locals := 0 } : Room) s m #[(.ref sa)] below meth c s₁ [] 0 0 := Stand.of_body Bd
  have e0 : s₁.heap = h0 := by rw [← hh, Bd.state]; rfl
  have N0 := Fr.nil n0
  show own_Go p.tables e below (own_P s (Q17 Z sa cd cs h0 n0) ({ frames := 0, cells := 0, slots := 0, locals := 0 } : Room).cells ({ frames := 0, cells := 0, slots := 0, locals := 0 } : Room).slots) s₁ _
  rw [ef_17]
  show own_Go p.tables e below _ s₁ (mkF m 0 #[.val (.ref sa)] [])
  obtain ⟨T1, X1, e1, st1⟩ := getS2 X0 hx hZ hown (host := "") (Or.inl (hw _ (List.mem_of_getElem? (i := 36) rfl))) Via.refl e0 SC (g := (mkF m 0 #[.val (.ref sa)] [])) rfl (hb hby d17_0)
  refine own_go st1 ?_
  show own_Go p.tables e below _ T1 (mkF m 3 #[.val (.ref sa)] [(.int cs)])
  refine own_go (fun tz kz => XS.ifNo X1.here hx rfl (hb hby d17_3) rfl (XT.i0_eq_f hcs) kz) ?_
  show own_Go p.tables e below _ T1 (mkF m 6 #[.val (.ref sa)] [])
  refine own_go (fun tz kz => XS.aloadN X1.here hx rfl (hb hby d17_6) rfl rfl kz) ?_
  show own_Go p.tables e below _ T1 (mkF m 7 #[.val (.ref sa)] [(.ref sa)])
  obtain ⟨T2, X2, e2, st2⟩ := getF X1 hx hZ hown (host := "") (Or.inl (hw _ (List.mem_of_getElem? (i := 21) rfl))) Via.refl e1 Fc (g := (mkF m 7 #[.val (.ref sa)] [(.ref sa)])) rfl rfl (hb hby d17_7)
  refine own_go st2 ?_
  show own_Go p.tables e below _ T2 (mkF m 10 #[.val (.ref sa)] [(.int cd)])
  by_cases h1 : cd = (0 : Int32)
  ·
    refine own_go (fun tz kz => XS.ifNo X2.here hx rfl (hb hby d17_10) rfl (XT.i0_ne_f h1) kz) ?_
    show own_Go p.tables e below _ T2 (mkF m 13 #[.val (.ref sa)] [])
    refine own_go (fun tz kz => XS.iconst X2.here hx rfl (hb hby d17_13) kz) ?_
    show own_Go p.tables e below _ T2 (mkF m 14 #[.val (.ref sa)] [(.int (1 : Int32))])
    refine own_go (fun tz kz => XS.goto X2.here hx rfl (pc0 := 14) (pc' := 18) rfl (hb hby d17_14) (by decide) (by decide) kz) ?_
    show own_Go p.tables e below _ T2 (mkF m 18 #[.val (.ref sa)] [(.int (1 : Int32))])
    obtain ⟨fs, hr, hrun, hended, hW, hsame⟩ := X2.leave (v := some (.int (1 : Int32))) (fun h => by rw [Bd.returns] at h; cases h) (BodyLoose.notSynchronized Bd)
    refine ⟨_, _, ?_, hrun, hended, _, _, rfl, ?_, ⟨_, rfl⟩, hW, hsame.mono (by decide) (by decide)⟩
    · exact retN X2 hx (t := .boolean) Bd.returns (by simp) (hb hby d17_18) hr
    · show Q17 Z sa cd cs h0 n0 _ T2.heap _
      rw [e2]
      exact ⟨congrArg (fun z => some (Value.int z)) ((if_pos h1).symm), N0, rfl⟩
  ·
    refine own_go (fun tz kz => XS.ifYes X2.here hx rfl (pc0 := 10) (pc' := 17) rfl (hb hby d17_10) rfl (XT.i0_ne_t h1) (by decide) (by decide) kz) ?_
    show own_Go p.tables e below _ T2 (mkF m 17 #[.val (.ref sa)] [])
    refine own_go (fun tz kz => XS.iconst X2.here hx rfl (hb hby d17_17) kz) ?_
    show own_Go p.tables e below _ T2 (mkF m 18 #[.val (.ref sa)] [(.int (0 : Int32))])
    obtain ⟨fs, hr, hrun, hended, hW, hsame⟩ := X2.leave (v := some (.int (0 : Int32))) (fun h => by rw [Bd.returns] at h; cases h) (BodyLoose.notSynchronized Bd)
    refine ⟨_, _, ?_, hrun, hended, _, _, rfl, ?_, ⟨_, rfl⟩, hW, hsame.mono (by decide) (by decide)⟩
    · exact retN X2 hx (t := .boolean) Bd.returns (by simp) (hb hby d17_18) hr
    · show Q17 Z sa cd cs h0 n0 _ T2.heap _
      rw [e2]
      exact ⟨congrArg (fun z => some (Value.int z)) ((if_neg h1).symm), N0, rfl⟩
theorem d5_0 : decode jdk_42_method_54_code 0 = .ok (.aload_n 0, 1) := by decide +kernel
theorem d5_1 : decode jdk_42_method_54_code 1 = .ok (.getfield 9, 3) := by decide +kernel
theorem d5_4 : decode jdk_42_method_54_code 4 = .ok (.arraylength, 1) := by decide +kernel
theorem d5_5 : decode jdk_42_method_54_code 5 = .ok (.aload_n 0, 1) := by decide +kernel
theorem d5_6 : decode jdk_42_method_54_code 6 = .ok (.invokevirtual 335, 3) := by decide +kernel
theorem d5_9 : decode jdk_42_method_54_code 9 = .ok (.ishr, 1) := by decide +kernel
theorem d5_10 : decode jdk_42_method_54_code 10 = .ok (.ireturn, 1) := by decide +kernel
theorem pd_10 : parseMethodDescriptor "()B" = some ⟨[], some .byte⟩ := by decide +kernel
theorem ef_5 (m : MethodId) {sa : Addr} : entryFrame m #[(.ref sa)] 1 = mkF m 0 #[.val (.ref sa)] [] := by first | (simp [entryFrame, mkF, argsToLocals, Value.category]; done) | rfl
def Q5 (Z : State) (sa : Addr) (va : Addr) (n : Nat) (ch : Nat → Int32) (mm : Nat) (cd : Int32) (cs : Int32) (h0 : Heap) (n0 : Nat) (v : Option Value) (h : Heap) (L : List Loc) : Prop := v = some (.int (Int32.ofNat n)) ∧ Fr n0 L ∧ h = h0
set_option maxRecDepth 65536 in
set_option maxHeartbeats 40000000 in
theorem rm5 (l : Launch) (Z : State) (a0 : Array Value) (hw : ∀ d ∈ tables_1, d.before a0 Z = true) (ws : List Jvm.Cond) (sa : Addr) (va : Addr) (n : Nat) (ch : Nat → Int32) (mm : Nat) (cd : Int32) (cs : Int32) (h0 : Heap) (n0 : Nat) (Z0 : n0 ≤ h0.size) (SC : Sta Z h0 "java/lang/String" "COMPACT_STRINGS" "Z" (.int cs)) (hcs : ¬ cs = 0) (Ex : Exa Z h0 sa "java/lang/String") (Fc : Fld Z h0 sa "java/lang/String" "coder" "B" (.int cd)) (Fv : Fld Z h0 sa "java/lang/String" "value" "[B" (.ref va)) (B : own_Bs Z h0 va n ch mm cd) (hn : n < 4) :
    MetFree l (⟨"java/lang/String", "length", "()I"⟩ : MethodName) (head1 (Jvm.Cond.code (⟨"java/lang/String", "length", "()I"⟩ : MethodName) jdk_42_method_54_code 1 (some .int) :: ws) ({ frames := 1, cells := 0, slots := 0, locals := 13 } : Room)) (fun a U => a = #[(.ref sa)] ∧ Z.Warmed39 U.vm ∧ U.heap = h0) (fun _ _ _ _ _ => True) (fun _ U oz U' => ∃ v L, oz = .returned v ∧ Q5 Z sa va n ch mm cd cs h0 n0 v U'.heap L ∧ FrameEnd U oz U' L (({ frames := 1, cells := 0, slots := 0, locals := 13 } : Room)).cells (({ frames := 1, cells := 0, slots := 0, locals := 13 } : Room)).slots) := by
  refine MetFree.of_bodySF (plainFor_of_name pn_3) hisR ?_
  intro p e s m args below meth c s₁ Bd hml0 hP hK
  obtain ⟨rfl, hZ, hh⟩ := hP
  have hx := Bd.exec
  have hby := Bd.bytes
  have hml : c.maxLocals = 1 := hml0
  have hown : s.vm.findClass "java/lang/String" = some m.cls := findClass_of_methodNamed Bd.named
  have hnm := (name_of_methodNamed Bd.named Bd.method).1
  have X0 : Stand p l e ({ frames := 1, cells := 0, slots := 0, locals := 13 } : Room) s m #[(.ref sa)] below meth c s₁ [] 0 0 := Stand.of_body Bd
  have e0 : s₁.heap = h0 := by rw [← hh, Bd.state]; rfl
  have N0 := Fr.nil n0
  show own_Go p.tables e below (own_P s (Q5 Z sa va n ch mm cd cs h0 n0) ({ frames := 1, cells := 0, slots := 0, locals := 13 } : Room).cells ({ frames := 1, cells := 0, slots := 0, locals := 13 } : Room).slots) s₁ _
  rw [ef_5]
  show own_Go p.tables e below _ s₁ (mkF m 0 #[.val (.ref sa)] [])
  have hcd := B.cd
  obtain ⟨f, Va, -⟩ := id B
  refine own_go (fun tz kz => XS.aloadN X0.here hx rfl (hb hby d5_0) rfl rfl kz) ?_
  show own_Go p.tables e below _ s₁ (mkF m 1 #[.val (.ref sa)] [(.ref sa)])
  obtain ⟨T1, X1, e1, st1⟩ := getF X0 hx hZ hown (host := "") (Or.inl (hw _ (List.mem_of_getElem? (i := 20) rfl))) Via.refl e0 Fv (g := (mkF m 1 #[.val (.ref sa)] [(.ref sa)])) rfl rfl (hb hby d5_1)
  refine own_go st1 ?_
  show own_Go p.tables e below _ T1 (mkF m 4 #[.val (.ref sa)] [(.ref va)])
  obtain ⟨c2, Ar2, Sz2, Ge2⟩ := id (Va)
  refine own_go (fun tz kz => X1.arraylength hx (by rw [e1]; exact Ar2.1) (State.isArrayOf_alike hZ.alike Ar2.2.1) (g := (mkF m 4 #[.val (.ref sa)] [(.ref va)])) rfl rfl (hb hby d5_4) tz kz) ?_
  rw [Sz2]
  show own_Go p.tables e below _ T1 (mkF m 5 #[.val (.ref sa)] [(.int (Int32.ofNat mm))])
  refine own_go (fun tz kz => XS.aloadN X1.here hx rfl (hb hby d5_5) rfl rfl kz) ?_
  show own_Go p.tables e below _ T1 (mkF m 6 #[.val (.ref sa)] [(.ref sa), (.int (Int32.ofNat mm))])
  obtain ⟨cq3, kq3, q3a, q3b, q3c⟩ := isOf hZ e1 Ex
  obtain ⟨_, _, ⟨T3, L3, k3, n3⟩, -, X3, ⟨Lc3, hQ3, l3, y3, z3⟩, st3⟩ := X1.virtualBack hx (y := (⟨"java/lang/String", "coder", "()B"⟩ : MethodName)) (z := (⟨"java/lang/String", "coder", "()B"⟩ : MethodName)) hown (mvT hZ (hw _ (List.mem_of_getElem? (i := 31) rfl))) (mvT hZ (hw _ (List.mem_of_getElem? (i := 32) rfl))) (notFace_of_selects (args := #[]) (mvT hZ (hw _ (List.mem_of_getElem? (i := 34) rfl)))) (mvT hZ (hw _ (List.mem_of_getElem? (i := 34) rfl))) (mvT hZ (hw _ (List.mem_of_getElem? (i := 33) rfl))) (by decide) (backOf (W := 1) (rm6 l Z a0 hw [] sa cd cs h0 n0 Z0 SC hcs Fc (own_cd_by hcd)) hZ (hw _ (List.mem_of_getElem? (i := 35) rfl)) (hw _ (List.mem_of_getElem? (i := 3) rfl)) (by decide) (by decide)) q3a q3c (g := (mkF m 6 #[.val (.ref sa)] [(.ref sa), (.int (Int32.ofNat mm))])) rfl (by rw [hml]; rfl) (Steps.refl _) (argsL := []) (rest := [(.int (Int32.ofNat mm))]) (lenOf pd_10 rfl) rfl (by show 2 * 0 + _ ≤ _; exact Nat.le_of_eq rfl) (hb hby d5_6) (fun _ _ => ⟨rfl, e1, (by decide : 0 + 0 ≤ _), (by decide : 0 + 0 ≤ _)⟩)
  dsimp only [Pt.U, Pt.locs, Pt.cells, Pt.slots] at X3 l3 y3 z3 st3 hQ3
  subst l3 y3 z3
  obtain ⟨rfl, N3q, e3⟩ := hQ3
  have N3 := Fr.app N0 N3q
  refine own_go (fun tz kz => st3.trans kz) ?_
  show own_Go p.tables e below _ T3 (mkF m 9 #[.val (.ref sa)] [(.int cd), (.int (Int32.ofNat mm))])
  refine own_go (fun tz kz => XT.ishr X3.here hx rfl (hb hby d5_9) rfl kz) ?_
  show own_Go p.tables e below _ T3 (mkF m 10 #[.val (.ref sa)] [(.int ((Int32.ofNat mm) >>> (cd &&& 31)))])
  rw [show ((Int32.ofNat mm) >>> (cd &&& 31)) = (Int32.ofNat n) from own_len2 hn hcd]
  show own_Go p.tables e below _ T3 (mkF m 10 #[.val (.ref sa)] [(.int (Int32.ofNat n))])
  obtain ⟨fs, hr, hrun, hended, hW, hsame⟩ := X3.leave (v := some (.int (Int32.ofNat n))) (fun h => by rw [Bd.returns] at h; cases h) (BodyLoose.notSynchronized Bd)
  refine ⟨_, _, ?_, hrun, hended, _, _, rfl, ?_, ⟨_, rfl⟩, hW, hsame.mono (by decide) (by decide)⟩
  · exact retI X3 hx Bd.returns (hb hby d5_10) hr
  · show Q5 Z sa va n ch mm cd cs h0 n0 _ T3.heap _
    rw [e3]
    exact ⟨rfl, N3, rfl⟩
theorem d16_0 : decode jdk_42_method_56_code 0 = .ok (.aload_n 0, 1) := by decide +kernel
theorem d16_1 : decode jdk_42_method_56_code 1 = .ok (.invokevirtual 492, 3) := by decide +kernel
theorem d16_4 : decode jdk_42_method_56_code 4 = .ok (.ifCond .eq 12, 3) := by decide +kernel
theorem d16_7 : decode jdk_42_method_56_code 7 = .ok (.aload_n 0, 1) := by decide +kernel
theorem d16_8 : decode jdk_42_method_56_code 8 = .ok (.getfield 9, 3) := by decide +kernel
theorem d16_11 : decode jdk_42_method_56_code 11 = .ok (.iload_n 1, 1) := by decide +kernel
theorem d16_12 : decode jdk_42_method_56_code 12 = .ok (.invokestatic 495, 3) := by decide +kernel
theorem d16_15 : decode jdk_42_method_56_code 15 = .ok (.ireturn, 1) := by decide +kernel
theorem d16_16 : decode jdk_42_method_56_code 16 = .ok (.aload_n 0, 1) := by decide +kernel
theorem d16_17 : decode jdk_42_method_56_code 17 = .ok (.getfield 9, 3) := by decide +kernel
theorem d16_20 : decode jdk_42_method_56_code 20 = .ok (.iload_n 1, 1) := by decide +kernel
theorem d16_21 : decode jdk_42_method_56_code 21 = .ok (.invokestatic 498, 3) := by decide +kernel
theorem d16_24 : decode jdk_42_method_56_code 24 = .ok (.ireturn, 1) := by decide +kernel
theorem pd_11 : parseMethodDescriptor "()Z" = some ⟨[], some .boolean⟩ := by decide +kernel
theorem ef_16 (m : MethodId) {sa : Addr} {i : Nat} : entryFrame m #[(.ref sa), (.int (Int32.ofNat i))] 2 = mkF m 0 #[.val (.ref sa), .val (.int (Int32.ofNat i))] [] := by first | (simp [entryFrame, mkF, argsToLocals, Value.category]; done) | rfl
def Q16 (Z : State) (sa : Addr) (va : Addr) (n : Nat) (ch : Nat → Int32) (mm : Nat) (cd : Int32) (cs : Int32) (i : Nat) (sf : Value) (h0 : Heap) (n0 : Nat) (v : Option Value) (h : Heap) (L : List Loc) : Prop := v = some (.int (own_ch (ch i))) ∧ Fr n0 L ∧ h = h0
set_option maxRecDepth 65536 in
set_option maxHeartbeats 40000000 in
theorem rm16 (l : Launch) (Z : State) (a0 : Array Value) (hw : ∀ d ∈ tables_1, d.before a0 Z = true) (ws : List Jvm.Cond) (sa : Addr) (va : Addr) (n : Nat) (ch : Nat → Int32) (mm : Nat) (cd : Int32) (cs : Int32) (i : Nat) (sf : Value) (h0 : Heap) (n0 : Nat) (Z0 : n0 ≤ h0.size) (SC : Sta Z h0 "java/lang/String" "COMPACT_STRINGS" "Z" (.int cs)) (hcs : ¬ cs = 0) (Ex : Exa Z h0 sa "java/lang/String") (Fc : Fld Z h0 sa "java/lang/String" "coder" "B" (.int cd)) (Fv : Fld Z h0 sa "java/lang/String" "value" "[B" (.ref va)) (B : own_Bs Z h0 va n ch mm cd) (hn : n < 4) (SF : Sta Z h0 "jdk/internal/util/Preconditions" "SIOOBE_FORMATTER" "Ljava/util/function/BiFunction;" sf) (hsf : sf = .null ∨ ∃ a, sf = .ref a) (AD : Sta Z h0 "java/lang/StringUTF16" "$assertionsDisabled" "Z" (.int 1)) (HB : Sta Z h0 "java/lang/StringUTF16" "HI_BYTE_SHIFT" "I" (.int 0)) (LB : Sta Z h0 "java/lang/StringUTF16" "LO_BYTE_SHIFT" "I" (.int 8)) (hi : i < n) :
    MetFree l (⟨"java/lang/String", "charAt", "(I)C"⟩ : MethodName) (head1 (Jvm.Cond.code (⟨"java/lang/String", "charAt", "(I)C"⟩ : MethodName) jdk_42_method_56_code 2 (some .char) :: ws) ({ frames := 4, cells := 0, slots := 0, locals := 53 } : Room)) (fun a U => a = #[(.ref sa), (.int (Int32.ofNat i))] ∧ Z.Warmed39 U.vm ∧ U.heap = h0) (fun _ _ _ _ _ => True) (fun _ U oz U' => ∃ v L, oz = .returned v ∧ Q16 Z sa va n ch mm cd cs i sf h0 n0 v U'.heap L ∧ FrameEnd U oz U' L (({ frames := 4, cells := 0, slots := 0, locals := 53 } : Room)).cells (({ frames := 4, cells := 0, slots := 0, locals := 53 } : Room)).slots) := by
  refine MetFree.of_bodySF (plainFor_of_name pn_3) hisR ?_
  intro p e s m args below meth c s₁ Bd hml0 hP hK
  obtain ⟨rfl, hZ, hh⟩ := hP
  have hx := Bd.exec
  have hby := Bd.bytes
  have hml : c.maxLocals = 2 := hml0
  have hown : s.vm.findClass "java/lang/String" = some m.cls := findClass_of_methodNamed Bd.named
  have hnm := (name_of_methodNamed Bd.named Bd.method).1
  have X0 : Stand p l e ({ frames := 4, cells := 0, slots := 0, locals := 53 } : Room) s m #[(.ref sa), (.int (Int32.ofNat i))] below meth c s₁ [] 0 0 := Stand.of_body Bd
  have e0 : s₁.heap = h0 := by rw [← hh, Bd.state]; rfl
  have N0 := Fr.nil n0
  show own_Go p.tables e below (own_P s (Q16 Z sa va n ch mm cd cs i sf h0 n0) ({ frames := 4, cells := 0, slots := 0, locals := 53 } : Room).cells ({ frames := 4, cells := 0, slots := 0, locals := 53 } : Room).slots) s₁ _
  rw [ef_16]
  show own_Go p.tables e below _ s₁ (mkF m 0 #[.val (.ref sa), .val (.int (Int32.ofNat i))] [])
  obtain ⟨f, Va, ⟨hc0, hm0, hf⟩ | ⟨hc0, hm0, hf⟩⟩ := id B
  ·
    rw [hm0] at Va
    refine own_go (fun tz kz => XS.aloadN X0.here hx rfl (hb hby d16_0) rfl rfl kz) ?_
    show own_Go p.tables e below _ s₁ (mkF m 1 #[.val (.ref sa), .val (.int (Int32.ofNat i))] [(.ref sa)])
    obtain ⟨cq1, kq1, q1a, q1b, q1c⟩ := isOf hZ e0 Ex
    obtain ⟨_, _, ⟨T1, L1, k1, n1⟩, -, X1, ⟨Lc1, hQ1, l1, y1, z1⟩, st1⟩ := X0.virtualBack hx (y := (⟨"java/lang/String", "isLatin1", "()Z"⟩ : MethodName)) (z := (⟨"java/lang/String", "isLatin1", "()Z"⟩ : MethodName)) hown (mvT hZ (hw _ (List.mem_of_getElem? (i := 75) rfl))) (mvT hZ (hw _ (List.mem_of_getElem? (i := 76) rfl))) (notFace_of_selects (args := #[]) (mvT hZ (hw _ (List.mem_of_getElem? (i := 78) rfl)))) (mvT hZ (hw _ (List.mem_of_getElem? (i := 78) rfl))) (mvT hZ (hw _ (List.mem_of_getElem? (i := 77) rfl))) (by decide) (backOf (W := 0) (rm17 l Z a0 hw [] sa cd cs h0 n0 Z0 SC hcs Fc) hZ (hw _ (List.mem_of_getElem? (i := 79) rfl)) (hw _ (List.mem_of_getElem? (i := 3) rfl)) (by decide) (by decide)) q1a q1c (g := (mkF m 1 #[.val (.ref sa), .val (.int (Int32.ofNat i))] [(.ref sa)])) rfl (by rw [hml]; rfl) (Steps.refl _) (argsL := []) (rest := []) (lenOf pd_11 rfl) rfl (by show 2 * 0 + _ ≤ _; exact Nat.le_of_eq rfl) (hb hby d16_1) (fun _ _ => ⟨rfl, e0, (by decide : 0 + 0 ≤ _), (by decide : 0 + 0 ≤ _)⟩)
    dsimp only [Pt.U, Pt.locs, Pt.cells, Pt.slots] at X1 l1 y1 z1 st1 hQ1
    subst l1 y1 z1
    obtain ⟨rfl, N1q, e1⟩ := hQ1
    have N1 := Fr.app N0 N1q
    refine own_go (fun tz kz => st1.trans kz) ?_
    show own_Go p.tables e below _ T1 (mkF m 4 #[.val (.ref sa), .val (.int (Int32.ofNat i))] [(.int (if cd = 0 then (1 : Int32) else 0))])
    rw [show (if cd = 0 then (1 : Int32) else 0) = (1 : Int32) from if_pos hc0]
    show own_Go p.tables e below _ T1 (mkF m 4 #[.val (.ref sa), .val (.int (Int32.ofNat i))] [(.int (1 : Int32))])
    refine own_go (fun tz kz => XS.ifNo X1.here hx rfl (hb hby d16_4) rfl (XT.i0_eq_f (by decide)) kz) ?_
    show own_Go p.tables e below _ T1 (mkF m 7 #[.val (.ref sa), .val (.int (Int32.ofNat i))] [])
    refine own_go (fun tz kz => XS.aloadN X1.here hx rfl (hb hby d16_7) rfl rfl kz) ?_
    show own_Go p.tables e below _ T1 (mkF m 8 #[.val (.ref sa), .val (.int (Int32.ofNat i))] [(.ref sa)])
    obtain ⟨T2, X2, e2, st2⟩ := getF X1 hx hZ hown (host := "") (Or.inl (hw _ (List.mem_of_getElem? (i := 20) rfl))) Via.refl e1 Fv (g := (mkF m 8 #[.val (.ref sa), .val (.int (Int32.ofNat i))] [(.ref sa)])) rfl rfl (hb hby d16_8)
    refine own_go st2 ?_
    show own_Go p.tables e below _ T2 (mkF m 11 #[.val (.ref sa), .val (.int (Int32.ofNat i))] [(.ref va)])
    refine own_go (fun tz kz => XS.iloadN X2.here hx rfl (hb hby d16_11) rfl kz) ?_
    show own_Go p.tables e below _ T2 (mkF m 12 #[.val (.ref sa), .val (.int (Int32.ofNat i))] [(.int (Int32.ofNat i)), (.ref va)])
    obtain ⟨_, _, ⟨T3, L3, k3, n3⟩, -, X3, ⟨Lc3, hQ3, l3, y3, z3⟩, st3⟩ := Jvm.LawKit.callS X2 hx (y := (⟨"java/lang/StringLatin1", "charAt", "([BI)C"⟩ : MethodName)) hown (mvT hZ (hw _ (List.mem_of_getElem? (i := 97) rfl))) (mvT hZ (hw _ (List.mem_of_getElem? (i := 98) rfl))) (mvT hZ (hw _ (List.mem_of_getElem? (i := 99) rfl))) (mvT hZ (hw _ (List.mem_of_getElem? (i := 100) rfl))) (by decide) (backOf (W := 0) (rm23 l Z a0 hw [] va i n f sf h0 n0 Z0 SF hsf Va hn hi) hZ (hw _ (List.mem_of_getElem? (i := 100) rfl)) (hw _ (List.mem_of_getElem? (i := 99) rfl)) (by decide) (by decide)) (g := (mkF m 12 #[.val (.ref sa), .val (.int (Int32.ofNat i))] [(.int (Int32.ofNat i)), (.ref va)])) rfl (by rw [hml]; rfl) (argsL := [(.ref va), (.int (Int32.ofNat i))]) (rest := []) (lenOf pd_5 rfl) rfl (by show 2 * 0 + _ ≤ _; exact Nat.le_of_eq rfl) (hb hby d16_12) (fun _ _ => ⟨rfl, e2, (by decide : 0 + 0 ≤ _), (by decide : 0 + 0 ≤ _)⟩)
    dsimp only [Pt.U, Pt.locs, Pt.cells, Pt.slots] at X3 l3 y3 z3 st3 hQ3
    subst l3 y3 z3
    obtain ⟨rfl, N3q, e3⟩ := hQ3
    have N3 := Fr.app N1 N3q
    refine own_go (fun tz kz => st3 tz kz) ?_
    show own_Go p.tables e below _ T3 (mkF m 15 #[.val (.ref sa), .val (.int (Int32.ofNat i))] [(.int (own_ch (f i &&& 255)))])
    rw [show (own_ch (f i &&& 255)) = (own_ch (ch i)) from hf i hi]
    show own_Go p.tables e below _ T3 (mkF m 15 #[.val (.ref sa), .val (.int (Int32.ofNat i))] [(.int (own_ch (ch i)))])
    obtain ⟨fs, hr, hrun, hended, hW, hsame⟩ := X3.leave (v := some (.int (nar .char (own_ch (ch i))))) (fun h => by rw [Bd.returns] at h; cases h) (BodyLoose.notSynchronized Bd)
    refine ⟨_, _, ?_, hrun, hended, _, _, rfl, ?_, ⟨_, rfl⟩, hW, hsame.mono (by decide) (by decide)⟩
    · exact retN X3 hx (t := .char) Bd.returns (by simp) (hb hby d16_15) hr
    · show Q16 Z sa va n ch mm cd cs i sf h0 n0 _ T3.heap _
      rw [e3]
      exact ⟨congrArg (fun z => some (Value.int z)) (own_ch_ch _), N3, rfl⟩
  ·
    rw [hm0] at Va
    refine own_go (fun tz kz => XS.aloadN X0.here hx rfl (hb hby d16_0) rfl rfl kz) ?_
    show own_Go p.tables e below _ s₁ (mkF m 1 #[.val (.ref sa), .val (.int (Int32.ofNat i))] [(.ref sa)])
    obtain ⟨cq4, kq4, q4a, q4b, q4c⟩ := isOf hZ e0 Ex
    obtain ⟨_, _, ⟨T4, L4, k4, n4⟩, -, X4, ⟨Lc4, hQ4, l4, y4, z4⟩, st4⟩ := X0.virtualBack hx (y := (⟨"java/lang/String", "isLatin1", "()Z"⟩ : MethodName)) (z := (⟨"java/lang/String", "isLatin1", "()Z"⟩ : MethodName)) hown (mvT hZ (hw _ (List.mem_of_getElem? (i := 75) rfl))) (mvT hZ (hw _ (List.mem_of_getElem? (i := 76) rfl))) (notFace_of_selects (args := #[]) (mvT hZ (hw _ (List.mem_of_getElem? (i := 78) rfl)))) (mvT hZ (hw _ (List.mem_of_getElem? (i := 78) rfl))) (mvT hZ (hw _ (List.mem_of_getElem? (i := 77) rfl))) (by decide) (backOf (W := 0) (rm17 l Z a0 hw [] sa cd cs h0 n0 Z0 SC hcs Fc) hZ (hw _ (List.mem_of_getElem? (i := 79) rfl)) (hw _ (List.mem_of_getElem? (i := 3) rfl)) (by decide) (by decide)) q4a q4c (g := (mkF m 1 #[.val (.ref sa), .val (.int (Int32.ofNat i))] [(.ref sa)])) rfl (by rw [hml]; rfl) (Steps.refl _) (argsL := []) (rest := []) (lenOf pd_11 rfl) rfl (by show 2 * 0 + _ ≤ _; exact Nat.le_of_eq rfl) (hb hby d16_1) (fun _ _ => ⟨rfl, e0, (by decide : 0 + 0 ≤ _), (by decide : 0 + 0 ≤ _)⟩)
    dsimp only [Pt.U, Pt.locs, Pt.cells, Pt.slots] at X4 l4 y4 z4 st4 hQ4
    subst l4 y4 z4
    obtain ⟨rfl, N4q, e4⟩ := hQ4
    have N4 := Fr.app N0 N4q
    refine own_go (fun tz kz => st4.trans kz) ?_
    show own_Go p.tables e below _ T4 (mkF m 4 #[.val (.ref sa), .val (.int (Int32.ofNat i))] [(.int (if cd = 0 then (1 : Int32) else 0))])
    rw [show (if cd = 0 then (1 : Int32) else 0) = (0 : Int32) from if_neg (by rw [hc0]; decide)]
    show own_Go p.tables e below _ T4 (mkF m 4 #[.val (.ref sa), .val (.int (Int32.ofNat i))] [(.int (0 : Int32))])
    refine own_go (fun tz kz => XS.ifYes X4.here hx rfl (pc0 := 4) (pc' := 16) rfl (hb hby d16_4) rfl (XT.i0_eq_t rfl) (by decide) (by decide) kz) ?_
    show own_Go p.tables e below _ T4 (mkF m 16 #[.val (.ref sa), .val (.int (Int32.ofNat i))] [])
    refine own_go (fun tz kz => XS.aloadN X4.here hx rfl (hb hby d16_16) rfl rfl kz) ?_
    show own_Go p.tables e below _ T4 (mkF m 17 #[.val (.ref sa), .val (.int (Int32.ofNat i))] [(.ref sa)])
    obtain ⟨T5, X5, e5, st5⟩ := getF X4 hx hZ hown (host := "") (Or.inl (hw _ (List.mem_of_getElem? (i := 20) rfl))) Via.refl e4 Fv (g := (mkF m 17 #[.val (.ref sa), .val (.int (Int32.ofNat i))] [(.ref sa)])) rfl rfl (hb hby d16_17)
    refine own_go st5 ?_
    show own_Go p.tables e below _ T5 (mkF m 20 #[.val (.ref sa), .val (.int (Int32.ofNat i))] [(.ref va)])
    refine own_go (fun tz kz => XS.iloadN X5.here hx rfl (hb hby d16_20) rfl kz) ?_
    show own_Go p.tables e below _ T5 (mkF m 21 #[.val (.ref sa), .val (.int (Int32.ofNat i))] [(.int (Int32.ofNat i)), (.ref va)])
    obtain ⟨_, _, ⟨T6, L6, k6, n6⟩, -, X6, ⟨Lc6, hQ6, l6, y6, z6⟩, st6⟩ := Jvm.LawKit.callS X5 hx (y := (⟨"java/lang/StringUTF16", "charAt", "([BI)C"⟩ : MethodName)) hown (mvT hZ (hw _ (List.mem_of_getElem? (i := 80) rfl))) (mvT hZ (hw _ (List.mem_of_getElem? (i := 81) rfl))) (mvT hZ (hw _ (List.mem_of_getElem? (i := 39) rfl))) (mvT hZ (hw _ (List.mem_of_getElem? (i := 82) rfl))) (by decide) (backOf (W := 0) (rm18 l Z a0 hw [] va i n f sf h0 n0 Z0 SF hsf AD HB LB Va hn hi) hZ (hw _ (List.mem_of_getElem? (i := 82) rfl)) (hw _ (List.mem_of_getElem? (i := 39) rfl)) (by decide) (by decide)) (g := (mkF m 21 #[.val (.ref sa), .val (.int (Int32.ofNat i))] [(.int (Int32.ofNat i)), (.ref va)])) rfl (by rw [hml]; rfl) (argsL := [(.ref va), (.int (Int32.ofNat i))]) (rest := []) (lenOf pd_5 rfl) rfl (by show 2 * 0 + _ ≤ _; exact Nat.le_of_eq rfl) (hb hby d16_21) (fun _ _ => ⟨rfl, e5, (by decide : 0 + 0 ≤ _), (by decide : 0 + 0 ≤ _)⟩)
    dsimp only [Pt.U, Pt.locs, Pt.cells, Pt.slots] at X6 l6 y6 z6 st6 hQ6
    subst l6 y6 z6
    obtain ⟨rfl, N6q, e6⟩ := hQ6
    have N6 := Fr.app N4 N6q
    refine own_go (fun tz kz => st6 tz kz) ?_
    show own_Go p.tables e below _ T6 (mkF m 24 #[.val (.ref sa), .val (.int (Int32.ofNat i))] [(.int (own_gc (f (2 * i)) (f (2 * i + 1))))])
    rw [show (own_gc (f (2 * i)) (f (2 * i + 1))) = (own_ch (ch i)) from hf i hi]
    show own_Go p.tables e below _ T6 (mkF m 24 #[.val (.ref sa), .val (.int (Int32.ofNat i))] [(.int (own_ch (ch i)))])
    obtain ⟨fs, hr, hrun, hended, hW, hsame⟩ := X6.leave (v := some (.int (nar .char (own_ch (ch i))))) (fun h => by rw [Bd.returns] at h; cases h) (BodyLoose.notSynchronized Bd)
    refine ⟨_, _, ?_, hrun, hended, _, _, rfl, ?_, ⟨_, rfl⟩, hW, hsame.mono (by decide) (by decide)⟩
    · exact retN X6 hx (t := .char) Bd.returns (by simp) (hb hby d16_24) hr
    · show Q16 Z sa va n ch mm cd cs i sf h0 n0 _ T6.heap _
      rw [e6]
      exact ⟨congrArg (fun z => some (Value.int z)) (own_ch_ch _), N6, rfl⟩
theorem d2_0 : decode jdk_42_method_149_code 0 = .ok (.aload_n 0, 1) := by decide +kernel
theorem d2_1 : decode jdk_42_method_149_code 1 = .ok (.invokespecial 1, 3) := by decide +kernel
theorem d2_4 : decode jdk_42_method_149_code 4 = .ok (.iload_n 3, 1) := by decide +kernel
theorem d2_5 : decode jdk_42_method_149_code 5 = .ok (.ifCond .ne 22, 3) := by decide +kernel
theorem d2_8 : decode jdk_42_method_149_code 8 = .ok (.aload_n 0, 1) := by decide +kernel
theorem d2_9 : decode jdk_42_method_149_code 9 = .ok (.ldc 7, 2) := by decide +kernel
theorem d2_11 : decode jdk_42_method_149_code 11 = .ok (.getfield 9, 3) := by decide +kernel
theorem d2_14 : decode jdk_42_method_149_code 14 = .ok (.putfield 9, 3) := by decide +kernel
theorem d2_17 : decode jdk_42_method_149_code 17 = .ok (.aload_n 0, 1) := by decide +kernel
theorem d2_18 : decode jdk_42_method_149_code 18 = .ok (.ldc 7, 2) := by decide +kernel
theorem d2_20 : decode jdk_42_method_149_code 20 = .ok (.getfield 15, 3) := by decide +kernel
theorem d2_23 : decode jdk_42_method_149_code 23 = .ok (.putfield 15, 3) := by decide +kernel
theorem d2_26 : decode jdk_42_method_149_code 26 = .ok (.return_, 1) := by decide +kernel
theorem d2_27 : decode jdk_42_method_149_code 27 = .ok (.getstatic 38, 3) := by decide +kernel
theorem d2_30 : decode jdk_42_method_149_code 30 = .ok (.ifCond .eq 28, 3) := by decide +kernel
theorem d2_33 : decode jdk_42_method_149_code 33 = .ok (.aload_n 1, 1) := by decide +kernel
theorem d2_34 : decode jdk_42_method_149_code 34 = .ok (.iload_n 2, 1) := by decide +kernel
theorem d2_35 : decode jdk_42_method_149_code 35 = .ok (.iload_n 3, 1) := by decide +kernel
theorem d2_36 : decode jdk_42_method_149_code 36 = .ok (.invokestatic 177, 3) := by decide +kernel
theorem d2_39 : decode jdk_42_method_149_code 39 = .ok (.astore 5, 2) := by decide +kernel
theorem d2_41 : decode jdk_42_method_149_code 41 = .ok (.aload_n 0, 1) := by decide +kernel
theorem d2_42 : decode jdk_42_method_149_code 42 = .ok (.aload 5, 2) := by decide +kernel
theorem d2_44 : decode jdk_42_method_149_code 44 = .ok (.iload_n 3, 1) := by decide +kernel
theorem d2_45 : decode jdk_42_method_149_code 45 = .ok (.invokestatic 47, 3) := by decide +kernel
theorem d2_48 : decode jdk_42_method_149_code 48 = .ok (.putfield 15, 3) := by decide +kernel
theorem d2_51 : decode jdk_42_method_149_code 51 = .ok (.aload_n 0, 1) := by decide +kernel
theorem d2_52 : decode jdk_42_method_149_code 52 = .ok (.aload 5, 2) := by decide +kernel
theorem d2_54 : decode jdk_42_method_149_code 54 = .ok (.putfield 9, 3) := by decide +kernel
theorem d2_57 : decode jdk_42_method_149_code 57 = .ok (.return_, 1) := by decide +kernel
theorem d2_58 : decode jdk_42_method_149_code 58 = .ok (.aload_n 0, 1) := by decide +kernel
theorem d2_59 : decode jdk_42_method_149_code 59 = .ok (.iconst 1, 1) := by decide +kernel
theorem d2_60 : decode jdk_42_method_149_code 60 = .ok (.putfield 15, 3) := by decide +kernel
theorem d2_63 : decode jdk_42_method_149_code 63 = .ok (.aload_n 0, 1) := by decide +kernel
theorem d2_64 : decode jdk_42_method_149_code 64 = .ok (.aload_n 1, 1) := by decide +kernel
theorem d2_65 : decode jdk_42_method_149_code 65 = .ok (.iload_n 2, 1) := by decide +kernel
theorem d2_66 : decode jdk_42_method_149_code 66 = .ok (.iload_n 3, 1) := by decide +kernel
theorem d2_67 : decode jdk_42_method_149_code 67 = .ok (.invokestatic 180, 3) := by decide +kernel
theorem d2_70 : decode jdk_42_method_149_code 70 = .ok (.putfield 9, 3) := by decide +kernel
theorem d2_73 : decode jdk_42_method_149_code 73 = .ok (.return_, 1) := by decide +kernel
theorem pd_12 : parseMethodDescriptor "([BI)B" = some ⟨[(.array .byte), .int], some .byte⟩ := by decide +kernel
theorem ef_2p (m : MethodId) {sa : Addr} {ca : Addr} {n : Nat} : entryFrame m #[(.ref sa), (.ref ca), (.int (0 : Int32)), (.int (Int32.ofNat n)), .null] 6 = mkF m 0 #[.val (.ref sa), .val (.ref ca), .val (.int (0 : Int32)), .val (.int (Int32.ofNat n)), .val .null, .unset] [] := by first | (simp [entryFrame, mkF, argsToLocals, Value.category]; done) | rfl
def Q2p (Z : State) (sa : Addr) (ca : Addr) (n : Nat) (ch : Nat → Int32) (cs : Int32) (uc : Value) (uv : Value) (h0 : Heap) (n0 : Nat) (v : Option Value) (h : Heap) (L : List Loc) : Prop := Fr n0 L ∧ v = none ∧ Keep h0 h [sa] ∧ Exa Z h sa "java/lang/String" ∧ ∃ (va : Addr) (mm : Nat) (cd : Int32), Fld Z h sa "java/lang/String" "coder" "B" (.int cd) ∧ Fld Z h sa "java/lang/String" "value" "[B" (.ref va) ∧ own_Bs Z h va n ch mm cd
set_option maxRecDepth 65536 in
set_option maxHeartbeats 40000000 in
theorem rm2p (l : Launch) (Z : State) (a0 : Array Value) (hw : ∀ d ∈ tables_1, d.before a0 Z = true) (ws : List Jvm.Cond) (sa : Addr) (ca : Addr) (n : Nat) (ch : Nat → Int32) (cs : Int32) (uc : Value) (uv : Value) (h0 : Heap) (n0 : Nat) (Z0 : n0 ≤ h0.size) (SC : Sta Z Z.heap "java/lang/String" "COMPACT_STRINGS" "Z" (.int cs)) (hcs : ¬ cs = 0) (AD : Sta Z Z.heap "java/lang/StringUTF16" "$assertionsDisabled" "Z" (.int 1)) (HB : Sta Z Z.heap "java/lang/StringUTF16" "HI_BYTE_SHIFT" "I" (.int 0)) (LB : Sta Z Z.heap "java/lang/StringUTF16" "LO_BYTE_SHIFT" "I" (.int 8)) (O0 : Old Z n0 h0) (Ex : Exa Z h0 sa "java/lang/String") (Fc : Fld Z h0 sa "java/lang/String" "coder" "B" uc) (Fv : Fld Z h0 sa "java/lang/String" "value" "[B" uv) (Va : own_Av Z h0 ca .char n (fun k => .int (own_ch (ch k)))) (hn : n < 4) (hn0 : 0 < n) (g : n0 ≤ sa) :
    MetFree l (⟨"java/lang/String", "<init>", "([CIILjava/lang/Void;)V"⟩ : MethodName) (head1 (Jvm.Cond.code (⟨"java/lang/String", "<init>", "([CIILjava/lang/Void;)V"⟩ : MethodName) jdk_42_method_149_code 6 none :: ws) ({ frames := 4, cells := 2, slots := 9, locals := 57 } : Room)) (fun a U => a = #[(.ref sa), (.ref ca), (.int (0 : Int32)), (.int (Int32.ofNat n)), .null] ∧ Z.Warmed39 U.vm ∧ U.heap = h0) (fun _ _ _ _ _ => True) (fun _ U oz U' => ∃ v L, oz = .returned v ∧ Q2p Z sa ca n ch cs uc uv h0 n0 v U'.heap L ∧ FrameEnd U oz U' L (({ frames := 4, cells := 2, slots := 9, locals := 57 } : Room)).cells (({ frames := 4, cells := 2, slots := 9, locals := 57 } : Room)).slots) := by
  refine MetFree.of_bodySF (plainFor_of_name pn_3) hisR ?_
  intro p e s m args below meth c s₁ Bd hml0 hP hK
  obtain ⟨rfl, hZ, hh⟩ := hP
  have hx := Bd.exec
  have hby := Bd.bytes
  have hml : c.maxLocals = 6 := hml0
  have hown : s.vm.findClass "java/lang/String" = some m.cls := findClass_of_methodNamed Bd.named
  have hnm := (name_of_methodNamed Bd.named Bd.method).1
  have X0 : Stand p l e ({ frames := 4, cells := 2, slots := 9, locals := 57 } : Room) s m #[(.ref sa), (.ref ca), (.int (0 : Int32)), (.int (Int32.ofNat n)), .null] below meth c s₁ [] 0 0 := Stand.of_body Bd
  have e0 : s₁.heap = h0 := by rw [← hh, Bd.state]; rfl
  have N0 := Fr.nil n0
  show own_Go p.tables e below (own_P s (Q2p Z sa ca n ch cs uc uv h0 n0) ({ frames := 4, cells := 2, slots := 9, locals := 57 } : Room).cells ({ frames := 4, cells := 2, slots := 9, locals := 57 } : Room).slots) s₁ _
  rw [ef_2p]
  show own_Go p.tables e below _ s₁ (mkF m 0 #[.val (.ref sa), .val (.ref ca), .val (.int (0 : Int32)), .val (.int (Int32.ofNat n)), .val .null, .unset] [])
  refine own_go (fun tz kz => XS.aloadN X0.here hx rfl (hb hby d2_0) rfl rfl kz) ?_
  show own_Go p.tables e below _ s₁ (mkF m 1 #[.val (.ref sa), .val (.ref ca), .val (.int (0 : Int32)), .val (.int (Int32.ofNat n)), .val .null, .unset] [(.ref sa)])
  obtain ⟨T1, X1, e1, st1⟩ := initO X0 hx hZ hown (hw _ (List.mem_of_getElem? (i := 11) rfl)) (hw _ (List.mem_of_getElem? (i := 12) rfl)) (hw _ (List.mem_of_getElem? (i := 13) rfl)) e0 (g := (mkF m 1 #[.val (.ref sa), .val (.ref ca), .val (.int (0 : Int32)), .val (.int (Int32.ofNat n)), .val .null, .unset] [(.ref sa)])) rfl (by rw [hml]; rfl) rfl (hb hby d2_1) (by decide) (W := 0) (by show 2 * 0 + _ ≤ _; exact Nat.le_of_eq rfl) (by decide)
  refine own_go st1 ?_
  show own_Go p.tables e below _ T1 (mkF m 4 #[.val (.ref sa), .val (.ref ca), .val (.int (0 : Int32)), .val (.int (Int32.ofNat n)), .val .null, .unset] [])
  refine own_go (fun tz kz => XS.iloadN X1.here hx rfl (hb hby d2_4) rfl kz) ?_
  show own_Go p.tables e below _ T1 (mkF m 5 #[.val (.ref sa), .val (.ref ca), .val (.int (0 : Int32)), .val (.int (Int32.ofNat n)), .val .null, .unset] [(.int (Int32.ofNat n))])
  refine own_go (fun tz kz => XS.ifYes X1.here hx rfl (pc0 := 5) (pc' := 27) rfl (hb hby d2_5) rfl (XT.i0_ne_t (fun q => absurd ((own_ofNat_inj (i := n) (j := 0) (by omega) (by omega)).mp q) (by omega))) (by decide) (by decide) kz) ?_
  show own_Go p.tables e below _ T1 (mkF m 27 #[.val (.ref sa), .val (.ref ca), .val (.int (0 : Int32)), .val (.int (Int32.ofNat n)), .val .null, .unset] [])
  obtain ⟨T2, X2, e2, st2⟩ := getS2 X1 hx hZ hown (host := "") (Or.inl (hw _ (List.mem_of_getElem? (i := 36) rfl))) Via.refl e1 (SC.ext O0.2) (g := (mkF m 27 #[.val (.ref sa), .val (.ref ca), .val (.int (0 : Int32)), .val (.int (Int32.ofNat n)), .val .null, .unset] [])) rfl (hb hby d2_27)
  refine own_go st2 ?_
  show own_Go p.tables e below _ T2 (mkF m 30 #[.val (.ref sa), .val (.ref ca), .val (.int (0 : Int32)), .val (.int (Int32.ofNat n)), .val .null, .unset] [(.int cs)])
  refine own_go (fun tz kz => XS.ifNo X2.here hx rfl (hb hby d2_30) rfl (XT.i0_eq_f hcs) kz) ?_
  show own_Go p.tables e below _ T2 (mkF m 33 #[.val (.ref sa), .val (.ref ca), .val (.int (0 : Int32)), .val (.int (Int32.ofNat n)), .val .null, .unset] [])
  refine own_go (fun tz kz => XS.aloadN X2.here hx rfl (hb hby d2_33) rfl rfl kz) ?_
  show own_Go p.tables e below _ T2 (mkF m 34 #[.val (.ref sa), .val (.ref ca), .val (.int (0 : Int32)), .val (.int (Int32.ofNat n)), .val .null, .unset] [(.ref ca)])
  refine own_go (fun tz kz => XS.iloadN X2.here hx rfl (hb hby d2_34) rfl kz) ?_
  show own_Go p.tables e below _ T2 (mkF m 35 #[.val (.ref sa), .val (.ref ca), .val (.int (0 : Int32)), .val (.int (Int32.ofNat n)), .val .null, .unset] [(.int (0 : Int32)), (.ref ca)])
  refine own_go (fun tz kz => XS.iloadN X2.here hx rfl (hb hby d2_35) rfl kz) ?_
  show own_Go p.tables e below _ T2 (mkF m 36 #[.val (.ref sa), .val (.ref ca), .val (.int (0 : Int32)), .val (.int (Int32.ofNat n)), .val .null, .unset] [(.int (Int32.ofNat n)), (.int (0 : Int32)), (.ref ca)])
  obtain ⟨_, _, ⟨T3, L3, k3, n3⟩, -, X3, ⟨Lc3, hQ3, l3, y3, z3⟩, st3⟩ := Jvm.LawKit.callS X2 hx (y := (⟨"java/lang/StringUTF16", "compress", "([CII)[B"⟩ : MethodName)) hown (mvT hZ (hw _ (List.mem_of_getElem? (i := 37) rfl))) (mvT hZ (hw _ (List.mem_of_getElem? (i := 38) rfl))) (mvT hZ (hw _ (List.mem_of_getElem? (i := 39) rfl))) (mvT hZ (hw _ (List.mem_of_getElem? (i := 40) rfl))) (by decide) (backOf (W := 0) (rm7 l Z a0 hw [] ca n ch h0 n0 Z0 AD HB LB O0 Va hn) hZ (hw _ (List.mem_of_getElem? (i := 40) rfl)) (hw _ (List.mem_of_getElem? (i := 39) rfl)) (by decide) (by decide)) (g := (mkF m 36 #[.val (.ref sa), .val (.ref ca), .val (.int (0 : Int32)), .val (.int (Int32.ofNat n)), .val .null, .unset] [(.int (Int32.ofNat n)), (.int (0 : Int32)), (.ref ca)])) rfl (by rw [hml]; rfl) (argsL := [(.ref ca), (.int (0 : Int32)), (.int (Int32.ofNat n))]) (rest := []) (lenOf pd_4 rfl) rfl (by show 2 * 0 + _ ≤ _; exact Nat.le_of_eq rfl) (hb hby d2_36) (fun _ _ => ⟨rfl, e2, (by decide : 0 + 2 ≤ _), (by decide : 0 + 9 ≤ _)⟩)
  dsimp only [Pt.U, Pt.locs, Pt.cells, Pt.slots] at X3 l3 y3 z3 st3 hQ3
  subst l3 y3 z3
  obtain ⟨N3q, va, mm, cd, rfl, K3, gva, sva, B⟩ := hQ3
  have N3 := Fr.app N0 N3q
  refine own_go (fun tz kz => st3 tz kz) ?_
  show own_Go p.tables e below _ T3 (mkF m 39 #[.val (.ref sa), .val (.ref ca), .val (.int (0 : Int32)), .val (.int (Int32.ofNat n)), .val .null, .unset] [(.ref va)])
  obtain ⟨f, Vf, -⟩ := id B
  have hcd := B.cd
  have hne : va ≠ sa := Ne.symm (Nat.ne_of_lt (Nat.lt_of_lt_of_le Ex.lt sva))
  refine own_go (fun tz kz => XS.astore X3.here hx rfl (hb hby d2_39) rfl rfl (l' := #[.val (.ref sa), .val (.ref ca), .val (.int (0 : Int32)), .val (.int (Int32.ofNat n)), .val .null, .val (.ref va)]) rfl kz) ?_
  show own_Go p.tables e below _ T3 (mkF m 41 #[.val (.ref sa), .val (.ref ca), .val (.int (0 : Int32)), .val (.int (Int32.ofNat n)), .val .null, .val (.ref va)] [])
  refine own_go (fun tz kz => XS.aloadN X3.here hx rfl (hb hby d2_41) rfl rfl kz) ?_
  show own_Go p.tables e below _ T3 (mkF m 42 #[.val (.ref sa), .val (.ref ca), .val (.int (0 : Int32)), .val (.int (Int32.ofNat n)), .val .null, .val (.ref va)] [(.ref sa)])
  refine own_go (fun tz kz => XS.aload X3.here hx rfl (hb hby d2_42) rfl rfl kz) ?_
  show own_Go p.tables e below _ T3 (mkF m 44 #[.val (.ref sa), .val (.ref ca), .val (.int (0 : Int32)), .val (.int (Int32.ofNat n)), .val .null, .val (.ref va)] [(.ref va), (.ref sa)])
  refine own_go (fun tz kz => XS.iloadN X3.here hx rfl (hb hby d2_44) rfl kz) ?_
  show own_Go p.tables e below _ T3 (mkF m 45 #[.val (.ref sa), .val (.ref ca), .val (.int (0 : Int32)), .val (.int (Int32.ofNat n)), .val .null, .val (.ref va)] [(.int (Int32.ofNat n)), (.ref va), (.ref sa)])
  obtain ⟨_, _, ⟨T4, L4, k4, n4⟩, -, X4, ⟨Lc4, hQ4, l4, y4, z4⟩, st4⟩ := Jvm.LawKit.callS X3 hx (y := (⟨"java/lang/StringUTF16", "coderFromArrayLen", "([BI)B"⟩ : MethodName)) hown (mvT hZ (hw _ (List.mem_of_getElem? (i := 63) rfl))) (mvT hZ (hw _ (List.mem_of_getElem? (i := 64) rfl))) (mvT hZ (hw _ (List.mem_of_getElem? (i := 39) rfl))) (mvT hZ (hw _ (List.mem_of_getElem? (i := 65) rfl))) (by decide) (backOf (W := 1) (rm14 l Z a0 hw [] va n mm cd f T3.heap n0 (Nat.le_trans Z0 K3.1) Vf hcd hn hn0) hZ (hw _ (List.mem_of_getElem? (i := 65) rfl)) (hw _ (List.mem_of_getElem? (i := 39) rfl)) (by decide) (by decide)) (g := (mkF m 45 #[.val (.ref sa), .val (.ref ca), .val (.int (0 : Int32)), .val (.int (Int32.ofNat n)), .val .null, .val (.ref va)] [(.int (Int32.ofNat n)), (.ref va), (.ref sa)])) rfl (by rw [hml]; rfl) (argsL := [(.ref va), (.int (Int32.ofNat n))]) (rest := [(.ref sa)]) (lenOf pd_12 rfl) rfl (by show 2 * 0 + _ ≤ _; exact Nat.le_of_eq rfl) (hb hby d2_45) (fun _ _ => ⟨rfl, rfl, (by decide : 2 + 0 ≤ _), (by decide : 9 + 0 ≤ _)⟩)
  dsimp only [Pt.U, Pt.locs, Pt.cells, Pt.slots] at X4 l4 y4 z4 st4 hQ4
  subst l4 y4 z4
  obtain ⟨rfl, N4q, e4⟩ := hQ4
  have N4 := Fr.app N3 N4q
  refine own_go (fun tz kz => st4 tz kz) ?_
  show own_Go p.tables e below _ T4 (mkF m 48 #[.val (.ref sa), .val (.ref ca), .val (.int (0 : Int32)), .val (.int (Int32.ofNat n)), .val .null, .val (.ref va)] [(.int cd), (.ref sa)])
  obtain ⟨T5, h5, X5, e5, W5, st5⟩ := putFN X4 hx hZ hown (hw _ (List.mem_of_getElem? (i := 21) rfl)) Via.refl e4 (Fc.keep K3 (fun q => nomatch q)) (Ex.keep K3) (Or.inr ⟨(hw _ (List.mem_of_getElem? (i := 17) rfl)), rfl, hnm⟩) (hw _ (List.mem_of_getElem? (i := 2) rfl)) (ty := .byte) (v' := .int cd.toInt8.toInt32) (by decide) rfl (fits_nar_byte _) (g := (mkF m 48 #[.val (.ref sa), .val (.ref ca), .val (.int (0 : Int32)), .val (.int (Int32.ofNat n)), .val .null, .val (.ref va)] [(.int cd), (.ref sa)])) rfl rfl (hb hby d2_48)
  have Fw5 := ((Fc.keep K3 (fun q => nomatch q))).same W5
  have N5 := Fr.snoc X5 N4 g
  refine own_go st5 ?_
  show own_Go p.tables e below _ T5 (mkF m 51 #[.val (.ref sa), .val (.ref ca), .val (.int (0 : Int32)), .val (.int (Int32.ofNat n)), .val .null, .val (.ref va)] [])
  have Fc' : Fld Z h5 sa "java/lang/String" "coder" "B" (.int cd) := by have q := Fw5; rw [show cd.toInt8.toInt32 = cd from own_cd_by hcd] at q; exact q
  refine own_go (fun tz kz => XS.aloadN X5.here hx rfl (hb hby d2_51) rfl rfl kz) ?_
  show own_Go p.tables e below _ T5 (mkF m 52 #[.val (.ref sa), .val (.ref ca), .val (.int (0 : Int32)), .val (.int (Int32.ofNat n)), .val .null, .val (.ref va)] [(.ref sa)])
  refine own_go (fun tz kz => XS.aload X5.here hx rfl (hb hby d2_52) rfl rfl kz) ?_
  show own_Go p.tables e below _ T5 (mkF m 54 #[.val (.ref sa), .val (.ref ca), .val (.int (0 : Int32)), .val (.int (Int32.ofNat n)), .val .null, .val (.ref va)] [(.ref va), (.ref sa)])
  obtain ⟨T6, h6, X6, e6, W6, st6⟩ := putF X5 hx hZ hown (host := "") (Or.inl (hw _ (List.mem_of_getElem? (i := 20) rfl))) Via.refl e5 ((Fv.keep K3 (fun q => nomatch q)).other W5 (Or.inr (slot_ne (Or.inr (hw _ (List.mem_of_getElem? (i := 16) rfl))) (Or.inr (hw _ (List.mem_of_getElem? (i := 17) rfl))) (by decide) (t := (.array .byte)) (t' := .byte) (by decide) (by decide)))) ((Ex.keep K3).wr W5) (Or.inr ⟨(hw _ (List.mem_of_getElem? (i := 16) rfl)), rfl, hnm⟩) (hw _ (List.mem_of_getElem? (i := 2) rfl)) (ty := (.array .byte)) (by decide) rfl rfl (g := (mkF m 54 #[.val (.ref sa), .val (.ref ca), .val (.int (0 : Int32)), .val (.int (Int32.ofNat n)), .val .null, .val (.ref va)] [(.ref va), (.ref sa)])) rfl rfl (hb hby d2_54)
  have Fw6 := ((Fv.keep K3 (fun q => nomatch q)).other W5 (Or.inr (slot_ne (Or.inr (hw _ (List.mem_of_getElem? (i := 16) rfl))) (Or.inr (hw _ (List.mem_of_getElem? (i := 17) rfl))) (by decide) (t := (.array .byte)) (t' := .byte) (by decide) (by decide)))).same W6
  have N6 := Fr.snoc X6 N5 g
  refine own_go st6 ?_
  show own_Go p.tables e below _ T6 (mkF m 57 #[.val (.ref sa), .val (.ref ca), .val (.int (0 : Int32)), .val (.int (Int32.ofNat n)), .val .null, .val (.ref va)] [])
  obtain ⟨fs, hr, hrun, hended, hW, hsame⟩ := X6.leave (v := none) (fun _ => rfl) (BodyLoose.notSynchronized Bd)
  refine ⟨_, _, ?_, hrun, hended, _, _, rfl, ?_, ⟨_, rfl⟩, hW, hsame.mono (by decide) (by decide)⟩
  · exact X6.returnOut hx Bd.returns (hb hby d2_57) hr
  · show Q2p Z sa ca n ch cs uc uv h0 n0 _ T6.heap _
    rw [e6]
    exact ⟨N6, rfl, (((Keep.refl h0 [sa]).trans K3 (fun x hx => nomatch hx)).wr W5 (Or.inl (List.mem_singleton.mpr rfl))).wr W6 (Or.inl (List.mem_singleton.mpr rfl)), (((Ex.keep K3).wr W5).wr W6), va, mm, cd, Fc'.other W6 (Or.inr (slot_ne (Or.inr (hw _ (List.mem_of_getElem? (i := 17) rfl))) (Or.inr (hw _ (List.mem_of_getElem? (i := 16) rfl))) (by decide) (t := .byte) (t' := (.array .byte)) (by decide) (by decide))), Fw6, (B.other W5 hne).other W6 hne⟩
theorem d1_0 : decode jdk_42_method_3_code 0 = .ok (.aload_n 0, 1) := by decide +kernel
theorem d1_1 : decode jdk_42_method_3_code 1 = .ok (.aload_n 1, 1) := by decide +kernel
theorem d1_2 : decode jdk_42_method_3_code 2 = .ok (.iconst 0, 1) := by decide +kernel
theorem d1_3 : decode jdk_42_method_3_code 3 = .ok (.aload_n 1, 1) := by decide +kernel
theorem d1_4 : decode jdk_42_method_3_code 4 = .ok (.arraylength, 1) := by decide +kernel
theorem d1_5 : decode jdk_42_method_3_code 5 = .ok (.aconst_null, 1) := by decide +kernel
theorem d1_6 : decode jdk_42_method_3_code 6 = .ok (.invokespecial 27, 3) := by decide +kernel
theorem d1_9 : decode jdk_42_method_3_code 9 = .ok (.return_, 1) := by decide +kernel
theorem pd_13 : parseMethodDescriptor "([CIILjava/lang/Void;)V" = some ⟨[(.array .char), .int, .int, (.object "java/lang/Void")], none⟩ := by decide +kernel
theorem ef_1p (m : MethodId) {sa : Addr} {ca : Addr} : entryFrame m #[(.ref sa), (.ref ca)] 2 = mkF m 0 #[.val (.ref sa), .val (.ref ca)] [] := by first | (simp [entryFrame, mkF, argsToLocals, Value.category]; done) | rfl
def Q1p (Z : State) (sa : Addr) (ca : Addr) (n : Nat) (ch : Nat → Int32) (cs : Int32) (uc : Value) (uv : Value) (h0 : Heap) (n0 : Nat) (v : Option Value) (h : Heap) (L : List Loc) : Prop := Fr n0 L ∧ v = none ∧ Keep h0 h [sa] ∧ Exa Z h sa "java/lang/String" ∧ ∃ (va : Addr) (mm : Nat) (cd : Int32), Fld Z h sa "java/lang/String" "coder" "B" (.int cd) ∧ Fld Z h sa "java/lang/String" "value" "[B" (.ref va) ∧ own_Bs Z h va n ch mm cd
set_option maxRecDepth 65536 in
set_option maxHeartbeats 40000000 in
theorem rm1p (l : Launch) (Z : State) (a0 : Array Value) (hw : ∀ d ∈ tables_1, d.before a0 Z = true) (ws : List Jvm.Cond) (sa : Addr) (ca : Addr) (n : Nat) (ch : Nat → Int32) (cs : Int32) (uc : Value) (uv : Value) (h0 : Heap) (n0 : Nat) (Z0 : n0 ≤ h0.size) (SC : Sta Z Z.heap "java/lang/String" "COMPACT_STRINGS" "Z" (.int cs)) (hcs : ¬ cs = 0) (AD : Sta Z Z.heap "java/lang/StringUTF16" "$assertionsDisabled" "Z" (.int 1)) (HB : Sta Z Z.heap "java/lang/StringUTF16" "HI_BYTE_SHIFT" "I" (.int 0)) (LB : Sta Z Z.heap "java/lang/StringUTF16" "LO_BYTE_SHIFT" "I" (.int 8)) (O0 : Old Z n0 h0) (Ex : Exa Z h0 sa "java/lang/String") (Fc : Fld Z h0 sa "java/lang/String" "coder" "B" uc) (Fv : Fld Z h0 sa "java/lang/String" "value" "[B" uv) (Va : own_Av Z h0 ca .char n (fun k => .int (own_ch (ch k)))) (hn : n < 4) (hn0 : 0 < n) (g : n0 ≤ sa) :
    MetFree l (⟨"java/lang/String", "<init>", "([C)V"⟩ : MethodName) (head1 (Jvm.Cond.code (⟨"java/lang/String", "<init>", "([C)V"⟩ : MethodName) jdk_42_method_3_code 2 none :: ws) ({ frames := 5, cells := 2, slots := 9, locals := 74 } : Room)) (fun a U => a = #[(.ref sa), (.ref ca)] ∧ Z.Warmed39 U.vm ∧ U.heap = h0) (fun _ _ _ _ _ => True) (fun _ U oz U' => ∃ v L, oz = .returned v ∧ Q1p Z sa ca n ch cs uc uv h0 n0 v U'.heap L ∧ FrameEnd U oz U' L (({ frames := 5, cells := 2, slots := 9, locals := 74 } : Room)).cells (({ frames := 5, cells := 2, slots := 9, locals := 74 } : Room)).slots) := by
  refine MetFree.of_bodySF (plainFor_of_name pn_3) hisR ?_
  intro p e s m args below meth c s₁ Bd hml0 hP hK
  obtain ⟨rfl, hZ, hh⟩ := hP
  have hx := Bd.exec
  have hby := Bd.bytes
  have hml : c.maxLocals = 2 := hml0
  have hown : s.vm.findClass "java/lang/String" = some m.cls := findClass_of_methodNamed Bd.named
  have hnm := (name_of_methodNamed Bd.named Bd.method).1
  have X0 : Stand p l e ({ frames := 5, cells := 2, slots := 9, locals := 74 } : Room) s m #[(.ref sa), (.ref ca)] below meth c s₁ [] 0 0 := Stand.of_body Bd
  have e0 : s₁.heap = h0 := by rw [← hh, Bd.state]; rfl
  have N0 := Fr.nil n0
  show own_Go p.tables e below (own_P s (Q1p Z sa ca n ch cs uc uv h0 n0) ({ frames := 5, cells := 2, slots := 9, locals := 74 } : Room).cells ({ frames := 5, cells := 2, slots := 9, locals := 74 } : Room).slots) s₁ _
  rw [ef_1p]
  show own_Go p.tables e below _ s₁ (mkF m 0 #[.val (.ref sa), .val (.ref ca)] [])
  refine own_go (fun tz kz => XS.aloadN X0.here hx rfl (hb hby d1_0) rfl rfl kz) ?_
  show own_Go p.tables e below _ s₁ (mkF m 1 #[.val (.ref sa), .val (.ref ca)] [(.ref sa)])
  refine own_go (fun tz kz => XS.aloadN X0.here hx rfl (hb hby d1_1) rfl rfl kz) ?_
  show own_Go p.tables e below _ s₁ (mkF m 2 #[.val (.ref sa), .val (.ref ca)] [(.ref ca), (.ref sa)])
  refine own_go (fun tz kz => XS.iconst X0.here hx rfl (hb hby d1_2) kz) ?_
  show own_Go p.tables e below _ s₁ (mkF m 3 #[.val (.ref sa), .val (.ref ca)] [(.int (0 : Int32)), (.ref ca), (.ref sa)])
  refine own_go (fun tz kz => XS.aloadN X0.here hx rfl (hb hby d1_3) rfl rfl kz) ?_
  show own_Go p.tables e below _ s₁ (mkF m 4 #[.val (.ref sa), .val (.ref ca)] [(.ref ca), (.int (0 : Int32)), (.ref ca), (.ref sa)])
  obtain ⟨c1, Ar1, Sz1, Ge1⟩ := id (Va)
  refine own_go (fun tz kz => X0.arraylength hx (by rw [e0]; exact Ar1.1) (State.isArrayOf_alike hZ.alike Ar1.2.1) (g := (mkF m 4 #[.val (.ref sa), .val (.ref ca)] [(.ref ca), (.int (0 : Int32)), (.ref ca), (.ref sa)])) rfl rfl (hb hby d1_4) tz kz) ?_
  rw [Sz1]
  show own_Go p.tables e below _ s₁ (mkF m 5 #[.val (.ref sa), .val (.ref ca)] [(.int (Int32.ofNat n)), (.int (0 : Int32)), (.ref ca), (.ref sa)])
  refine own_go (fun tz kz => XS.aconstNull X0.here hx rfl (hb hby d1_5) kz) ?_
  show own_Go p.tables e below _ s₁ (mkF m 6 #[.val (.ref sa), .val (.ref ca)] [.null, (.int (Int32.ofNat n)), (.int (0 : Int32)), (.ref ca), (.ref sa)])
  obtain ⟨_, _, ⟨T2, L2, k2, n2⟩, -, X2, ⟨Lc2, hQ2, l2, y2, z2⟩, st2⟩ := X0.specialBack hx (y := (⟨"java/lang/String", "<init>", "([CIILjava/lang/Void;)V"⟩ : MethodName)) rfl hown (mvT hZ (hw _ (List.mem_of_getElem? (i := 7) rfl))) (mvT hZ (hw _ (List.mem_of_getElem? (i := 8) rfl))) (mvT hZ (hw _ (List.mem_of_getElem? (i := 10) rfl))) (by decide) (backOf (W := 0) (rm2p l Z a0 hw [] sa ca n ch cs uc uv h0 n0 Z0 SC hcs AD HB LB O0 Ex Fc Fv Va hn hn0 g) hZ (hw _ (List.mem_of_getElem? (i := 10) rfl)) (hw _ (List.mem_of_getElem? (i := 3) rfl)) (by decide) (by decide)) (g := (mkF m 6 #[.val (.ref sa), .val (.ref ca)] [.null, (.int (Int32.ofNat n)), (.int (0 : Int32)), (.ref ca), (.ref sa)])) rfl (by rw [hml]; rfl) (Steps.refl _) (a := sa) (argsL := [(.ref ca), (.int (0 : Int32)), (.int (Int32.ofNat n)), .null]) (rest := []) (lenOf pd_13 rfl) rfl (by show 2 * 0 + _ ≤ _; exact Nat.le_of_eq rfl) (hb hby d1_6) (fun _ _ => ⟨rfl, e0, (by decide : 0 + 2 ≤ _), (by decide : 0 + 9 ≤ _)⟩)
  dsimp only [Pt.U, Pt.locs, Pt.cells, Pt.slots] at X2 l2 y2 z2 st2 hQ2
  subst l2 y2 z2
  obtain ⟨N2q, rfl, K2, Ex', va, mm, cd, Fc', Fv', B'⟩ := hQ2
  have N2 := Fr.app N0 N2q
  refine own_go (fun tz kz => st2.trans kz) ?_
  show own_Go p.tables e below _ T2 (mkF m 9 #[.val (.ref sa), .val (.ref ca)] [])
  obtain ⟨fs, hr, hrun, hended, hW, hsame⟩ := X2.leave (v := none) (fun _ => rfl) (BodyLoose.notSynchronized Bd)
  refine ⟨_, _, ?_, hrun, hended, _, _, rfl, ?_, ⟨_, rfl⟩, hW, hsame.mono (by decide) (by decide)⟩
  · exact X2.returnOut hx Bd.returns (hb hby d1_9) hr
  · show Q1p Z sa ca n ch cs uc uv h0 n0 _ T2.heap _
    exact ⟨N2, rfl, K2, Ex', va, mm, cd, Fc', Fv', B'⟩
theorem d4_0 : decode prog_59_method_3_code 0 = .ok (.aload_n 0, 1) := by decide +kernel
theorem d4_1 : decode prog_59_method_3_code 1 = .ok (.ifnull 11, 3) := by decide +kernel
theorem d4_4 : decode prog_59_method_3_code 4 = .ok (.aload_n 0, 1) := by decide +kernel
theorem d4_5 : decode prog_59_method_3_code 5 = .ok (.invokevirtual 30, 3) := by decide +kernel
theorem d4_8 : decode prog_59_method_3_code 8 = .ok (.iconst 2, 1) := by decide +kernel
theorem d4_9 : decode prog_59_method_3_code 9 = .ok (.if_icmp .eq 5, 3) := by decide +kernel
theorem d4_12 : decode prog_59_method_3_code 12 = .ok (.iconst 0, 1) := by decide +kernel
theorem d4_13 : decode prog_59_method_3_code 13 = .ok (.ireturn, 1) := by decide +kernel
theorem d4_14 : decode prog_59_method_3_code 14 = .ok (.iconst 0, 1) := by decide +kernel
theorem d4_15 : decode prog_59_method_3_code 15 = .ok (.istore_n 1, 1) := by decide +kernel
theorem d4_16 : decode prog_59_method_3_code 16 = .ok (.iload_n 1, 1) := by decide +kernel
theorem d4_17 : decode prog_59_method_3_code 17 = .ok (.iconst 2, 1) := by decide +kernel
theorem d4_18 : decode prog_59_method_3_code 18 = .ok (.if_icmp .ge 29, 3) := by decide +kernel
theorem d4_21 : decode prog_59_method_3_code 21 = .ok (.aload_n 0, 1) := by decide +kernel
theorem d4_22 : decode prog_59_method_3_code 22 = .ok (.iload_n 1, 1) := by decide +kernel
theorem d4_23 : decode prog_59_method_3_code 23 = .ok (.invokevirtual 34, 3) := by decide +kernel
theorem d4_26 : decode prog_59_method_3_code 26 = .ok (.istore_n 2, 1) := by decide +kernel
theorem d4_27 : decode prog_59_method_3_code 27 = .ok (.iload_n 2, 1) := by decide +kernel
theorem d4_28 : decode prog_59_method_3_code 28 = .ok (.bipush 65, 2) := by decide +kernel
theorem d4_30 : decode prog_59_method_3_code 30 = .ok (.if_icmp .lt 9, 3) := by decide +kernel
theorem d4_33 : decode prog_59_method_3_code 33 = .ok (.iload_n 2, 1) := by decide +kernel
theorem d4_34 : decode prog_59_method_3_code 34 = .ok (.bipush 90, 2) := by decide +kernel
theorem d4_36 : decode prog_59_method_3_code 36 = .ok (.if_icmp .le 5, 3) := by decide +kernel
theorem d4_39 : decode prog_59_method_3_code 39 = .ok (.iconst 0, 1) := by decide +kernel
theorem d4_40 : decode prog_59_method_3_code 40 = .ok (.ireturn, 1) := by decide +kernel
theorem d4_41 : decode prog_59_method_3_code 41 = .ok (.iinc 1 1, 3) := by decide +kernel
theorem d4_44 : decode prog_59_method_3_code 44 = .ok (.goto (-28), 3) := by decide +kernel
theorem d4_47 : decode prog_59_method_3_code 47 = .ok (.iconst 1, 1) := by decide +kernel
theorem d4_48 : decode prog_59_method_3_code 48 = .ok (.ireturn, 1) := by decide +kernel
theorem pn_5 : plainName "com/example/scriptwire/scriptwire/script/PdmpState" = true := by first | (simp [plainName, overriddenIn]; done) | decide +kernel
theorem ef_4n (m : MethodId)  : entryFrame m #[.null] 3 = mkF m 0 #[.val .null, .unset, .unset] [] := by first | (simp [entryFrame, mkF, argsToLocals, Value.category]; done) | rfl
def Q4n (Z : State)  (h0 : Heap) (n0 : Nat) (v : Option Value) (h : Heap) (L : List Loc) : Prop := v = some (.int 0) ∧ Fr n0 L ∧ h = h0
set_option maxRecDepth 65536 in
set_option maxHeartbeats 40000000 in
theorem rm4n (l : Launch) (Z : State) (a0 : Array Value) (hw : ∀ d ∈ tables_1, d.before a0 Z = true) (ws : List Jvm.Cond)  (h0 : Heap) (n0 : Nat) (Z0 : n0 ≤ h0.size) :
    MetFree l (⟨"com/example/scriptwire/scriptwire/script/PdmpState", "isCode", "(Ljava/lang/String;)Z"⟩ : MethodName) (head1 (Jvm.Cond.code (⟨"com/example/scriptwire/scriptwire/script/PdmpState", "isCode", "(Ljava/lang/String;)Z"⟩ : MethodName) prog_59_method_3_code 3 (some .boolean) :: ws) ({ frames := 0, cells := 0, slots := 0, locals := 0 } : Room)) (fun a U => a = #[.null] ∧ Z.Warmed39 U.vm ∧ U.heap = h0) (fun _ _ _ _ _ => True) (fun _ U oz U' => ∃ v L, oz = .returned v ∧ Q4n Z  h0 n0 v U'.heap L ∧ FrameEnd U oz U' L (({ frames := 0, cells := 0, slots := 0, locals := 0 } : Room)).cells (({ frames := 0, cells := 0, slots := 0, locals := 0 } : Room)).slots) := by
  refine MetFree.of_bodySF (plainFor_of_name pn_5) hisR ?_
  intro p e s m args below meth c s₁ Bd hml0 hP hK
  obtain ⟨rfl, hZ, hh⟩ := hP
  have hx := Bd.exec
  have hby := Bd.bytes
  have hml : c.maxLocals = 3 := hml0
  have hown : s.vm.findClass "com/example/scriptwire/scriptwire/script/PdmpState" = some m.cls := findClass_of_methodNamed Bd.named
  have hnm := (name_of_methodNamed Bd.named Bd.method).1
  have X0 : Stand p l e ({ frames := 0, cells := 0, slots := 0, locals := 0 } : Room) s m #[.null] below meth c s₁ [] 0 0 := Stand.of_body Bd
  have e0 : s₁.heap = h0 := by rw [← hh, Bd.state]; rfl
  have N0 := Fr.nil n0
  show own_Go p.tables e below (own_P s (Q4n Z  h0 n0) ({ frames := 0, cells := 0, slots := 0, locals := 0 } : Room).cells ({ frames := 0, cells := 0, slots := 0, locals := 0 } : Room).slots) s₁ _
  rw [ef_4n]
  show own_Go p.tables e below _ s₁ (mkF m 0 #[.val .null, .unset, .unset] [])
  refine own_go (fun tz kz => XS.aloadN X0.here hx rfl (hb hby d4_0) rfl rfl kz) ?_
  show own_Go p.tables e below _ s₁ (mkF m 1 #[.val .null, .unset, .unset] [.null])
  refine own_go (fun tz kz => XS.ifnullYes X0.here hx rfl (pc0 := 1) (pc' := 12) rfl (hb hby d4_1) rfl (by decide) (by decide) kz) ?_
  show own_Go p.tables e below _ s₁ (mkF m 12 #[.val .null, .unset, .unset] [])
  refine own_go (fun tz kz => XS.iconst X0.here hx rfl (hb hby d4_12) kz) ?_
  show own_Go p.tables e below _ s₁ (mkF m 13 #[.val .null, .unset, .unset] [(.int (0 : Int32))])
  obtain ⟨fs, hr, hrun, hended, hW, hsame⟩ := X0.leave (v := some (.int (0 : Int32))) (fun h => by rw [Bd.returns] at h; cases h) (BodyLoose.notSynchronized Bd)
  refine ⟨_, _, ?_, hrun, hended, _, _, rfl, ?_, ⟨_, rfl⟩, hW, hsame.mono (by decide) (by decide)⟩
  · exact retN X0 hx (t := .boolean) Bd.returns (by simp) (hb hby d4_13) hr
  · show Q4n Z  h0 n0 _ s₁.heap _
    rw [e0]
    exact ⟨rfl, N0, rfl⟩
theorem pd_14 : parseMethodDescriptor "()I" = some ⟨[], some .int⟩ := by decide +kernel
theorem pd_15 : parseMethodDescriptor "(I)C" = some ⟨[.int], some .char⟩ := by decide +kernel
theorem ef_4s (m : MethodId) {sa : Addr} : entryFrame m #[(.ref sa)] 3 = mkF m 0 #[.val (.ref sa), .unset, .unset] [] := by first | (simp [entryFrame, mkF, argsToLocals, Value.category]; done) | rfl
def Q4s (Z : State) (sa : Addr) (va : Addr) (n : Nat) (ch : Nat → Int32) (mm : Nat) (cd : Int32) (cs : Int32) (sf : Value) (h0 : Heap) (n0 : Nat) (v : Option Value) (h : Heap) (L : List Loc) : Prop := v = some (.int (own_ic n (fun k => own_ch (ch k)))) ∧ Fr n0 L ∧ h = h0
set_option maxRecDepth 65536 in
set_option maxHeartbeats 40000000 in
theorem rm4s (l : Launch) (Z : State) (a0 : Array Value) (hw : ∀ d ∈ tables_1, d.before a0 Z = true) (ws : List Jvm.Cond) (sa : Addr) (va : Addr) (n : Nat) (ch : Nat → Int32) (mm : Nat) (cd : Int32) (cs : Int32) (sf : Value) (h0 : Heap) (n0 : Nat) (Z0 : n0 ≤ h0.size) (SC : Sta Z h0 "java/lang/String" "COMPACT_STRINGS" "Z" (.int cs)) (hcs : ¬ cs = 0) (Ex : Exa Z h0 sa "java/lang/String") (Fc : Fld Z h0 sa "java/lang/String" "coder" "B" (.int cd)) (Fv : Fld Z h0 sa "java/lang/String" "value" "[B" (.ref va)) (B : own_Bs Z h0 va n ch mm cd) (hn : n < 4) (SF : Sta Z h0 "jdk/internal/util/Preconditions" "SIOOBE_FORMATTER" "Ljava/util/function/BiFunction;" sf) (hsf : sf = .null ∨ ∃ a, sf = .ref a) (AD : Sta Z h0 "java/lang/StringUTF16" "$assertionsDisabled" "Z" (.int 1)) (HB : Sta Z h0 "java/lang/StringUTF16" "HI_BYTE_SHIFT" "I" (.int 0)) (LB : Sta Z h0 "java/lang/StringUTF16" "LO_BYTE_SHIFT" "I" (.int 8)) :
    MetFree l (⟨"com/example/scriptwire/scriptwire/script/PdmpState", "isCode", "(Ljava/lang/String;)Z"⟩ : MethodName) (head1 (Jvm.Cond.code (⟨"com/example/scriptwire/scriptwire/script/PdmpState", "isCode", "(Ljava/lang/String;)Z"⟩ : MethodName) prog_59_method_3_code 3 (some .boolean) :: ws) ({ frames := 5, cells := 0, slots := 0, locals := 66 } : Room)) (fun a U => a = #[(.ref sa)] ∧ Z.Warmed39 U.vm ∧ U.heap = h0) (fun _ _ _ _ _ => True) (fun _ U oz U' => ∃ v L, oz = .returned v ∧ Q4s Z sa va n ch mm cd cs sf h0 n0 v U'.heap L ∧ FrameEnd U oz U' L (({ frames := 5, cells := 0, slots := 0, locals := 66 } : Room)).cells (({ frames := 5, cells := 0, slots := 0, locals := 66 } : Room)).slots) := by
  refine MetFree.of_bodySF (plainFor_of_name pn_5) hisR ?_
  intro p e s m args below meth c s₁ Bd hml0 hP hK
  obtain ⟨rfl, hZ, hh⟩ := hP
  have hx := Bd.exec
  have hby := Bd.bytes
  have hml : c.maxLocals = 3 := hml0
  have hown : s.vm.findClass "com/example/scriptwire/scriptwire/script/PdmpState" = some m.cls := findClass_of_methodNamed Bd.named
  have hnm := (name_of_methodNamed Bd.named Bd.method).1
  have X0 : Stand p l e ({ frames := 5, cells := 0, slots := 0, locals := 66 } : Room) s m #[(.ref sa)] below meth c s₁ [] 0 0 := Stand.of_body Bd
  have e0 : s₁.heap = h0 := by rw [← hh, Bd.state]; rfl
  have N0 := Fr.nil n0
  show own_Go p.tables e below (own_P s (Q4s Z sa va n ch mm cd cs sf h0 n0) ({ frames := 5, cells := 0, slots := 0, locals := 66 } : Room).cells ({ frames := 5, cells := 0, slots := 0, locals := 66 } : Room).slots) s₁ _
  rw [ef_4s]
  show own_Go p.tables e below _ s₁ (mkF m 0 #[.val (.ref sa), .unset, .unset] [])
  refine own_go (fun tz kz => XS.aloadN X0.here hx rfl (hb hby d4_0) rfl rfl kz) ?_
  show own_Go p.tables e below _ s₁ (mkF m 1 #[.val (.ref sa), .unset, .unset] [(.ref sa)])
  refine own_go (fun tz kz => XS.ifnullNo X0.here hx rfl (hb hby d4_1) rfl kz) ?_
  show own_Go p.tables e below _ s₁ (mkF m 4 #[.val (.ref sa), .unset, .unset] [])
  refine own_go (fun tz kz => XS.aloadN X0.here hx rfl (hb hby d4_4) rfl rfl kz) ?_
  show own_Go p.tables e below _ s₁ (mkF m 5 #[.val (.ref sa), .unset, .unset] [(.ref sa)])
  obtain ⟨cq1, kq1, q1a, q1b, q1c⟩ := isOf hZ e0 Ex
  obtain ⟨_, _, ⟨T1, L1, k1, n1⟩, -, X1, ⟨Lc1, hQ1, l1, y1, z1⟩, st1⟩ := X0.virtualBack hx (y := (⟨"java/lang/String", "length", "()I"⟩ : MethodName)) (z := (⟨"java/lang/String", "length", "()I"⟩ : MethodName)) hown (mvT hZ (hw _ (List.mem_of_getElem? (i := 26) rfl))) (mvT hZ (hw _ (List.mem_of_getElem? (i := 27) rfl))) (notFace_of_selects (args := #[]) (mvT hZ (hw _ (List.mem_of_getElem? (i := 29) rfl)))) (mvT hZ (hw _ (List.mem_of_getElem? (i := 29) rfl))) (mvT hZ (hw _ (List.mem_of_getElem? (i := 28) rfl))) (by decide) (backOf (W := 0) (rm5 l Z a0 hw [] sa va n ch mm cd cs h0 n0 Z0 SC hcs Ex Fc Fv B hn) hZ (hw _ (List.mem_of_getElem? (i := 30) rfl)) (hw _ (List.mem_of_getElem? (i := 3) rfl)) (by decide) (by decide)) q1a q1c (g := (mkF m 5 #[.val (.ref sa), .unset, .unset] [(.ref sa)])) rfl (by rw [hml]; rfl) (Steps.refl _) (argsL := []) (rest := []) (lenOf pd_14 rfl) rfl (by show 2 * 0 + _ ≤ _; exact Nat.le_of_eq rfl) (hb hby d4_5) (fun _ _ => ⟨rfl, e0, (by decide : 0 + 0 ≤ _), (by decide : 0 + 0 ≤ _)⟩)
  dsimp only [Pt.U, Pt.locs, Pt.cells, Pt.slots] at X1 l1 y1 z1 st1 hQ1
  subst l1 y1 z1
  obtain ⟨rfl, N1q, e1⟩ := hQ1
  have N1 := Fr.app N0 N1q
  refine own_go (fun tz kz => st1.trans kz) ?_
  show own_Go p.tables e below _ T1 (mkF m 8 #[.val (.ref sa), .unset, .unset] [(.int (Int32.ofNat n))])
  refine own_go (fun tz kz => XS.iconst X1.here hx rfl (hb hby d4_8) kz) ?_
  show own_Go p.tables e below _ T1 (mkF m 9 #[.val (.ref sa), .unset, .unset] [(.int (2 : Int32)), (.int (Int32.ofNat n))])
  by_cases h2 : (Int32.ofNat n) = (2 : Int32)
  ·
    have hn2 : n = 2 := (own_ofNat_inj (by omega) (by decide)).mp h2
    refine own_go (fun tz kz => XS.icmpYes X1.here hx rfl (pc0 := 9) (pc' := 14) rfl (hb hby d4_9) rfl (XT.ii_eq_t h2) (by decide) (by decide) kz) ?_
    show own_Go p.tables e below _ T1 (mkF m 14 #[.val (.ref sa), .unset, .unset] [])
    refine own_go (fun tz kz => XS.iconst X1.here hx rfl (hb hby d4_14) kz) ?_
    show own_Go p.tables e below _ T1 (mkF m 15 #[.val (.ref sa), .unset, .unset] [(.int (0 : Int32))])
    refine own_go (fun tz kz => XS.istoreN X1.here hx rfl (hb hby d4_15) rfl (l' := #[.val (.ref sa), .val (.int (0 : Int32)), .unset]) rfl kz) ?_
    show own_Go p.tables e below _ T1 (mkF m 16 #[.val (.ref sa), .val (.int (0 : Int32)), .unset] [])
    refine own_go (fun tz kz => XS.iloadN X1.here hx rfl (hb hby d4_16) rfl kz) ?_
    show own_Go p.tables e below _ T1 (mkF m 17 #[.val (.ref sa), .val (.int (0 : Int32)), .unset] [(.int (0 : Int32))])
    refine own_go (fun tz kz => XS.iconst X1.here hx rfl (hb hby d4_17) kz) ?_
    show own_Go p.tables e below _ T1 (mkF m 18 #[.val (.ref sa), .val (.int (0 : Int32)), .unset] [(.int (2 : Int32)), (.int (0 : Int32))])
    refine own_go (fun tz kz => XS.icmpNo X1.here hx rfl (hb hby d4_18) rfl (XT.ii_ge_f (by decide)) kz) ?_
    show own_Go p.tables e below _ T1 (mkF m 21 #[.val (.ref sa), .val (.int (0 : Int32)), .unset] [])
    refine own_go (fun tz kz => XS.aloadN X1.here hx rfl (hb hby d4_21) rfl rfl kz) ?_
    show own_Go p.tables e below _ T1 (mkF m 22 #[.val (.ref sa), .val (.int (0 : Int32)), .unset] [(.ref sa)])
    refine own_go (fun tz kz => XS.iloadN X1.here hx rfl (hb hby d4_22) rfl kz) ?_
    show own_Go p.tables e below _ T1 (mkF m 23 #[.val (.ref sa), .val (.int (0 : Int32)), .unset] [(.int (0 : Int32)), (.ref sa)])
    obtain ⟨cq2, kq2, q2a, q2b, q2c⟩ := isOf hZ e1 Ex
    obtain ⟨_, _, ⟨T2, L2, k2, n2⟩, -, X2, ⟨Lc2, hQ2, l2, y2, z2⟩, st2⟩ := X1.virtualBack hx (y := (⟨"java/lang/String", "charAt", "(I)C"⟩ : MethodName)) (z := (⟨"java/lang/String", "charAt", "(I)C"⟩ : MethodName)) hown (mvT hZ (hw _ (List.mem_of_getElem? (i := 70) rfl))) (mvT hZ (hw _ (List.mem_of_getElem? (i := 71) rfl))) (notFace_of_selects (args := #[]) (mvT hZ (hw _ (List.mem_of_getElem? (i := 73) rfl)))) (mvT hZ (hw _ (List.mem_of_getElem? (i := 73) rfl))) (mvT hZ (hw _ (List.mem_of_getElem? (i := 72) rfl))) (by decide) (backOf (W := 0) (rm16 l Z a0 hw [] sa va n ch mm cd cs 0 sf h0 n0 Z0 SC hcs Ex Fc Fv B hn SF hsf AD HB LB (by omega)) hZ (hw _ (List.mem_of_getElem? (i := 74) rfl)) (hw _ (List.mem_of_getElem? (i := 3) rfl)) (by decide) (by decide)) q2a q2c (g := (mkF m 23 #[.val (.ref sa), .val (.int (0 : Int32)), .unset] [(.int (0 : Int32)), (.ref sa)])) rfl (by rw [hml]; rfl) (Steps.refl _) (argsL := [(.int (0 : Int32))]) (rest := []) (lenOf pd_15 rfl) rfl (by show 2 * 0 + _ ≤ _; exact Nat.le_of_eq rfl) (hb hby d4_23) (fun _ _ => ⟨rfl, e1, (by decide : 0 + 0 ≤ _), (by decide : 0 + 0 ≤ _)⟩)
    dsimp only [Pt.U, Pt.locs, Pt.cells, Pt.slots] at X2 l2 y2 z2 st2 hQ2
    subst l2 y2 z2
    obtain ⟨rfl, N2q, e2⟩ := hQ2
    have N2 := Fr.app N1 N2q
    refine own_go (fun tz kz => st2.trans kz) ?_
    show own_Go p.tables e below _ T2 (mkF m 26 #[.val (.ref sa), .val (.int (0 : Int32)), .unset] [(.int (own_ch (ch 0)))])
    refine own_go (fun tz kz => XS.istoreN X2.here hx rfl (hb hby d4_26) rfl (l' := #[.val (.ref sa), .val (.int (0 : Int32)), .val (.int (own_ch (ch 0)))]) rfl kz) ?_
    show own_Go p.tables e below _ T2 (mkF m 27 #[.val (.ref sa), .val (.int (0 : Int32)), .val (.int (own_ch (ch 0)))] [])
    refine own_go (fun tz kz => XS.iloadN X2.here hx rfl (hb hby d4_27) rfl kz) ?_
    show own_Go p.tables e below _ T2 (mkF m 28 #[.val (.ref sa), .val (.int (0 : Int32)), .val (.int (own_ch (ch 0)))] [(.int (own_ch (ch 0)))])
    refine own_go (fun tz kz => XS.bipush X2.here hx rfl (hb hby d4_28) kz) ?_
    show own_Go p.tables e below _ T2 (mkF m 30 #[.val (.ref sa), .val (.int (0 : Int32)), .val (.int (own_ch (ch 0)))] [(.int (65 : Int32)), (.int (own_ch (ch 0)))])
    by_cases ha0 : (own_ch (ch 0)) < (65 : Int32)
    ·
      refine own_go (fun tz kz => XS.icmpYes X2.here hx rfl (pc0 := 30) (pc' := 39) rfl (hb hby d4_30) rfl (XT.ii_lt_t ha0) (by decide) (by decide) kz) ?_
      show own_Go p.tables e below _ T2 (mkF m 39 #[.val (.ref sa), .val (.int (0 : Int32)), .val (.int (own_ch (ch 0)))] [])
      refine own_go (fun tz kz => XS.iconst X2.here hx rfl (hb hby d4_39) kz) ?_
      show own_Go p.tables e below _ T2 (mkF m 40 #[.val (.ref sa), .val (.int (0 : Int32)), .val (.int (own_ch (ch 0)))] [(.int (0 : Int32))])
      obtain ⟨fs, hr, hrun, hended, hW, hsame⟩ := X2.leave (v := some (.int (0 : Int32))) (fun h => by rw [Bd.returns] at h; cases h) (BodyLoose.notSynchronized Bd)
      refine ⟨_, _, ?_, hrun, hended, _, _, rfl, ?_, ⟨_, rfl⟩, hW, hsame.mono (by decide) (by decide)⟩
      · exact retN X2 hx (t := .boolean) Bd.returns (by simp) (hb hby d4_40) hr
      · show Q4s Z sa va n ch mm cd cs sf h0 n0 _ T2.heap _
        rw [e2]
        exact ⟨congrArg (fun z => some (Value.int z)) (((if_pos h2).trans (if_pos (if_pos ha0))).symm), N2, rfl⟩
    ·
      refine own_go (fun tz kz => XS.icmpNo X2.here hx rfl (hb hby d4_30) rfl (XT.ii_lt_f ha0) kz) ?_
      show own_Go p.tables e below _ T2 (mkF m 33 #[.val (.ref sa), .val (.int (0 : Int32)), .val (.int (own_ch (ch 0)))] [])
      refine own_go (fun tz kz => XS.iloadN X2.here hx rfl (hb hby d4_33) rfl kz) ?_
      show own_Go p.tables e below _ T2 (mkF m 34 #[.val (.ref sa), .val (.int (0 : Int32)), .val (.int (own_ch (ch 0)))] [(.int (own_ch (ch 0)))])
      refine own_go (fun tz kz => XS.bipush X2.here hx rfl (hb hby d4_34) kz) ?_
      show own_Go p.tables e below _ T2 (mkF m 36 #[.val (.ref sa), .val (.int (0 : Int32)), .val (.int (own_ch (ch 0)))] [(.int (90 : Int32)), (.int (own_ch (ch 0)))])
      by_cases hb0 : (90 : Int32) < (own_ch (ch 0))
      ·
        refine own_go (fun tz kz => XS.icmpNo X2.here hx rfl (hb hby d4_36) rfl (XT.ii_le_f hb0) kz) ?_
        show own_Go p.tables e below _ T2 (mkF m 39 #[.val (.ref sa), .val (.int (0 : Int32)), .val (.int (own_ch (ch 0)))] [])
        refine own_go (fun tz kz => XS.iconst X2.here hx rfl (hb hby d4_39) kz) ?_
        show own_Go p.tables e below _ T2 (mkF m 40 #[.val (.ref sa), .val (.int (0 : Int32)), .val (.int (own_ch (ch 0)))] [(.int (0 : Int32))])
        obtain ⟨fs, hr, hrun, hended, hW, hsame⟩ := X2.leave (v := some (.int (0 : Int32))) (fun h => by rw [Bd.returns] at h; cases h) (BodyLoose.notSynchronized Bd)
        refine ⟨_, _, ?_, hrun, hended, _, _, rfl, ?_, ⟨_, rfl⟩, hW, hsame.mono (by decide) (by decide)⟩
        · exact retN X2 hx (t := .boolean) Bd.returns (by simp) (hb hby d4_40) hr
        · show Q4s Z sa va n ch mm cd cs sf h0 n0 _ T2.heap _
          rw [e2]
          exact ⟨congrArg (fun z => some (Value.int z)) (((if_pos h2).trans (if_pos ((if_neg ha0).trans (if_pos hb0)))).symm), N2, rfl⟩
      ·
        refine own_go (fun tz kz => XS.icmpYes X2.here hx rfl (pc0 := 36) (pc' := 41) rfl (hb hby d4_36) rfl (XT.ii_le_t hb0) (by decide) (by decide) kz) ?_
        show own_Go p.tables e below _ T2 (mkF m 41 #[.val (.ref sa), .val (.int (0 : Int32)), .val (.int (own_ch (ch 0)))] [])
        have hu0 : ¬ own_up1 (own_ch (ch 0)) = 0 := by rw [show own_up1 (own_ch (ch 0)) = 1 from (if_neg ha0).trans (if_neg hb0)]; decide
        refine own_go (fun tz kz => XS.iinc X2.here hx rfl (hb hby d4_41) rfl (l' := #[.val (.ref sa), .val (.int ((0 : Int32) + (1 : Int32))), .val (.int (own_ch (ch 0)))]) rfl kz) ?_
        show own_Go p.tables e below _ T2 (mkF m 44 #[.val (.ref sa), .val (.int ((0 : Int32) + (1 : Int32))), .val (.int (own_ch (ch 0)))] [])
        rw [show ((0 : Int32) + (1 : Int32)) = (1 : Int32) from (by decide)]
        show own_Go p.tables e below _ T2 (mkF m 44 #[.val (.ref sa), .val (.int (1 : Int32)), .val (.int (own_ch (ch 0)))] [])
        refine own_go (fun tz kz => XS.goto X2.here hx rfl (pc0 := 44) (pc' := 16) rfl (hb hby d4_44) (by decide) (by decide) kz) ?_
        show own_Go p.tables e below _ T2 (mkF m 16 #[.val (.ref sa), .val (.int (1 : Int32)), .val (.int (own_ch (ch 0)))] [])
        refine own_go (fun tz kz => XS.iloadN X2.here hx rfl (hb hby d4_16) rfl kz) ?_
        show own_Go p.tables e below _ T2 (mkF m 17 #[.val (.ref sa), .val (.int (1 : Int32)), .val (.int (own_ch (ch 0)))] [(.int (1 : Int32))])
        refine own_go (fun tz kz => XS.iconst X2.here hx rfl (hb hby d4_17) kz) ?_
        show own_Go p.tables e below _ T2 (mkF m 18 #[.val (.ref sa), .val (.int (1 : Int32)), .val (.int (own_ch (ch 0)))] [(.int (2 : Int32)), (.int (1 : Int32))])
        refine own_go (fun tz kz => XS.icmpNo X2.here hx rfl (hb hby d4_18) rfl (XT.ii_ge_f (by decide)) kz) ?_
        show own_Go p.tables e below _ T2 (mkF m 21 #[.val (.ref sa), .val (.int (1 : Int32)), .val (.int (own_ch (ch 0)))] [])
        refine own_go (fun tz kz => XS.aloadN X2.here hx rfl (hb hby d4_21) rfl rfl kz) ?_
        show own_Go p.tables e below _ T2 (mkF m 22 #[.val (.ref sa), .val (.int (1 : Int32)), .val (.int (own_ch (ch 0)))] [(.ref sa)])
        refine own_go (fun tz kz => XS.iloadN X2.here hx rfl (hb hby d4_22) rfl kz) ?_
        show own_Go p.tables e below _ T2 (mkF m 23 #[.val (.ref sa), .val (.int (1 : Int32)), .val (.int (own_ch (ch 0)))] [(.int (1 : Int32)), (.ref sa)])
        obtain ⟨cq3, kq3, q3a, q3b, q3c⟩ := isOf hZ e2 Ex
        obtain ⟨_, _, ⟨T3, L3, k3, n3⟩, -, X3, ⟨Lc3, hQ3, l3, y3, z3⟩, st3⟩ := X2.virtualBack hx (y := (⟨"java/lang/String", "charAt", "(I)C"⟩ : MethodName)) (z := (⟨"java/lang/String", "charAt", "(I)C"⟩ : MethodName)) hown (mvT hZ (hw _ (List.mem_of_getElem? (i := 70) rfl))) (mvT hZ (hw _ (List.mem_of_getElem? (i := 71) rfl))) (notFace_of_selects (args := #[]) (mvT hZ (hw _ (List.mem_of_getElem? (i := 73) rfl)))) (mvT hZ (hw _ (List.mem_of_getElem? (i := 73) rfl))) (mvT hZ (hw _ (List.mem_of_getElem? (i := 72) rfl))) (by decide) (backOf (W := 0) (rm16 l Z a0 hw [] sa va n ch mm cd cs 1 sf h0 n0 Z0 SC hcs Ex Fc Fv B hn SF hsf AD HB LB (by omega)) hZ (hw _ (List.mem_of_getElem? (i := 74) rfl)) (hw _ (List.mem_of_getElem? (i := 3) rfl)) (by decide) (by decide)) q3a q3c (g := (mkF m 23 #[.val (.ref sa), .val (.int (1 : Int32)), .val (.int (own_ch (ch 0)))] [(.int (1 : Int32)), (.ref sa)])) rfl (by rw [hml]; rfl) (Steps.refl _) (argsL := [(.int (1 : Int32))]) (rest := []) (lenOf pd_15 rfl) rfl (by show 2 * 0 + _ ≤ _; exact Nat.le_of_eq rfl) (hb hby d4_23) (fun _ _ => ⟨rfl, e2, (by decide : 0 + 0 ≤ _), (by decide : 0 + 0 ≤ _)⟩)
        dsimp only [Pt.U, Pt.locs, Pt.cells, Pt.slots] at X3 l3 y3 z3 st3 hQ3
        subst l3 y3 z3
        obtain ⟨rfl, N3q, e3⟩ := hQ3
        have N3 := Fr.app N2 N3q
        refine own_go (fun tz kz => st3.trans kz) ?_
        show own_Go p.tables e below _ T3 (mkF m 26 #[.val (.ref sa), .val (.int (1 : Int32)), .val (.int (own_ch (ch 0)))] [(.int (own_ch (ch 1)))])
        refine own_go (fun tz kz => XS.istoreN X3.here hx rfl (hb hby d4_26) rfl (l' := #[.val (.ref sa), .val (.int (1 : Int32)), .val (.int (own_ch (ch 1)))]) rfl kz) ?_
        show own_Go p.tables e below _ T3 (mkF m 27 #[.val (.ref sa), .val (.int (1 : Int32)), .val (.int (own_ch (ch 1)))] [])
        refine own_go (fun tz kz => XS.iloadN X3.here hx rfl (hb hby d4_27) rfl kz) ?_
        show own_Go p.tables e below _ T3 (mkF m 28 #[.val (.ref sa), .val (.int (1 : Int32)), .val (.int (own_ch (ch 1)))] [(.int (own_ch (ch 1)))])
        refine own_go (fun tz kz => XS.bipush X3.here hx rfl (hb hby d4_28) kz) ?_
        show own_Go p.tables e below _ T3 (mkF m 30 #[.val (.ref sa), .val (.int (1 : Int32)), .val (.int (own_ch (ch 1)))] [(.int (65 : Int32)), (.int (own_ch (ch 1)))])
        by_cases ha1 : (own_ch (ch 1)) < (65 : Int32)
        ·
          refine own_go (fun tz kz => XS.icmpYes X3.here hx rfl (pc0 := 30) (pc' := 39) rfl (hb hby d4_30) rfl (XT.ii_lt_t ha1) (by decide) (by decide) kz) ?_
          show own_Go p.tables e below _ T3 (mkF m 39 #[.val (.ref sa), .val (.int (1 : Int32)), .val (.int (own_ch (ch 1)))] [])
          refine own_go (fun tz kz => XS.iconst X3.here hx rfl (hb hby d4_39) kz) ?_
          show own_Go p.tables e below _ T3 (mkF m 40 #[.val (.ref sa), .val (.int (1 : Int32)), .val (.int (own_ch (ch 1)))] [(.int (0 : Int32))])
          obtain ⟨fs, hr, hrun, hended, hW, hsame⟩ := X3.leave (v := some (.int (0 : Int32))) (fun h => by rw [Bd.returns] at h; cases h) (BodyLoose.notSynchronized Bd)
          refine ⟨_, _, ?_, hrun, hended, _, _, rfl, ?_, ⟨_, rfl⟩, hW, hsame.mono (by decide) (by decide)⟩
          · exact retN X3 hx (t := .boolean) Bd.returns (by simp) (hb hby d4_40) hr
          · show Q4s Z sa va n ch mm cd cs sf h0 n0 _ T3.heap _
            rw [e3]
            exact ⟨congrArg (fun z => some (Value.int z)) (((if_pos h2).trans ((if_neg hu0).trans (if_pos (if_pos ha1)))).symm), N3, rfl⟩
        ·
          refine own_go (fun tz kz => XS.icmpNo X3.here hx rfl (hb hby d4_30) rfl (XT.ii_lt_f ha1) kz) ?_
          show own_Go p.tables e below _ T3 (mkF m 33 #[.val (.ref sa), .val (.int (1 : Int32)), .val (.int (own_ch (ch 1)))] [])
          refine own_go (fun tz kz => XS.iloadN X3.here hx rfl (hb hby d4_33) rfl kz) ?_
          show own_Go p.tables e below _ T3 (mkF m 34 #[.val (.ref sa), .val (.int (1 : Int32)), .val (.int (own_ch (ch 1)))] [(.int (own_ch (ch 1)))])
          refine own_go (fun tz kz => XS.bipush X3.here hx rfl (hb hby d4_34) kz) ?_
          show own_Go p.tables e below _ T3 (mkF m 36 #[.val (.ref sa), .val (.int (1 : Int32)), .val (.int (own_ch (ch 1)))] [(.int (90 : Int32)), (.int (own_ch (ch 1)))])
          by_cases hb1 : (90 : Int32) < (own_ch (ch 1))
          ·
            refine own_go (fun tz kz => XS.icmpNo X3.here hx rfl (hb hby d4_36) rfl (XT.ii_le_f hb1) kz) ?_
            show own_Go p.tables e below _ T3 (mkF m 39 #[.val (.ref sa), .val (.int (1 : Int32)), .val (.int (own_ch (ch 1)))] [])
            refine own_go (fun tz kz => XS.iconst X3.here hx rfl (hb hby d4_39) kz) ?_
            show own_Go p.tables e below _ T3 (mkF m 40 #[.val (.ref sa), .val (.int (1 : Int32)), .val (.int (own_ch (ch 1)))] [(.int (0 : Int32))])
            obtain ⟨fs, hr, hrun, hended, hW, hsame⟩ := X3.leave (v := some (.int (0 : Int32))) (fun h => by rw [Bd.returns] at h; cases h) (BodyLoose.notSynchronized Bd)
            refine ⟨_, _, ?_, hrun, hended, _, _, rfl, ?_, ⟨_, rfl⟩, hW, hsame.mono (by decide) (by decide)⟩
            · exact retN X3 hx (t := .boolean) Bd.returns (by simp) (hb hby d4_40) hr
            · show Q4s Z sa va n ch mm cd cs sf h0 n0 _ T3.heap _
              rw [e3]
              exact ⟨congrArg (fun z => some (Value.int z)) (((if_pos h2).trans ((if_neg hu0).trans (if_pos ((if_neg ha1).trans (if_pos hb1))))).symm), N3, rfl⟩
          ·
            refine own_go (fun tz kz => XS.icmpYes X3.here hx rfl (pc0 := 36) (pc' := 41) rfl (hb hby d4_36) rfl (XT.ii_le_t hb1) (by decide) (by decide) kz) ?_
            show own_Go p.tables e below _ T3 (mkF m 41 #[.val (.ref sa), .val (.int (1 : Int32)), .val (.int (own_ch (ch 1)))] [])
            have hu1 : ¬ own_up1 (own_ch (ch 1)) = 0 := by rw [show own_up1 (own_ch (ch 1)) = 1 from (if_neg ha1).trans (if_neg hb1)]; decide
            refine own_go (fun tz kz => XS.iinc X3.here hx rfl (hb hby d4_41) rfl (l' := #[.val (.ref sa), .val (.int ((1 : Int32) + (1 : Int32))), .val (.int (own_ch (ch 1)))]) rfl kz) ?_
            show own_Go p.tables e below _ T3 (mkF m 44 #[.val (.ref sa), .val (.int ((1 : Int32) + (1 : Int32))), .val (.int (own_ch (ch 1)))] [])
            rw [show ((1 : Int32) + (1 : Int32)) = (2 : Int32) from (by decide)]
            show own_Go p.tables e below _ T3 (mkF m 44 #[.val (.ref sa), .val (.int (2 : Int32)), .val (.int (own_ch (ch 1)))] [])
            refine own_go (fun tz kz => XS.goto X3.here hx rfl (pc0 := 44) (pc' := 16) rfl (hb hby d4_44) (by decide) (by decide) kz) ?_
            show own_Go p.tables e below _ T3 (mkF m 16 #[.val (.ref sa), .val (.int (2 : Int32)), .val (.int (own_ch (ch 1)))] [])
            refine own_go (fun tz kz => XS.iloadN X3.here hx rfl (hb hby d4_16) rfl kz) ?_
            show own_Go p.tables e below _ T3 (mkF m 17 #[.val (.ref sa), .val (.int (2 : Int32)), .val (.int (own_ch (ch 1)))] [(.int (2 : Int32))])
            refine own_go (fun tz kz => XS.iconst X3.here hx rfl (hb hby d4_17) kz) ?_
            show own_Go p.tables e below _ T3 (mkF m 18 #[.val (.ref sa), .val (.int (2 : Int32)), .val (.int (own_ch (ch 1)))] [(.int (2 : Int32)), (.int (2 : Int32))])
            refine own_go (fun tz kz => XS.icmpYes X3.here hx rfl (pc0 := 18) (pc' := 47) rfl (hb hby d4_18) rfl (XT.ii_ge_t (by decide)) (by decide) (by decide) kz) ?_
            show own_Go p.tables e below _ T3 (mkF m 47 #[.val (.ref sa), .val (.int (2 : Int32)), .val (.int (own_ch (ch 1)))] [])
            refine own_go (fun tz kz => XS.iconst X3.here hx rfl (hb hby d4_47) kz) ?_
            show own_Go p.tables e below _ T3 (mkF m 48 #[.val (.ref sa), .val (.int (2 : Int32)), .val (.int (own_ch (ch 1)))] [(.int (1 : Int32))])
            obtain ⟨fs, hr, hrun, hended, hW, hsame⟩ := X3.leave (v := some (.int (1 : Int32))) (fun h => by rw [Bd.returns] at h; cases h) (BodyLoose.notSynchronized Bd)
            refine ⟨_, _, ?_, hrun, hended, _, _, rfl, ?_, ⟨_, rfl⟩, hW, hsame.mono (by decide) (by decide)⟩
            · exact retN X3 hx (t := .boolean) Bd.returns (by simp) (hb hby d4_48) hr
            · show Q4s Z sa va n ch mm cd cs sf h0 n0 _ T3.heap _
              rw [e3]
              exact ⟨congrArg (fun z => some (Value.int z)) (((if_pos h2).trans ((if_neg hu0).trans (if_neg hu1))).symm), N3, rfl⟩
  ·
    refine own_go (fun tz kz => XS.icmpNo X1.here hx rfl (hb hby d4_9) rfl (XT.ii_eq_f h2) kz) ?_
    show own_Go p.tables e below _ T1 (mkF m 12 #[.val (.ref sa), .unset, .unset] [])
    refine own_go (fun tz kz => XS.iconst X1.here hx rfl (hb hby d4_12) kz) ?_
    show own_Go p.tables e below _ T1 (mkF m 13 #[.val (.ref sa), .unset, .unset] [(.int (0 : Int32))])
    obtain ⟨fs, hr, hrun, hended, hW, hsame⟩ := X1.leave (v := some (.int (0 : Int32))) (fun h => by rw [Bd.returns] at h; cases h) (BodyLoose.notSynchronized Bd)
    refine ⟨_, _, ?_, hrun, hended, _, _, rfl, ?_, ⟨_, rfl⟩, hW, hsame.mono (by decide) (by decide)⟩
    · exact retN X1 hx (t := .boolean) Bd.returns (by simp) (hb hby d4_13) hr
    · show Q4s Z sa va n ch mm cd cs sf h0 n0 _ T1.heap _
      rw [e1]
      exact ⟨congrArg (fun z => some (Value.int z)) ((if_neg h2).symm), N1, rfl⟩
theorem own_safe {Z : State} {EL : List (String × Nat)} {vm : Vm} {h : Heap} {x : Addr} (hal : Z.vm.Alike vm) (E : Exa Z h x "java/lang/String") (F : Fld Z h x "java/lang/String" "value" "[B" .null) : Safe Z EL vm h x := fun B => by
  obtain ⟨cell, k, e1, e2, e3, -, -⟩ := E
  obtain ⟨p, -, u, a, -, q, -, G, rfl | rfl⟩ := B
  · obtain ⟨c0, cf, kf, i, f, g1, g2, -, -, -, -, g7⟩ := F
    cases (show h[q.sa]? = some q.sC from G.ha).symm.trans g1
    obtain ⟨cS, ⟨⟨-, -, -, ⟨c1, k1, i1, f1, -⟩, -, -, -, v1, -⟩, -⟩, -⟩ := G
    obtain ⟨k3, e4, -⟩ := State.fieldFound?_setVm (s := Z) hal g2
    have e5 := (show (Wst Z vm h).fieldFound? _ _ _ = _ from e4).symm.trans f1
    simp only [Option.some.injEq, Prod.mk.injEq] at e5
    rw [← e5.2.2.2, g7] at v1
    cases v1
  · cases (show h[q.sd]? = some q.SA from G.hd).symm.trans e1
    obtain ⟨cS, -, -, f, -⟩ := G
    have f' : vm.findClass "[B" = some q.SA.cls := f
    rw [hal.findClass] at f'
    obtain ⟨k1, q1, q2⟩ := Vm.findClass_spec f'
    obtain ⟨k2, q3, q4⟩ := Vm.findClass_spec e2
    cases q1.symm.trans q3
    exact absurd (q2.symm.trans q4) (by decide)
def own_EL : List (String × Nat) := [("java/lang/String", 7)]
def own_PH (Z : State) (s : State) (Q : Option Value → Heap → List Loc → Prop) (k n : Nat) (o : Outcome) (U : State) : Prop := ∃ v L, o = .returned v ∧ Q v U.heap L ∧ CHr Z own_EL s.vm s.heap U.vm U.heap ∧ ReturnedEndW s o U L k n
theorem ef_2e (m : MethodId) {sa : Addr} {ca : Addr} : entryFrame m #[(.ref sa), (.ref ca), (.int (0 : Int32)), (.int (Int32.ofNat 0)), .null] 6 = mkF m 0 #[.val (.ref sa), .val (.ref ca), .val (.int (0 : Int32)), .val (.int (Int32.ofNat 0)), .val .null, .unset] [] := by first | (simp [entryFrame, mkF, argsToLocals, Value.category]; done) | rfl
def Q2e (Z : State) (sa : Addr) (ca : Addr) (ch : Nat → Int32) (h0 : Heap) (n0 : Nat) (v : Option Value) (h : Heap) (L : List Loc) : Prop := Fr n0 L ∧ v = none ∧ Keep h0 h [sa] ∧ Exa Z h sa "java/lang/String" ∧ ∃ (va : Addr) (mm : Nat) (cd : Int32), Fld Z h sa "java/lang/String" "coder" "B" (.int cd) ∧ Fld Z h sa "java/lang/String" "value" "[B" (.ref va) ∧ own_Bs Z h va 0 ch mm cd
set_option maxRecDepth 65536 in
set_option maxHeartbeats 40000000 in
theorem rm2e (l : Launch) (Z : State) (a0 : Array Value) (hw : ∀ d ∈ tables_1, d.before a0 Z = true) (ws : List Jvm.Cond) (sa : Addr) (ca : Addr) (ch : Nat → Int32) (h0 : Heap) (n0 : Nat) (Z0 : n0 ≤ h0.size) (Ex : Exa Z h0 sa "java/lang/String") (Fc : Fld Z h0 sa "java/lang/String" "coder" "B" (.int (0 : Int32))) (Fv : Fld Z h0 sa "java/lang/String" "value" "[B" .null) (Va : own_Av Z h0 ca .char 0 (fun k => .int (own_ch (ch k)))) (g : n0 ≤ sa) :
    MetFree l (⟨"java/lang/String", "<init>", "([CIILjava/lang/Void;)V"⟩ : MethodName) (head1 (Jvm.Cond.code (⟨"java/lang/String", "<init>", "([CIILjava/lang/Void;)V"⟩ : MethodName) jdk_42_method_149_code 6 none :: ws) ({ frames := 1, cells := 2, slots := 4, locals := 12 } : Room)) (fun a U => a = #[(.ref sa), (.ref ca), (.int (0 : Int32)), (.int (Int32.ofNat 0)), .null] ∧ Z.Warmed39 U.vm ∧ U.heap = h0 ∧ CHv Z own_EL U.vm h0) (fun _ _ _ _ _ => True) (fun _ U oz U' => ∃ v L, oz = .returned v ∧ Q2e Z sa ca ch h0 n0 v U'.heap L ∧ CHr Z own_EL U.vm U.heap U'.vm U'.heap ∧ ReturnedEndW U oz U' L (({ frames := 1, cells := 2, slots := 4, locals := 12 } : Room)).cells (({ frames := 1, cells := 2, slots := 4, locals := 12 } : Room)).slots) := by
  refine MetFree.of_bodySF (plainFor_of_name pn_3) hisR ?_
  intro p e s m args below meth c s₁ Bd hml0 hP hK
  obtain ⟨rfl, hZ, hh, hCH⟩ := hP
  have hx := Bd.exec
  have hby := Bd.bytes
  have hml : c.maxLocals = 6 := hml0
  have hown : s.vm.findClass "java/lang/String" = some m.cls := findClass_of_methodNamed Bd.named
  have hnm := (name_of_methodNamed Bd.named Bd.method).1
  have X0 : Stand p l e ({ frames := 1, cells := 2, slots := 4, locals := 12 } : Room) s m #[(.ref sa), (.ref ca), (.int (0 : Int32)), (.int (Int32.ofNat 0)), .null] below meth c s₁ [] 0 0 := Stand.of_body Bd
  have e0 : s₁.heap = h0 := by rw [← hh, Bd.state]; rfl
  have N0 := Fr.nil n0
  show own_Go p.tables e below (own_PH Z s (Q2e Z sa ca ch h0 n0) ({ frames := 1, cells := 2, slots := 4, locals := 12 } : Room).cells ({ frames := 1, cells := 2, slots := 4, locals := 12 } : Room).slots) s₁ _
  rw [ef_2e]
  show own_Go p.tables e below _ s₁ (mkF m 0 #[.val (.ref sa), .val (.ref ca), .val (.int (0 : Int32)), .val (.int (Int32.ofNat 0)), .val .null, .unset] [])
  have hEL : EW Z a0 own_EL := EW.cons (hw _ (List.mem_of_getElem? (i := 14) rfl)) (fun c hc => by simp at hc) EW.nil
  refine own_go (fun tz kz => XS.aloadN X0.here hx rfl (hb hby d2_0) rfl rfl kz) ?_
  show own_Go p.tables e below _ s₁ (mkF m 1 #[.val (.ref sa), .val (.ref ca), .val (.int (0 : Int32)), .val (.int (Int32.ofNat 0)), .val .null, .unset] [(.ref sa)])
  obtain ⟨T1, X1, e1, st1⟩ := initO X0 hx hZ hown (hw _ (List.mem_of_getElem? (i := 11) rfl)) (hw _ (List.mem_of_getElem? (i := 12) rfl)) (hw _ (List.mem_of_getElem? (i := 13) rfl)) e0 (g := (mkF m 1 #[.val (.ref sa), .val (.ref ca), .val (.int (0 : Int32)), .val (.int (Int32.ofNat 0)), .val .null, .unset] [(.ref sa)])) rfl (by rw [hml]; rfl) rfl (hb hby d2_1) (by decide) (W := 0) (by show 2 * 0 + _ ≤ _; exact Nat.le_of_eq rfl) (by decide)
  refine own_go st1 ?_
  show own_Go p.tables e below _ T1 (mkF m 4 #[.val (.ref sa), .val (.ref ca), .val (.int (0 : Int32)), .val (.int (Int32.ofNat 0)), .val .null, .unset] [])
  refine own_go (fun tz kz => XS.iloadN X1.here hx rfl (hb hby d2_4) rfl kz) ?_
  show own_Go p.tables e below _ T1 (mkF m 5 #[.val (.ref sa), .val (.ref ca), .val (.int (0 : Int32)), .val (.int (Int32.ofNat 0)), .val .null, .unset] [(.int (Int32.ofNat 0))])
  refine own_go (fun tz kz => XS.ifNo X1.here hx rfl (hb hby d2_5) rfl (XT.i0_ne_f (by decide)) kz) ?_
  show own_Go p.tables e below _ T1 (mkF m 8 #[.val (.ref sa), .val (.ref ca), .val (.int (0 : Int32)), .val (.int (Int32.ofNat 0)), .val .null, .unset] [])
  refine own_go (fun tz kz => XS.aloadN X1.here hx rfl (hb hby d2_8) rfl rfl kz) ?_
  show own_Go p.tables e below _ T1 (mkF m 9 #[.val (.ref sa), .val (.ref ca), .val (.int (0 : Int32)), .val (.int (Int32.ofNat 0)), .val .null, .unset] [(.ref sa)])
  have hS0 : s.Since s.vm 0 := (State.WarmedH.refl s).since 0
  have wS : ∀ d ∈ Bundle.stringAtoms, d.before a0 Z = true := fun d hd => by
    simp only [Bundle.stringAtoms, List.mem_cons, List.not_mem_nil, or_false] at hd
    rcases hd with rfl | rfl | rfl | rfl | rfl | rfl | rfl
    · exact (hw _ (List.mem_of_getElem? (i := 3) rfl))
    · exact (hw _ (List.mem_of_getElem? (i := 2) rfl))
    · exact (hw _ (List.mem_of_getElem? (i := 15) rfl))
    · exact (hw _ (List.mem_of_getElem? (i := 16) rfl))
    · exact (hw _ (List.mem_of_getElem? (i := 17) rfl))
    · exact (hw _ (List.mem_of_getElem? (i := 18) rfl))
    · exact (hw _ (List.mem_of_getElem? (i := 19) rfl))
  obtain ⟨sl, T2, h2, k2, va, kk, X2, e2, E2, hS2, hk2, hZ2, hown2, ExS, FcS, FvS, ArS, -, -, CH2, Li, -, st2⟩ := ldcCH (s := s) (vm0 := s.vm) (vs := []) (z := 0) X1 hx hZ hown (hw _ (List.mem_of_getElem? (i := 14) rfl)) wS e1 hS0 (Nat.zero_le _) hEL (List.mem_cons_self ..) hCH ⟨(fun c hc => by simp at hc), rfl⟩ (by decide) rfl (g := (mkF m 9 #[.val (.ref sa), .val (.ref ca), .val (.int (0 : Int32)), .val (.int (Int32.ofNat 0)), .val .null, .unset] [(.ref sa)])) rfl (hb hby d2_9) (n := 0) (by decide) (by decide) (by decide) (by decide)
  refine own_go st2 ?_
  show own_Go p.tables e below _ T2 (mkF m 11 #[.val (.ref sa), .val (.ref ca), .val (.int (0 : Int32)), .val (.int (Int32.ofNat 0)), .val .null, .unset] [(.ref sl), (.ref sa)])
  obtain ⟨cc, Ac, -, Sc, -⟩ := ArS
  have Bv : own_Bs Z h2 va 0 ch 0 0 := ⟨fun _ => 0, ⟨cc, Ac, Sc, fun k hk => absurd hk (Nat.not_lt_zero k)⟩, Or.inl ⟨rfl, rfl, fun k hk => absurd hk (Nat.not_lt_zero k)⟩⟩
  have Sa := own_safe (EL := own_EL) (hZ2.alike) (Ex.ext E2) (Fv.ext E2)
  have hne : va ≠ sa := fun q => by subst q; obtain ⟨cz, kz, z1, z2, z3, -, -⟩ := Ex.ext E2; cases Ac.1.symm.trans z1; obtain ⟨-, k9, hk9, cm9, hk9'⟩ := Ac.2.1; obtain ⟨t0, kt, i1, i2, i3, -⟩ := Cond.instantiable_spec (hw _ (List.mem_of_getElem? (i := 2) rfl)); cases i1.symm.trans z2; cases i2.symm.trans hk9; rw [i3] at hk9'; cases hk9'
  skip
  obtain ⟨T3, X3, e3, st3⟩ := getF X2 hx hZ2 hown2 (host := "") (Or.inl (hw _ (List.mem_of_getElem? (i := 20) rfl))) Via.refl e2 FvS (g := (mkF m 11 #[.val (.ref sa), .val (.ref ca), .val (.int (0 : Int32)), .val (.int (Int32.ofNat 0)), .val .null, .unset] [(.ref sl), (.ref sa)])) rfl rfl (hb hby d2_11)
  refine own_go st3 ?_
  show own_Go p.tables e below _ T3 (mkF m 14 #[.val (.ref sa), .val (.ref ca), .val (.int (0 : Int32)), .val (.int (Int32.ofNat 0)), .val .null, .unset] [(.ref va), (.ref sa)])
  obtain ⟨T4, h4, X4, e4, W4, st4⟩ := putF X3 hx hZ2 hown2 (host := "") (Or.inl (hw _ (List.mem_of_getElem? (i := 20) rfl))) Via.refl e3 (Fv.ext E2) (Ex.ext E2) (Or.inr ⟨(hw _ (List.mem_of_getElem? (i := 16) rfl)), rfl, hnm⟩) (hw _ (List.mem_of_getElem? (i := 2) rfl)) (ty := (.array .byte)) (by decide) rfl rfl (g := (mkF m 14 #[.val (.ref sa), .val (.ref ca), .val (.int (0 : Int32)), .val (.int (Int32.ofNat 0)), .val .null, .unset] [(.ref va), (.ref sa)])) rfl rfl (hb hby d2_14)
  have Fw4 := (Fv.ext E2).same W4
  have N4 := Fr.snoc X4 N0 g
  refine own_go st4 ?_
  show own_Go p.tables e below _ T4 (mkF m 17 #[.val (.ref sa), .val (.ref ca), .val (.int (0 : Int32)), .val (.int (Int32.ofNat 0)), .val .null, .unset] [])
  have C1 := CH2.trans (CHr.wr W4 Sa CH2.1)
  refine own_go (fun tz kz => XS.aloadN X4.here hx rfl (hb hby d2_17) rfl rfl kz) ?_
  show own_Go p.tables e below _ T4 (mkF m 18 #[.val (.ref sa), .val (.ref ca), .val (.int (0 : Int32)), .val (.int (Int32.ofNat 0)), .val .null, .unset] [(.ref sa)])
  have Fc2 : Fld Z h4 sl "java/lang/String" "coder" "B" (.int (0 : Int32)) := FcS.other W4 (Or.inr (slot_ne (Or.inr (hw _ (List.mem_of_getElem? (i := 17) rfl))) (Or.inr (hw _ (List.mem_of_getElem? (i := 16) rfl))) (by decide) (t := .byte) (t' := (.array .byte)) (by decide) (by decide)))
  refine own_go (fun tz kz => ldcAgain (s := s) (vm0 := T2.vm) X4 hx hZ2 hown2 (hw _ (List.mem_of_getElem? (i := 14) rfl)) Li (g := (mkF m 18 #[.val (.ref sa), .val (.ref ca), .val (.int (0 : Int32)), .val (.int (Int32.ofNat 0)), .val .null, .unset] [(.ref sa)])) rfl (hb hby d2_18) tz kz) ?_
  show own_Go p.tables e below _ T4 (mkF m 20 #[.val (.ref sa), .val (.ref ca), .val (.int (0 : Int32)), .val (.int (Int32.ofNat 0)), .val .null, .unset] [(.ref sl), (.ref sa)])
  obtain ⟨T5, X5, e5, st5⟩ := getF X4 hx hZ2 hown2 (host := "") (Or.inl (hw _ (List.mem_of_getElem? (i := 21) rfl))) Via.refl e4 Fc2 (g := (mkF m 20 #[.val (.ref sa), .val (.ref ca), .val (.int (0 : Int32)), .val (.int (Int32.ofNat 0)), .val .null, .unset] [(.ref sl), (.ref sa)])) rfl rfl (hb hby d2_20)
  refine own_go st5 ?_
  show own_Go p.tables e below _ T5 (mkF m 23 #[.val (.ref sa), .val (.ref ca), .val (.int (0 : Int32)), .val (.int (Int32.ofNat 0)), .val .null, .unset] [(.int (0 : Int32)), (.ref sa)])
  obtain ⟨T6, h6, X6, e6, W6, st6⟩ := putFN X5 hx hZ2 hown2 (hw _ (List.mem_of_getElem? (i := 21) rfl)) Via.refl e5 ((Fc.ext E2).other W4 (Or.inr (slot_ne (Or.inr (hw _ (List.mem_of_getElem? (i := 17) rfl))) (Or.inr (hw _ (List.mem_of_getElem? (i := 16) rfl))) (by decide) (t := .byte) (t' := (.array .byte)) (by decide) (by decide)))) ((Ex.ext E2).wr W4) (Or.inr ⟨(hw _ (List.mem_of_getElem? (i := 17) rfl)), rfl, hnm⟩) (hw _ (List.mem_of_getElem? (i := 2) rfl)) (ty := .byte) (v' := .int (0 : Int32).toInt8.toInt32) (by decide) rfl (fits_nar_byte _) (g := (mkF m 23 #[.val (.ref sa), .val (.ref ca), .val (.int (0 : Int32)), .val (.int (Int32.ofNat 0)), .val .null, .unset] [(.int (0 : Int32)), (.ref sa)])) rfl rfl (hb hby d2_23)
  have Fw6 := (((Fc.ext E2).other W4 (Or.inr (slot_ne (Or.inr (hw _ (List.mem_of_getElem? (i := 17) rfl))) (Or.inr (hw _ (List.mem_of_getElem? (i := 16) rfl))) (by decide) (t := .byte) (t' := (.array .byte)) (by decide) (by decide))))).same W6
  have N6 := Fr.snoc X6 N4 g
  refine own_go st6 ?_
  show own_Go p.tables e below _ T6 (mkF m 26 #[.val (.ref sa), .val (.ref ca), .val (.int (0 : Int32)), .val (.int (Int32.ofNat 0)), .val .null, .unset] [])
  have Sa2 : Safe Z own_EL T2.vm h4 sa := Safe.wr W4 Sa CH2.1 Sa
  have C2 := C1.trans (CHr.wr W6 Sa2 C1.1)
  have Fc3 : Fld Z h6 sa "java/lang/String" "coder" "B" (.int (0 : Int32)) := Fw6
  obtain ⟨fs, hr, hrun, hended, hWW⟩ := Jvm.Stand.leaveW (s := s) (vm₁ := T2.vm) X6 hS2 (by rw [show T6.heap = h6 from e6]; exact Nat.le_trans hk2 (Nat.le_trans (Keep.of_wr W4).1 (Keep.of_wr W6).1)) (v := none) (fun _ => rfl) (BodyLoose.notSynchronized Bd)
  refine ⟨_, _, ?_, hrun, hended, _, _, rfl, ?_, (show CHr Z own_EL s.vm s.heap T6.vm T6.heap by rw [hh, e6]; exact CHr.trans C2 (CHv.at (s := s) (vm0 := T2.vm) X6 hZ2 hEL (C2).1)), hWW.1, hWW.2.1, hWW.2.2.1, hWW.2.2.2.mono (by decide) (by decide)⟩
  · exact X6.returnOut hx Bd.returns (hb hby d2_26) hr
  · show Q2e Z sa ca ch h0 n0 _ T6.heap _
    rw [e6]
    exact ⟨N6, rfl, (((Keep.refl h0 [sa]).ext E2).wr W4 (Or.inl (List.mem_singleton.mpr rfl))).wr W6 (Or.inl (List.mem_singleton.mpr rfl)), (((Ex.ext E2).wr W4).wr W6), va, 0, 0, Fc3, (Fw4.other W6 (Or.inr (slot_ne (Or.inr (hw _ (List.mem_of_getElem? (i := 16) rfl))) (Or.inr (hw _ (List.mem_of_getElem? (i := 17) rfl))) (by decide) (t := (.array .byte)) (t' := .byte) (by decide) (by decide)))), (Bv.other W4 hne).other W6 hne⟩
theorem ef_1e (m : MethodId) {sa : Addr} {ca : Addr} : entryFrame m #[(.ref sa), (.ref ca)] 2 = mkF m 0 #[.val (.ref sa), .val (.ref ca)] [] := by first | (simp [entryFrame, mkF, argsToLocals, Value.category]; done) | rfl
def Q1e (Z : State) (sa : Addr) (ca : Addr) (ch : Nat → Int32) (h0 : Heap) (n0 : Nat) (v : Option Value) (h : Heap) (L : List Loc) : Prop := Fr n0 L ∧ v = none ∧ Keep h0 h [sa] ∧ Exa Z h sa "java/lang/String" ∧ ∃ (va : Addr) (mm : Nat) (cd : Int32), Fld Z h sa "java/lang/String" "coder" "B" (.int cd) ∧ Fld Z h sa "java/lang/String" "value" "[B" (.ref va) ∧ own_Bs Z h va 0 ch mm cd
set_option maxRecDepth 65536 in
set_option maxHeartbeats 40000000 in
theorem rm1e (l : Launch) (Z : State) (a0 : Array Value) (hw : ∀ d ∈ tables_1, d.before a0 Z = true) (ws : List Jvm.Cond) (sa : Addr) (ca : Addr) (ch : Nat → Int32) (h0 : Heap) (n0 : Nat) (Z0 : n0 ≤ h0.size) (Ex : Exa Z h0 sa "java/lang/String") (Fc : Fld Z h0 sa "java/lang/String" "coder" "B" (.int (0 : Int32))) (Fv : Fld Z h0 sa "java/lang/String" "value" "[B" .null) (Va : own_Av Z h0 ca .char 0 (fun k => .int (own_ch (ch k)))) (g : n0 ≤ sa) :
    MetFree l (⟨"java/lang/String", "<init>", "([C)V"⟩ : MethodName) (head1 (Jvm.Cond.code (⟨"java/lang/String", "<init>", "([C)V"⟩ : MethodName) jdk_42_method_3_code 2 none :: ws) ({ frames := 2, cells := 2, slots := 4, locals := 29 } : Room)) (fun a U => a = #[(.ref sa), (.ref ca)] ∧ Z.Warmed39 U.vm ∧ U.heap = h0 ∧ CHv Z own_EL U.vm h0) (fun _ _ _ _ _ => True) (fun _ U oz U' => ∃ v L, oz = .returned v ∧ Q1e Z sa ca ch h0 n0 v U'.heap L ∧ CHr Z own_EL U.vm U.heap U'.vm U'.heap ∧ ReturnedEndW U oz U' L (({ frames := 2, cells := 2, slots := 4, locals := 29 } : Room)).cells (({ frames := 2, cells := 2, slots := 4, locals := 29 } : Room)).slots) := by
  refine MetFree.of_bodySF (plainFor_of_name pn_3) hisR ?_
  intro p e s m args below meth c s₁ Bd hml0 hP hK
  obtain ⟨rfl, hZ, hh, hCH⟩ := hP
  have hx := Bd.exec
  have hby := Bd.bytes
  have hml : c.maxLocals = 2 := hml0
  have hown : s.vm.findClass "java/lang/String" = some m.cls := findClass_of_methodNamed Bd.named
  have hnm := (name_of_methodNamed Bd.named Bd.method).1
  have X0 : Stand p l e ({ frames := 2, cells := 2, slots := 4, locals := 29 } : Room) s m #[(.ref sa), (.ref ca)] below meth c s₁ [] 0 0 := Stand.of_body Bd
  have e0 : s₁.heap = h0 := by rw [← hh, Bd.state]; rfl
  have N0 := Fr.nil n0
  show own_Go p.tables e below (own_PH Z s (Q1e Z sa ca ch h0 n0) ({ frames := 2, cells := 2, slots := 4, locals := 29 } : Room).cells ({ frames := 2, cells := 2, slots := 4, locals := 29 } : Room).slots) s₁ _
  rw [ef_1e]
  show own_Go p.tables e below _ s₁ (mkF m 0 #[.val (.ref sa), .val (.ref ca)] [])
  have hEL : EW Z a0 own_EL := EW.cons (hw _ (List.mem_of_getElem? (i := 14) rfl)) (fun c hc => by simp at hc) EW.nil
  refine own_go (fun tz kz => XS.aloadN X0.here hx rfl (hb hby d1_0) rfl rfl kz) ?_
  show own_Go p.tables e below _ s₁ (mkF m 1 #[.val (.ref sa), .val (.ref ca)] [(.ref sa)])
  refine own_go (fun tz kz => XS.aloadN X0.here hx rfl (hb hby d1_1) rfl rfl kz) ?_
  show own_Go p.tables e below _ s₁ (mkF m 2 #[.val (.ref sa), .val (.ref ca)] [(.ref ca), (.ref sa)])
  refine own_go (fun tz kz => XS.iconst X0.here hx rfl (hb hby d1_2) kz) ?_
  show own_Go p.tables e below _ s₁ (mkF m 3 #[.val (.ref sa), .val (.ref ca)] [(.int (0 : Int32)), (.ref ca), (.ref sa)])
  refine own_go (fun tz kz => XS.aloadN X0.here hx rfl (hb hby d1_3) rfl rfl kz) ?_
  show own_Go p.tables e below _ s₁ (mkF m 4 #[.val (.ref sa), .val (.ref ca)] [(.ref ca), (.int (0 : Int32)), (.ref ca), (.ref sa)])
  obtain ⟨c1, Ar1, Sz1, Ge1⟩ := id (Va)
  refine own_go (fun tz kz => X0.arraylength hx (by rw [e0]; exact Ar1.1) (State.isArrayOf_alike hZ.alike Ar1.2.1) (g := (mkF m 4 #[.val (.ref sa), .val (.ref ca)] [(.ref ca), (.int (0 : Int32)), (.ref ca), (.ref sa)])) rfl rfl (hb hby d1_4) tz kz) ?_
  rw [Sz1]
  show own_Go p.tables e below _ s₁ (mkF m 5 #[.val (.ref sa), .val (.ref ca)] [(.int (Int32.ofNat 0)), (.int (0 : Int32)), (.ref ca), (.ref sa)])
  refine own_go (fun tz kz => XS.aconstNull X0.here hx rfl (hb hby d1_5) kz) ?_
  show own_Go p.tables e below _ s₁ (mkF m 6 #[.val (.ref sa), .val (.ref ca)] [.null, (.int (Int32.ofNat 0)), (.int (0 : Int32)), (.ref ca), (.ref sa)])
  obtain ⟨_, _, ⟨T2, L2, k2, n2⟩, -, X2, hS2, hgr2, ⟨Lc2, hQ2, l2, y2, z2, hC2⟩, st2⟩ := Jvm.Stand.specialBackS (s := s.setVm s.vm) X0 hx (y := (⟨"java/lang/String", "<init>", "([CIILjava/lang/Void;)V"⟩ : MethodName)) rfl hown (mvT hZ (hw _ (List.mem_of_getElem? (i := 7) rfl))) (mvT hZ (hw _ (List.mem_of_getElem? (i := 8) rfl))) (mvT hZ (hw _ (List.mem_of_getElem? (i := 10) rfl))) (by decide) (backOfSH (s := s) (vm0 := s.vm) (EL := own_EL) (W := 0) (rm2e l Z a0 hw [] sa ca ch h0 n0 Z0 Ex Fc Fv Va g) hZ (hw _ (List.mem_of_getElem? (i := 10) rfl)) (hw _ (List.mem_of_getElem? (i := 3) rfl)) (by decide) (by decide) hEL hCH) (g := (mkF m 6 #[.val (.ref sa), .val (.ref ca)] [.null, (.int (Int32.ofNat 0)), (.int (0 : Int32)), (.ref ca), (.ref sa)])) rfl (by rw [hml]; rfl) (Steps.refl _) (a := sa) (argsL := [(.ref ca), (.int (0 : Int32)), (.int (Int32.ofNat 0)), .null]) (rest := []) (lenOf pd_13 rfl) rfl (by show 2 * 0 + _ ≤ _; exact Nat.le_of_eq rfl) (hb hby d1_6) (fun _ _ => ⟨rfl, e0, (by decide : 0 + 2 ≤ _), (by decide : 0 + 4 ≤ _)⟩)
  dsimp only [Pt.U, Pt.locs, Pt.cells, Pt.slots] at X2 l2 y2 z2 st2 hQ2 hC2 hS2 hgr2
  subst l2 y2 z2
  obtain ⟨N2q, rfl, K2, Ex', va, mm, cd, Fc', Fv', B'⟩ := hQ2
  have N2 := Fr.app N0 N2q
  have hZ2 : Z.Warmed39 (s.setVm T2.vm).vm := State.Warmed39.trans (t := s) hZ hS2.1
  have hown2 : (s.setVm T2.vm).vm.findClass "java/lang/String" = some m.cls := by rw [show (s.setVm T2.vm).vm = T2.vm from rfl, hS2.1.alike.findClass]; exact hown
  refine own_go (fun tz kz => st2.trans kz) ?_
  show own_Go p.tables e below _ T2 (mkF m 9 #[.val (.ref sa), .val (.ref ca)] [])
  obtain ⟨fs, hr, hrun, hended, hWW⟩ := Jvm.Stand.leaveW (s := s) (vm₁ := T2.vm) X2 hS2 (by rw [show T2.heap = T2.heap from rfl]; exact (Nat.le_refl _)) (v := none) (fun _ => rfl) (BodyLoose.notSynchronized Bd)
  refine ⟨_, _, ?_, hrun, hended, _, _, rfl, ?_, (show CHr Z own_EL s.vm s.heap T2.vm T2.heap by rw [hh]; exact CHr.trans hC2 (CHv.at (s := s) (vm0 := T2.vm) X2 hZ2 hEL (hC2).1)), hWW.1, hWW.2.1, hWW.2.2.1, hWW.2.2.2.mono (by decide) (by decide)⟩
  · exact X2.returnOut hx Bd.returns (hb hby d1_9) hr
  · show Q1e Z sa ca ch h0 n0 _ T2.heap _
    exact ⟨N2, rfl, K2, Ex', va, mm, cd, Fc', Fv', B'⟩
def own_c3 (a b c : Int32) (k : Nat) : Int32 := if k = 0 then a else if k = 1 then b else c
theorem pd_16 : parseMethodDescriptor "([C)V" = some ⟨[(.array .char)], none⟩ := by decide +kernel
theorem pd_17 : parseMethodDescriptor "(C)Z" = some ⟨[.char], some .boolean⟩ := by decide +kernel
theorem pd_18 : parseMethodDescriptor "(Ljava/lang/String;)Z" = some ⟨[(.object "java/lang/String")], some .boolean⟩ := by decide +kernel
theorem ef_0 (m : MethodId) {p1 : Int32} {p2 : Int32} {p3 : Int32} {p4 : Int32} : entryFrame m #[(.int p1), (.int p2), (.int p3), (.int p4)] maxLocals = mkF m 0 #[.val (.int p1), .val (.int p2), .val (.int p3), .val (.int p4), .unset, .unset, .unset, .unset, .unset, .unset, .unset, .unset] [] := by first | (simp [entryFrame, mkF, argsToLocals, Value.category, maxLocals]; done) | rfl
def Q0 (Z : State) (p1 : Int32) (p2 : Int32) (p3 : Int32) (p4 : Int32) (cs : Int32) (sf : Value) (h0 : Heap) (n0 : Nat) (v : Option Value) (h : Heap) (L : List Loc) : Prop := v = some (.int 1) ∧ Fr n0 L
set_option maxRecDepth 65536 in
set_option maxHeartbeats 40000000 in
theorem rm0 (l : Launch) (Z : State) (a0 : Array Value) (hw : ∀ d ∈ tables_1, d.before a0 Z = true) (ws : List Jvm.Cond) (p1 : Int32) (p2 : Int32) (p3 : Int32) (p4 : Int32) (cs : Int32) (sf : Value) (h0 : Heap) (n0 : Nat) (Z0 : n0 ≤ h0.size) (SC : Sta Z Z.heap "java/lang/String" "COMPACT_STRINGS" "Z" (.int cs)) (hcs : ¬ cs = 0) (SF : Sta Z Z.heap "jdk/internal/util/Preconditions" "SIOOBE_FORMATTER" "Ljava/util/function/BiFunction;" sf) (hsf : sf = .null ∨ ∃ a, sf = .ref a) (AD : Sta Z Z.heap "java/lang/StringUTF16" "$assertionsDisabled" "Z" (.int 1)) (HB : Sta Z Z.heap "java/lang/StringUTF16" "HI_BYTE_SHIFT" "I" (.int 0)) (LB : Sta Z Z.heap "java/lang/StringUTF16" "LO_BYTE_SHIFT" "I" (.int 8)) (O0 : Old Z n0 h0) :
    MetFree l x (head1 (Jvm.Cond.code x code maxLocals ret :: ws) room_1) (fun a U => a = #[(.int p1), (.int p2), (.int p3), (.int p4)] ∧ Z.Warmed39 U.vm ∧ U.heap = h0 ∧ CHv Z own_EL U.vm h0) (fun _ _ _ _ _ => True) (fun _ U oz U' => ∃ v L, oz = .returned v ∧ Q0 Z p1 p2 p3 p4 cs sf h0 n0 v U'.heap L ∧ ReturnedEndW U oz U' L (room_1).cells (room_1).slots) := by
  refine MetFree.of_bodySF (plainFor_of_name pn_0) hisR ?_
  intro p e s m args below meth c s₁ Bd hml0 hP hK
  obtain ⟨rfl, hZ, hh, hCH⟩ := hP
  have hx := Bd.exec
  have hby := Bd.bytes
  have hml : c.maxLocals = 12 := hml0
  have hown : s.vm.findClass "com/example/scriptwire/scriptwire/script/PdmpStateIsCodePinLaw" = some m.cls := findClass_of_methodNamed Bd.named
  have hnm := (name_of_methodNamed Bd.named Bd.method).1
  have X0 : Stand p l e room_1 s m #[(.int p1), (.int p2), (.int p3), (.int p4)] below meth c s₁ [] 0 0 := Stand.of_body Bd
  have e0 : s₁.heap = h0 := by rw [← hh, Bd.state]; rfl
  have N0 := Fr.nil n0
  show own_Go p.tables e below (own_PW s (Q0 Z p1 p2 p3 p4 cs sf h0 n0) room_1.cells room_1.slots) s₁ _
  rw [ef_0]
  show own_Go p.tables e below _ s₁ (mkF m 0 #[.val (.int p1), .val (.int p2), .val (.int p3), .val (.int p4), .unset, .unset, .unset, .unset, .unset, .unset, .unset, .unset] [])
  have hEL : EW Z a0 own_EL := EW.cons (hw _ (List.mem_of_getElem? (i := 14) rfl)) (fun c hc => by simp at hc) EW.nil
  obtain ⟨n, hn, en⟩ := own_low3 p1
  have hS0 : s.Since s.vm 0 := (State.WarmedH.refl s).since 0
  have wS : ∀ d ∈ Bundle.stringAtoms, d.before a0 Z = true := fun d hd => by
    simp only [Bundle.stringAtoms, List.mem_cons, List.not_mem_nil, or_false] at hd
    rcases hd with rfl | rfl | rfl | rfl | rfl | rfl | rfl
    · exact (hw _ (List.mem_of_getElem? (i := 3) rfl))
    · exact (hw _ (List.mem_of_getElem? (i := 2) rfl))
    · exact (hw _ (List.mem_of_getElem? (i := 15) rfl))
    · exact (hw _ (List.mem_of_getElem? (i := 16) rfl))
    · exact (hw _ (List.mem_of_getElem? (i := 17) rfl))
    · exact (hw _ (List.mem_of_getElem? (i := 18) rfl))
    · exact (hw _ (List.mem_of_getElem? (i := 19) rfl))
  refine own_go (fun tz kz => XS.iloadN X0.here hx rfl (hb hby at_0) rfl kz) ?_
  show own_Go p.tables e below _ s₁ (mkF m 1 #[.val (.int p1), .val (.int p2), .val (.int p3), .val (.int p4), .unset, .unset, .unset, .unset, .unset, .unset, .unset, .unset] [(.int p1)])
  refine own_go (fun tz kz => XS.iconst X0.here hx rfl (hb hby at_1) kz) ?_
  show own_Go p.tables e below _ s₁ (mkF m 2 #[.val (.int p1), .val (.int p2), .val (.int p3), .val (.int p4), .unset, .unset, .unset, .unset, .unset, .unset, .unset, .unset] [(.int (3 : Int32)), (.int p1)])
  refine own_go (fun tz kz => XS.iand X0.here hx rfl (hb hby at_2) rfl kz) ?_
  show own_Go p.tables e below _ s₁ (mkF m 3 #[.val (.int p1), .val (.int p2), .val (.int p3), .val (.int p4), .unset, .unset, .unset, .unset, .unset, .unset, .unset, .unset] [(.int (p1 &&& (3 : Int32)))])
  rw [show (p1 &&& (3 : Int32)) = (Int32.ofNat n) from en]
  show own_Go p.tables e below _ s₁ (mkF m 3 #[.val (.int p1), .val (.int p2), .val (.int p3), .val (.int p4), .unset, .unset, .unset, .unset, .unset, .unset, .unset, .unset] [(.int (Int32.ofNat n))])
  refine own_go (fun tz kz => XS.istore X0.here hx rfl (hb hby at_3) rfl (l' := #[.val (.int p1), .val (.int p2), .val (.int p3), .val (.int p4), .val (.int (Int32.ofNat n)), .unset, .unset, .unset, .unset, .unset, .unset, .unset]) rfl kz) ?_
  show own_Go p.tables e below _ s₁ (mkF m 5 #[.val (.int p1), .val (.int p2), .val (.int p3), .val (.int p4), .val (.int (Int32.ofNat n)), .unset, .unset, .unset, .unset, .unset, .unset, .unset] [])
  refine own_go (fun tz kz => XS.iloadN X0.here hx rfl (hb hby at_5) rfl kz) ?_
  show own_Go p.tables e below _ s₁ (mkF m 6 #[.val (.int p1), .val (.int p2), .val (.int p3), .val (.int p4), .val (.int (Int32.ofNat n)), .unset, .unset, .unset, .unset, .unset, .unset, .unset] [(.int p1)])
  refine own_go (fun tz kz => XS.bipush X0.here hx rfl (hb hby at_6) kz) ?_
  show own_Go p.tables e below _ s₁ (mkF m 8 #[.val (.int p1), .val (.int p2), .val (.int p3), .val (.int p4), .val (.int (Int32.ofNat n)), .unset, .unset, .unset, .unset, .unset, .unset, .unset] [(.int (12 : Int32)), (.int p1)])
  refine own_go (fun tz kz => XS.iand X0.here hx rfl (hb hby at_8) rfl kz) ?_
  show own_Go p.tables e below _ s₁ (mkF m 9 #[.val (.int p1), .val (.int p2), .val (.int p3), .val (.int p4), .val (.int (Int32.ofNat n)), .unset, .unset, .unset, .unset, .unset, .unset, .unset] [(.int (p1 &&& (12 : Int32)))])
  refine own_go (fun tz kz => XS.bipush X0.here hx rfl (hb hby at_9) kz) ?_
  show own_Go p.tables e below _ s₁ (mkF m 11 #[.val (.int p1), .val (.int p2), .val (.int p3), .val (.int p4), .val (.int (Int32.ofNat n)), .unset, .unset, .unset, .unset, .unset, .unset, .unset] [(.int (12 : Int32)), (.int (p1 &&& (12 : Int32)))])
  have J19 : ∀ (nl : Int32), own_Go p.tables e below (own_PW s (Q0 Z p1 p2 p3 p4 cs sf h0 n0) room_1.cells room_1.slots) s₁ (mkF m 19 #[.val (.int p1), .val (.int p2), .val (.int p3), .val (.int p4), .val (.int (Int32.ofNat n)), .unset, .unset, .unset, .unset, .unset, .unset, .unset] [(.int nl)]) := by
    intro nl
    show own_Go p.tables e below _ s₁ (mkF m 19 #[.val (.int p1), .val (.int p2), .val (.int p3), .val (.int p4), .val (.int (Int32.ofNat n)), .unset, .unset, .unset, .unset, .unset, .unset, .unset] [(.int nl)])
    refine own_go (fun tz kz => XS.istore X0.here hx rfl (hb hby at_19) rfl (l' := #[.val (.int p1), .val (.int p2), .val (.int p3), .val (.int p4), .val (.int (Int32.ofNat n)), .val (.int nl), .unset, .unset, .unset, .unset, .unset, .unset]) rfl kz) ?_
    show own_Go p.tables e below _ s₁ (mkF m 21 #[.val (.int p1), .val (.int p2), .val (.int p3), .val (.int p4), .val (.int (Int32.ofNat n)), .val (.int nl), .unset, .unset, .unset, .unset, .unset, .unset] [])
    refine own_go (fun tz kz => XS.iloadN X0.here hx rfl (hb hby at_21) rfl kz) ?_
    show own_Go p.tables e below _ s₁ (mkF m 22 #[.val (.int p1), .val (.int p2), .val (.int p3), .val (.int p4), .val (.int (Int32.ofNat n)), .val (.int nl), .unset, .unset, .unset, .unset, .unset, .unset] [(.int p2)])
    refine own_go (fun tz kz => XT.i2c X0.here hx rfl (hb hby at_22) rfl kz) ?_
    show own_Go p.tables e below _ s₁ (mkF m 23 #[.val (.int p1), .val (.int p2), .val (.int p3), .val (.int p4), .val (.int (Int32.ofNat n)), .val (.int nl), .unset, .unset, .unset, .unset, .unset, .unset] [(.int p2.toUInt32.toUInt16.toUInt32.toInt32)])
    refine own_go (fun tz kz => XS.istore X0.here hx rfl (hb hby at_23) rfl (l' := #[.val (.int p1), .val (.int p2), .val (.int p3), .val (.int p4), .val (.int (Int32.ofNat n)), .val (.int nl), .val (.int p2.toUInt32.toUInt16.toUInt32.toInt32), .unset, .unset, .unset, .unset, .unset]) rfl kz) ?_
    show own_Go p.tables e below _ s₁ (mkF m 25 #[.val (.int p1), .val (.int p2), .val (.int p3), .val (.int p4), .val (.int (Int32.ofNat n)), .val (.int nl), .val (.int p2.toUInt32.toUInt16.toUInt32.toInt32), .unset, .unset, .unset, .unset, .unset] [])
    refine own_go (fun tz kz => XS.iloadN X0.here hx rfl (hb hby at_25) rfl kz) ?_
    show own_Go p.tables e below _ s₁ (mkF m 26 #[.val (.int p1), .val (.int p2), .val (.int p3), .val (.int p4), .val (.int (Int32.ofNat n)), .val (.int nl), .val (.int p2.toUInt32.toUInt16.toUInt32.toInt32), .unset, .unset, .unset, .unset, .unset] [(.int p3)])
    refine own_go (fun tz kz => XT.i2c X0.here hx rfl (hb hby at_26) rfl kz) ?_
    show own_Go p.tables e below _ s₁ (mkF m 27 #[.val (.int p1), .val (.int p2), .val (.int p3), .val (.int p4), .val (.int (Int32.ofNat n)), .val (.int nl), .val (.int p2.toUInt32.toUInt16.toUInt32.toInt32), .unset, .unset, .unset, .unset, .unset] [(.int p3.toUInt32.toUInt16.toUInt32.toInt32)])
    refine own_go (fun tz kz => XS.istore X0.here hx rfl (hb hby at_27) rfl (l' := #[.val (.int p1), .val (.int p2), .val (.int p3), .val (.int p4), .val (.int (Int32.ofNat n)), .val (.int nl), .val (.int p2.toUInt32.toUInt16.toUInt32.toInt32), .val (.int p3.toUInt32.toUInt16.toUInt32.toInt32), .unset, .unset, .unset, .unset]) rfl kz) ?_
    show own_Go p.tables e below _ s₁ (mkF m 29 #[.val (.int p1), .val (.int p2), .val (.int p3), .val (.int p4), .val (.int (Int32.ofNat n)), .val (.int nl), .val (.int p2.toUInt32.toUInt16.toUInt32.toInt32), .val (.int p3.toUInt32.toUInt16.toUInt32.toInt32), .unset, .unset, .unset, .unset] [])
    refine own_go (fun tz kz => XS.iloadN X0.here hx rfl (hb hby at_29) rfl kz) ?_
    show own_Go p.tables e below _ s₁ (mkF m 30 #[.val (.int p1), .val (.int p2), .val (.int p3), .val (.int p4), .val (.int (Int32.ofNat n)), .val (.int nl), .val (.int p2.toUInt32.toUInt16.toUInt32.toInt32), .val (.int p3.toUInt32.toUInt16.toUInt32.toInt32), .unset, .unset, .unset, .unset] [(.int p4)])
    refine own_go (fun tz kz => XT.i2c X0.here hx rfl (hb hby at_30) rfl kz) ?_
    show own_Go p.tables e below _ s₁ (mkF m 31 #[.val (.int p1), .val (.int p2), .val (.int p3), .val (.int p4), .val (.int (Int32.ofNat n)), .val (.int nl), .val (.int p2.toUInt32.toUInt16.toUInt32.toInt32), .val (.int p3.toUInt32.toUInt16.toUInt32.toInt32), .unset, .unset, .unset, .unset] [(.int p4.toUInt32.toUInt16.toUInt32.toInt32)])
    refine own_go (fun tz kz => XS.istore X0.here hx rfl (hb hby at_31) rfl (l' := #[.val (.int p1), .val (.int p2), .val (.int p3), .val (.int p4), .val (.int (Int32.ofNat n)), .val (.int nl), .val (.int p2.toUInt32.toUInt16.toUInt32.toInt32), .val (.int p3.toUInt32.toUInt16.toUInt32.toInt32), .val (.int p4.toUInt32.toUInt16.toUInt32.toInt32), .unset, .unset, .unset]) rfl kz) ?_
    show own_Go p.tables e below _ s₁ (mkF m 33 #[.val (.int p1), .val (.int p2), .val (.int p3), .val (.int p4), .val (.int (Int32.ofNat n)), .val (.int nl), .val (.int p2.toUInt32.toUInt16.toUInt32.toInt32), .val (.int p3.toUInt32.toUInt16.toUInt32.toInt32), .val (.int p4.toUInt32.toUInt16.toUInt32.toInt32), .unset, .unset, .unset] [])
    refine own_go (fun tz kz => XS.iload X0.here hx rfl (hb hby at_33) rfl kz) ?_
    show own_Go p.tables e below _ s₁ (mkF m 35 #[.val (.int p1), .val (.int p2), .val (.int p3), .val (.int p4), .val (.int (Int32.ofNat n)), .val (.int nl), .val (.int p2.toUInt32.toUInt16.toUInt32.toInt32), .val (.int p3.toUInt32.toUInt16.toUInt32.toInt32), .val (.int p4.toUInt32.toUInt16.toUInt32.toInt32), .unset, .unset, .unset] [(.int (Int32.ofNat n))])
    show own_Go p.tables e below _ s₁ (mkF m 35 #[.val (.int p1), .val (.int p2), .val (.int p3), .val (.int p4), .val (.int (Int32.ofNat n)), .val (.int nl), .val (.int (own_ch p2)), .val (.int p3.toUInt32.toUInt16.toUInt32.toInt32), .val (.int p4.toUInt32.toUInt16.toUInt32.toInt32), .unset, .unset, .unset] [(.int (Int32.ofNat n))])
    show own_Go p.tables e below _ s₁ (mkF m 35 #[.val (.int p1), .val (.int p2), .val (.int p3), .val (.int p4), .val (.int (Int32.ofNat n)), .val (.int nl), .val (.int (own_ch p2)), .val (.int (own_ch p3)), .val (.int p4.toUInt32.toUInt16.toUInt32.toInt32), .unset, .unset, .unset] [(.int (Int32.ofNat n))])
    show own_Go p.tables e below _ s₁ (mkF m 35 #[.val (.int p1), .val (.int p2), .val (.int p3), .val (.int p4), .val (.int (Int32.ofNat n)), .val (.int nl), .val (.int (own_ch p2)), .val (.int (own_ch p3)), .val (.int (own_ch p4)), .unset, .unset, .unset] [(.int (Int32.ofNat n))])
    have J109 : ∀ (T1 : State) (h1 : Heap) (lo1 : List Loc) (X1 : Stand p l e room_1 s m #[(.int p1), (.int p2), (.int p3), (.int p4)] below meth c T1 lo1 1 3) (e1 : T1.heap = h1) (N1 : Fr n0 lo1) (Zs1 : n0 ≤ h1.size) (b : Addr) (On : Old Z n0 h1) (hn0 : 0 < n) (Vb : own_Av Z h1 b .char n (fun k => .int (own_ch ((own_c3 p2 p3 p4) k)))), own_Go p.tables e below (own_PW s (Q0 Z p1 p2 p3 p4 cs sf h0 n0) room_1.cells room_1.slots) T1 (mkF m 109 #[.val (.int p1), .val (.int p2), .val (.int p3), .val (.int p4), .val (.int (Int32.ofNat n)), .val (.int nl), .val (.int (own_ch p2)), .val (.int (own_ch p3)), .val (.int (own_ch p4)), .val (.ref b), .unset, .unset] []) := by
      intro T1 h1 lo1 X1 e1 N1 Zs1 b On hn0 Vb
      show own_Go p.tables e below _ T1 (mkF m 109 #[.val (.int p1), .val (.int p2), .val (.int p3), .val (.int p4), .val (.int (Int32.ofNat n)), .val (.int nl), .val (.int (own_ch p2)), .val (.int (own_ch p3)), .val (.int (own_ch p4)), .val (.ref b), .unset, .unset] [])
      refine own_go (fun tz kz => XS.iload X1.here hx rfl (hb hby at_109) rfl kz) ?_
      show own_Go p.tables e below _ T1 (mkF m 111 #[.val (.int p1), .val (.int p2), .val (.int p3), .val (.int p4), .val (.int (Int32.ofNat n)), .val (.int nl), .val (.int (own_ch p2)), .val (.int (own_ch p3)), .val (.int (own_ch p4)), .val (.ref b), .unset, .unset] [(.int nl)])
      by_cases h0' : nl = (0 : Int32)
      ·
        refine own_go (fun tz kz => XS.ifYes X1.here hx rfl (pc0 := 111) (pc' := 118) rfl (hb hby at_111) rfl (XT.i0_eq_t h0') (by decide) (by decide) kz) ?_
        show own_Go p.tables e below _ T1 (mkF m 118 #[.val (.int p1), .val (.int p2), .val (.int p3), .val (.int p4), .val (.int (Int32.ofNat n)), .val (.int nl), .val (.int (own_ch p2)), .val (.int (own_ch p3)), .val (.int (own_ch p4)), .val (.ref b), .unset, .unset] [])
        obtain ⟨T2, h2, X2, e2, E2, A2, D2, -, st2⟩ := newO X1 hx hZ hown (hw _ (List.mem_of_getElem? (i := 1) rfl)) (hw _ (List.mem_of_getElem? (i := 2) rfl)) (hw _ (List.mem_of_getElem? (i := 3) rfl)) e1 (g := (mkF m 118 #[.val (.int p1), .val (.int p2), .val (.int p3), .val (.int p4), .val (.int (Int32.ofNat n)), .val (.int nl), .val (.int (own_ch p2)), .val (.int (own_ch p3)), .val (.int (own_ch p4)), .val (.ref b), .unset, .unset] [])) rfl (hb hby at_118) (by decide) (by decide)
        obtain ⟨o, eq_o⟩ : ∃ z, z = (h1).size := ⟨_, rfl⟩
        rw [← eq_o] at A2 D2 st2
        have g_o : n0 ≤ o := Nat.le_trans Zs1 (Nat.le_of_eq eq_o.symm)
        have F_value_o : Fld Z h2 o "java/lang/String" "value" "[B" .null := D2 (Or.inr (hw _ (List.mem_of_getElem? (i := 16) rfl))) (ty := (.array .byte)) (by decide)
        have F_coder_o : Fld Z h2 o "java/lang/String" "coder" "B" (.int (0 : Int32)) := D2 (Or.inr (hw _ (List.mem_of_getElem? (i := 17) rfl))) (ty := .byte) (by decide)
        refine own_go st2 ?_
        show own_Go p.tables e below _ T2 (mkF m 121 #[.val (.int p1), .val (.int p2), .val (.int p3), .val (.int p4), .val (.int (Int32.ofNat n)), .val (.int nl), .val (.int (own_ch p2)), .val (.int (own_ch p3)), .val (.int (own_ch p4)), .val (.ref b), .unset, .unset] [(.ref o)])
        refine own_go (fun tz kz => XS.dup X2.here hx rfl (hb hby at_121) rfl rfl kz) ?_
        show own_Go p.tables e below _ T2 (mkF m 122 #[.val (.int p1), .val (.int p2), .val (.int p3), .val (.int p4), .val (.int (Int32.ofNat n)), .val (.int nl), .val (.int (own_ch p2)), .val (.int (own_ch p3)), .val (.int (own_ch p4)), .val (.ref b), .unset, .unset] [(.ref o), (.ref o)])
        refine own_go (fun tz kz => XS.aload X2.here hx rfl (hb hby at_122) rfl rfl kz) ?_
        show own_Go p.tables e below _ T2 (mkF m 124 #[.val (.int p1), .val (.int p2), .val (.int p3), .val (.int p4), .val (.int (Int32.ofNat n)), .val (.int nl), .val (.int (own_ch p2)), .val (.int (own_ch p3)), .val (.int (own_ch p4)), .val (.ref b), .unset, .unset] [(.ref b), (.ref o), (.ref o)])
        have Oo := On.ext E2
        obtain ⟨_, _, ⟨T3, L3, k3, n3⟩, -, X3, ⟨Lc3, hQ3, l3, y3, z3⟩, st3⟩ := X2.specialBack hx (y := (⟨"java/lang/String", "<init>", "([C)V"⟩ : MethodName)) rfl hown (mvT hZ (hw _ (List.mem_of_getElem? (i := 4) rfl))) (mvT hZ (hw _ (List.mem_of_getElem? (i := 5) rfl))) (mvT hZ (hw _ (List.mem_of_getElem? (i := 6) rfl))) (by decide) (backOf (W := 1) (rm1p l Z a0 hw [] o b n (own_c3 p2 p3 p4) cs _ _ h2 n0 (Nat.le_trans Zs1 E2.1) SC hcs AD HB LB Oo A2 F_coder_o F_value_o (Vb.ext E2) hn hn0 g_o) hZ (hw _ (List.mem_of_getElem? (i := 6) rfl)) (hw _ (List.mem_of_getElem? (i := 3) rfl)) (by decide) (by decide)) (g := (mkF m 124 #[.val (.int p1), .val (.int p2), .val (.int p3), .val (.int p4), .val (.int (Int32.ofNat n)), .val (.int nl), .val (.int (own_ch p2)), .val (.int (own_ch p3)), .val (.int (own_ch p4)), .val (.ref b), .unset, .unset] [(.ref b), (.ref o), (.ref o)])) rfl (by rw [hml]; rfl) (Steps.refl _) (a := o) (argsL := [(.ref b)]) (rest := [(.ref o)]) (lenOf pd_16 rfl) rfl (by show 2 * 0 + _ ≤ _; exact Nat.le_of_eq rfl) (hb hby at_124) (fun _ _ => ⟨rfl, e2, (by decide : 2 + 2 ≤ _), (by decide : 7 + 9 ≤ _)⟩)
        dsimp only [Pt.U, Pt.locs, Pt.cells, Pt.slots] at X3 l3 y3 z3 st3 hQ3
        subst l3 y3 z3
        obtain ⟨N3q, rfl, K3, Ex', va, mm, cd, Fc', Fv', B'⟩ := hQ3
        have N3 := Fr.app N1 N3q
        refine own_go (fun tz kz => st3.trans kz) ?_
        show own_Go p.tables e below _ T3 (mkF m 127 #[.val (.int p1), .val (.int p2), .val (.int p3), .val (.int p4), .val (.int (Int32.ofNat n)), .val (.int nl), .val (.int (own_ch p2)), .val (.int (own_ch p3)), .val (.int (own_ch p4)), .val (.ref b), .unset, .unset] [(.ref o)])
        have Op := Oo.keep K3 (fun x hx => by cases List.mem_singleton.mp hx; exact g_o)
        refine own_go (fun tz kz => XS.astore X3.here hx rfl (hb hby at_127) rfl rfl (l' := #[.val (.int p1), .val (.int p2), .val (.int p3), .val (.int p4), .val (.int (Int32.ofNat n)), .val (.int nl), .val (.int (own_ch p2)), .val (.int (own_ch p3)), .val (.int (own_ch p4)), .val (.ref b), .val (.ref o), .unset]) rfl kz) ?_
        show own_Go p.tables e below _ T3 (mkF m 129 #[.val (.int p1), .val (.int p2), .val (.int p3), .val (.int p4), .val (.int (Int32.ofNat n)), .val (.int nl), .val (.int (own_ch p2)), .val (.int (own_ch p3)), .val (.int (own_ch p4)), .val (.ref b), .val (.ref o), .unset] [])
        refine own_go (fun tz kz => XS.iload X3.here hx rfl (hb hby at_129) rfl kz) ?_
        show own_Go p.tables e below _ T3 (mkF m 131 #[.val (.int p1), .val (.int p2), .val (.int p3), .val (.int p4), .val (.int (Int32.ofNat n)), .val (.int nl), .val (.int (own_ch p2)), .val (.int (own_ch p3)), .val (.int (own_ch p4)), .val (.ref b), .val (.ref o), .unset] [(.int nl)])
        refine own_go (fun tz kz => XS.ifNo X3.here hx rfl (hb hby at_131) rfl (XT.i0_ne_f h0') kz) ?_
        show own_Go p.tables e below _ T3 (mkF m 134 #[.val (.int p1), .val (.int p2), .val (.int p3), .val (.int p4), .val (.int (Int32.ofNat n)), .val (.int nl), .val (.int (own_ch p2)), .val (.int (own_ch p3)), .val (.int (own_ch p4)), .val (.ref b), .val (.ref o), .unset] [])
        refine own_go (fun tz kz => XS.iload X3.here hx rfl (hb hby at_134) rfl kz) ?_
        show own_Go p.tables e below _ T3 (mkF m 136 #[.val (.int p1), .val (.int p2), .val (.int p3), .val (.int p4), .val (.int (Int32.ofNat n)), .val (.int nl), .val (.int (own_ch p2)), .val (.int (own_ch p3)), .val (.int (own_ch p4)), .val (.ref b), .val (.ref o), .unset] [(.int (Int32.ofNat n))])
        refine own_go (fun tz kz => XS.iconst X3.here hx rfl (hb hby at_136) kz) ?_
        show own_Go p.tables e below _ T3 (mkF m 137 #[.val (.int p1), .val (.int p2), .val (.int p3), .val (.int p4), .val (.int (Int32.ofNat n)), .val (.int nl), .val (.int (own_ch p2)), .val (.int (own_ch p3)), .val (.int (own_ch p4)), .val (.ref b), .val (.ref o), .unset] [(.int (2 : Int32)), (.int (Int32.ofNat n))])
        by_cases h2 : (Int32.ofNat n) = (2 : Int32)
        ·
          refine own_go (fun tz kz => XS.icmpNo X3.here hx rfl (hb hby at_137) rfl (XT.ii_ne_f h2) kz) ?_
          show own_Go p.tables e below _ T3 (mkF m 140 #[.val (.int p1), .val (.int p2), .val (.int p3), .val (.int p4), .val (.int (Int32.ofNat n)), .val (.int nl), .val (.int (own_ch p2)), .val (.int (own_ch p3)), .val (.int (own_ch p4)), .val (.ref b), .val (.ref o), .unset] [])
          refine own_go (fun tz kz => XS.iload X3.here hx rfl (hb hby at_140) rfl kz) ?_
          show own_Go p.tables e below _ T3 (mkF m 142 #[.val (.int p1), .val (.int p2), .val (.int p3), .val (.int p4), .val (.int (Int32.ofNat n)), .val (.int nl), .val (.int (own_ch p2)), .val (.int (own_ch p3)), .val (.int (own_ch p4)), .val (.ref b), .val (.ref o), .unset] [(.int (own_ch p2))])
          obtain ⟨_, _, ⟨T4, L4, k4, n4⟩, -, X4, ⟨Lc4, hQ4, l4, y4, z4⟩, st4⟩ := Jvm.LawKit.callS X3 hx (y := (⟨"com/example/scriptwire/scriptwire/script/PdmpStateIsCodePinLaw", "upper", "(C)Z"⟩ : MethodName)) hown (mvT hZ (hw _ (List.mem_of_getElem? (i := 66) rfl))) (mvT hZ (hw _ (List.mem_of_getElem? (i := 67) rfl))) (mvT hZ (hw _ (List.mem_of_getElem? (i := 68) rfl))) (mvT hZ (hw _ (List.mem_of_getElem? (i := 69) rfl))) (by decide) (backOf (W := 0) (rm15 l Z a0 hw [] (own_ch p2) T3.heap n0 (Nat.le_trans (Nat.le_trans Zs1 E2.1) K3.1)) hZ (hw _ (List.mem_of_getElem? (i := 69) rfl)) (hw _ (List.mem_of_getElem? (i := 68) rfl)) (by decide) (by decide)) (g := (mkF m 142 #[.val (.int p1), .val (.int p2), .val (.int p3), .val (.int p4), .val (.int (Int32.ofNat n)), .val (.int nl), .val (.int (own_ch p2)), .val (.int (own_ch p3)), .val (.int (own_ch p4)), .val (.ref b), .val (.ref o), .unset] [(.int (own_ch p2))])) rfl (by rw [hml]; rfl) (argsL := [(.int (own_ch p2))]) (rest := []) (lenOf pd_17 rfl) rfl (by show 2 * 0 + _ ≤ _; exact Nat.le_of_eq rfl) (hb hby at_142) (fun _ _ => ⟨rfl, rfl, (by decide : 4 + 0 ≤ _), (by decide : 16 + 0 ≤ _)⟩)
          dsimp only [Pt.U, Pt.locs, Pt.cells, Pt.slots] at X4 l4 y4 z4 st4 hQ4
          subst l4 y4 z4
          obtain ⟨rfl, N4q, e4⟩ := hQ4
          have N4 := Fr.app N3 N4q
          refine own_go (fun tz kz => st4 tz kz) ?_
          show own_Go p.tables e below _ T4 (mkF m 145 #[.val (.int p1), .val (.int p2), .val (.int p3), .val (.int p4), .val (.int (Int32.ofNat n)), .val (.int nl), .val (.int (own_ch p2)), .val (.int (own_ch p3)), .val (.int (own_ch p4)), .val (.ref b), .val (.ref o), .unset] [(.int (own_up1 (own_ch p2)))])
          by_cases hu0 : (own_up1 (own_ch p2)) = (0 : Int32)
          ·
            refine own_go (fun tz kz => XS.ifYes X4.here hx rfl (pc0 := 145) (pc' := 160) rfl (hb hby at_145) rfl (XT.i0_eq_t hu0) (by decide) (by decide) kz) ?_
            show own_Go p.tables e below _ T4 (mkF m 160 #[.val (.int p1), .val (.int p2), .val (.int p3), .val (.int p4), .val (.int (Int32.ofNat n)), .val (.int nl), .val (.int (own_ch p2)), .val (.int (own_ch p3)), .val (.int (own_ch p4)), .val (.ref b), .val (.ref o), .unset] [])
            refine own_go (fun tz kz => XS.iconst X4.here hx rfl (hb hby at_160) kz) ?_
            show own_Go p.tables e below _ T4 (mkF m 161 #[.val (.int p1), .val (.int p2), .val (.int p3), .val (.int p4), .val (.int (Int32.ofNat n)), .val (.int nl), .val (.int (own_ch p2)), .val (.int (own_ch p3)), .val (.int (own_ch p4)), .val (.ref b), .val (.ref o), .unset] [(.int (0 : Int32))])
            refine own_go (fun tz kz => XS.istore X4.here hx rfl (hb hby at_161) rfl (l' := #[.val (.int p1), .val (.int p2), .val (.int p3), .val (.int p4), .val (.int (Int32.ofNat n)), .val (.int nl), .val (.int (own_ch p2)), .val (.int (own_ch p3)), .val (.int (own_ch p4)), .val (.ref b), .val (.ref o), .val (.int (0 : Int32))]) rfl kz) ?_
            show own_Go p.tables e below _ T4 (mkF m 163 #[.val (.int p1), .val (.int p2), .val (.int p3), .val (.int p4), .val (.int (Int32.ofNat n)), .val (.int nl), .val (.int (own_ch p2)), .val (.int (own_ch p3)), .val (.int (own_ch p4)), .val (.ref b), .val (.ref o), .val (.int (0 : Int32))] [])
            refine own_go (fun tz kz => XS.aload X4.here hx rfl (hb hby at_163) rfl rfl kz) ?_
            show own_Go p.tables e below _ T4 (mkF m 165 #[.val (.int p1), .val (.int p2), .val (.int p3), .val (.int p4), .val (.int (Int32.ofNat n)), .val (.int nl), .val (.int (own_ch p2)), .val (.int (own_ch p3)), .val (.int (own_ch p4)), .val (.ref b), .val (.ref o), .val (.int (0 : Int32))] [(.ref o)])
            obtain ⟨_, _, ⟨T5, L5, k5, n5⟩, -, X5, ⟨Lc5, hQ5, l5, y5, z5⟩, st5⟩ := Jvm.LawKit.callS X4 hx (y := (⟨"com/example/scriptwire/scriptwire/script/PdmpState", "isCode", "(Ljava/lang/String;)Z"⟩ : MethodName)) hown (mvT hZ (hw _ (List.mem_of_getElem? (i := 22) rfl))) (mvT hZ (hw _ (List.mem_of_getElem? (i := 23) rfl))) (mvT hZ (hw _ (List.mem_of_getElem? (i := 24) rfl))) (mvT hZ (hw _ (List.mem_of_getElem? (i := 25) rfl))) (by decide) (backOf (W := 0) (rm4s l Z a0 hw [] o va n (own_c3 p2 p3 p4) mm cd cs sf T3.heap n0 (Nat.le_trans (Nat.le_trans Zs1 E2.1) K3.1) (SC.ext Op.2) hcs Ex' Fc' Fv' B' hn (SF.ext Op.2) hsf (AD.ext Op.2) (HB.ext Op.2) (LB.ext Op.2)) hZ (hw _ (List.mem_of_getElem? (i := 25) rfl)) (hw _ (List.mem_of_getElem? (i := 24) rfl)) (by decide) (by decide)) (g := (mkF m 165 #[.val (.int p1), .val (.int p2), .val (.int p3), .val (.int p4), .val (.int (Int32.ofNat n)), .val (.int nl), .val (.int (own_ch p2)), .val (.int (own_ch p3)), .val (.int (own_ch p4)), .val (.ref b), .val (.ref o), .val (.int (0 : Int32))] [(.ref o)])) rfl (by rw [hml]; rfl) (argsL := [(.ref o)]) (rest := []) (lenOf pd_18 rfl) rfl (by show 2 * 0 + _ ≤ _; exact Nat.le_of_eq rfl) (hb hby at_165) (fun _ _ => ⟨rfl, e4, (by decide : 4 + 0 ≤ _), (by decide : 16 + 0 ≤ _)⟩)
            dsimp only [Pt.U, Pt.locs, Pt.cells, Pt.slots] at X5 l5 y5 z5 st5 hQ5
            subst l5 y5 z5
            obtain ⟨rfl, N5q, e5⟩ := hQ5
            have N5 := Fr.app N4 N5q
            refine own_go (fun tz kz => st5 tz kz) ?_
            show own_Go p.tables e below _ T5 (mkF m 168 #[.val (.int p1), .val (.int p2), .val (.int p3), .val (.int p4), .val (.int (Int32.ofNat n)), .val (.int nl), .val (.int (own_ch p2)), .val (.int (own_ch p3)), .val (.int (own_ch p4)), .val (.ref b), .val (.ref o), .val (.int (0 : Int32))] [(.int (own_ic n (fun k => own_ch ((own_c3 p2 p3 p4) k))))])
            refine own_go (fun tz kz => XS.iload X5.here hx rfl (hb hby at_168) rfl kz) ?_
            show own_Go p.tables e below _ T5 (mkF m 170 #[.val (.int p1), .val (.int p2), .val (.int p3), .val (.int p4), .val (.int (Int32.ofNat n)), .val (.int nl), .val (.int (own_ch p2)), .val (.int (own_ch p3)), .val (.int (own_ch p4)), .val (.ref b), .val (.ref o), .val (.int (0 : Int32))] [(.int (0 : Int32)), (.int (own_ic n (fun k => own_ch ((own_c3 p2 p3 p4) k))))])
            refine own_go (fun tz kz => XS.icmpNo X5.here hx rfl (hb hby at_170) rfl (XT.ii_ne_f ((if_pos h2).trans (if_pos hu0))) kz) ?_
            show own_Go p.tables e below _ T5 (mkF m 173 #[.val (.int p1), .val (.int p2), .val (.int p3), .val (.int p4), .val (.int (Int32.ofNat n)), .val (.int nl), .val (.int (own_ch p2)), .val (.int (own_ch p3)), .val (.int (own_ch p4)), .val (.ref b), .val (.ref o), .val (.int (0 : Int32))] [])
            refine own_go (fun tz kz => XS.iconst X5.here hx rfl (hb hby at_173) kz) ?_
            show own_Go p.tables e below _ T5 (mkF m 174 #[.val (.int p1), .val (.int p2), .val (.int p3), .val (.int p4), .val (.int (Int32.ofNat n)), .val (.int nl), .val (.int (own_ch p2)), .val (.int (own_ch p3)), .val (.int (own_ch p4)), .val (.ref b), .val (.ref o), .val (.int (0 : Int32))] [(.int (1 : Int32))])
            refine own_go (fun tz kz => XS.goto X5.here hx rfl (pc0 := 174) (pc' := 178) rfl (hb hby at_174) (by decide) (by decide) kz) ?_
            show own_Go p.tables e below _ T5 (mkF m 178 #[.val (.int p1), .val (.int p2), .val (.int p3), .val (.int p4), .val (.int (Int32.ofNat n)), .val (.int nl), .val (.int (own_ch p2)), .val (.int (own_ch p3)), .val (.int (own_ch p4)), .val (.ref b), .val (.ref o), .val (.int (0 : Int32))] [(.int (1 : Int32))])
            obtain ⟨fs, hr, hrun, hended, hWW⟩ := Jvm.Stand.leaveW (s := s) (vm₁ := s.vm) X5 hS0 (by rw [show T5.heap = T3.heap from e5]; exact (Nat.zero_le _)) (v := some (.int (1 : Int32))) (fun h => by rw [Bd.returns] at h; cases h) (BodyLoose.notSynchronized Bd)
            refine ⟨_, _, ?_, hrun, hended, _, _, rfl, ?_, hWW.1, hWW.2.1, hWW.2.2.1, hWW.2.2.2.mono (by decide) (by decide)⟩
            · exact retN X5 hx (t := .boolean) Bd.returns (by simp) (hb hby at_178) hr
            · show Q0 Z p1 p2 p3 p4 cs sf h0 n0 _ T5.heap _
              rw [e5]
              exact ⟨rfl, N5⟩
          ·
            refine own_go (fun tz kz => XS.ifNo X4.here hx rfl (hb hby at_145) rfl (XT.i0_eq_f hu0) kz) ?_
            show own_Go p.tables e below _ T4 (mkF m 148 #[.val (.int p1), .val (.int p2), .val (.int p3), .val (.int p4), .val (.int (Int32.ofNat n)), .val (.int nl), .val (.int (own_ch p2)), .val (.int (own_ch p3)), .val (.int (own_ch p4)), .val (.ref b), .val (.ref o), .unset] [])
            refine own_go (fun tz kz => XS.iload X4.here hx rfl (hb hby at_148) rfl kz) ?_
            show own_Go p.tables e below _ T4 (mkF m 150 #[.val (.int p1), .val (.int p2), .val (.int p3), .val (.int p4), .val (.int (Int32.ofNat n)), .val (.int nl), .val (.int (own_ch p2)), .val (.int (own_ch p3)), .val (.int (own_ch p4)), .val (.ref b), .val (.ref o), .unset] [(.int (own_ch p3))])
            obtain ⟨_, _, ⟨T6, L6, k6, n6⟩, -, X6, ⟨Lc6, hQ6, l6, y6, z6⟩, st6⟩ := Jvm.LawKit.callS X4 hx (y := (⟨"com/example/scriptwire/scriptwire/script/PdmpStateIsCodePinLaw", "upper", "(C)Z"⟩ : MethodName)) hown (mvT hZ (hw _ (List.mem_of_getElem? (i := 66) rfl))) (mvT hZ (hw _ (List.mem_of_getElem? (i := 67) rfl))) (mvT hZ (hw _ (List.mem_of_getElem? (i := 68) rfl))) (mvT hZ (hw _ (List.mem_of_getElem? (i := 69) rfl))) (by decide) (backOf (W := 0) (rm15 l Z a0 hw [] (own_ch p3) T3.heap n0 (Nat.le_trans (Nat.le_trans Zs1 E2.1) K3.1)) hZ (hw _ (List.mem_of_getElem? (i := 69) rfl)) (hw _ (List.mem_of_getElem? (i := 68) rfl)) (by decide) (by decide)) (g := (mkF m 150 #[.val (.int p1), .val (.int p2), .val (.int p3), .val (.int p4), .val (.int (Int32.ofNat n)), .val (.int nl), .val (.int (own_ch p2)), .val (.int (own_ch p3)), .val (.int (own_ch p4)), .val (.ref b), .val (.ref o), .unset] [(.int (own_ch p3))])) rfl (by rw [hml]; rfl) (argsL := [(.int (own_ch p3))]) (rest := []) (lenOf pd_17 rfl) rfl (by show 2 * 0 + _ ≤ _; exact Nat.le_of_eq rfl) (hb hby at_150) (fun _ _ => ⟨rfl, e4, (by decide : 4 + 0 ≤ _), (by decide : 16 + 0 ≤ _)⟩)
            dsimp only [Pt.U, Pt.locs, Pt.cells, Pt.slots] at X6 l6 y6 z6 st6 hQ6
            subst l6 y6 z6
            obtain ⟨rfl, N6q, e6⟩ := hQ6
            have N6 := Fr.app N4 N6q
            refine own_go (fun tz kz => st6 tz kz) ?_
            show own_Go p.tables e below _ T6 (mkF m 153 #[.val (.int p1), .val (.int p2), .val (.int p3), .val (.int p4), .val (.int (Int32.ofNat n)), .val (.int nl), .val (.int (own_ch p2)), .val (.int (own_ch p3)), .val (.int (own_ch p4)), .val (.ref b), .val (.ref o), .unset] [(.int (own_up1 (own_ch p3)))])
            by_cases hu1 : (own_up1 (own_ch p3)) = (0 : Int32)
            ·
              refine own_go (fun tz kz => XS.ifYes X6.here hx rfl (pc0 := 153) (pc' := 160) rfl (hb hby at_153) rfl (XT.i0_eq_t hu1) (by decide) (by decide) kz) ?_
              show own_Go p.tables e below _ T6 (mkF m 160 #[.val (.int p1), .val (.int p2), .val (.int p3), .val (.int p4), .val (.int (Int32.ofNat n)), .val (.int nl), .val (.int (own_ch p2)), .val (.int (own_ch p3)), .val (.int (own_ch p4)), .val (.ref b), .val (.ref o), .unset] [])
              refine own_go (fun tz kz => XS.iconst X6.here hx rfl (hb hby at_160) kz) ?_
              show own_Go p.tables e below _ T6 (mkF m 161 #[.val (.int p1), .val (.int p2), .val (.int p3), .val (.int p4), .val (.int (Int32.ofNat n)), .val (.int nl), .val (.int (own_ch p2)), .val (.int (own_ch p3)), .val (.int (own_ch p4)), .val (.ref b), .val (.ref o), .unset] [(.int (0 : Int32))])
              refine own_go (fun tz kz => XS.istore X6.here hx rfl (hb hby at_161) rfl (l' := #[.val (.int p1), .val (.int p2), .val (.int p3), .val (.int p4), .val (.int (Int32.ofNat n)), .val (.int nl), .val (.int (own_ch p2)), .val (.int (own_ch p3)), .val (.int (own_ch p4)), .val (.ref b), .val (.ref o), .val (.int (0 : Int32))]) rfl kz) ?_
              show own_Go p.tables e below _ T6 (mkF m 163 #[.val (.int p1), .val (.int p2), .val (.int p3), .val (.int p4), .val (.int (Int32.ofNat n)), .val (.int nl), .val (.int (own_ch p2)), .val (.int (own_ch p3)), .val (.int (own_ch p4)), .val (.ref b), .val (.ref o), .val (.int (0 : Int32))] [])
              refine own_go (fun tz kz => XS.aload X6.here hx rfl (hb hby at_163) rfl rfl kz) ?_
              show own_Go p.tables e below _ T6 (mkF m 165 #[.val (.int p1), .val (.int p2), .val (.int p3), .val (.int p4), .val (.int (Int32.ofNat n)), .val (.int nl), .val (.int (own_ch p2)), .val (.int (own_ch p3)), .val (.int (own_ch p4)), .val (.ref b), .val (.ref o), .val (.int (0 : Int32))] [(.ref o)])
              obtain ⟨_, _, ⟨T7, L7, k7, n7⟩, -, X7, ⟨Lc7, hQ7, l7, y7, z7⟩, st7⟩ := Jvm.LawKit.callS X6 hx (y := (⟨"com/example/scriptwire/scriptwire/script/PdmpState", "isCode", "(Ljava/lang/String;)Z"⟩ : MethodName)) hown (mvT hZ (hw _ (List.mem_of_getElem? (i := 22) rfl))) (mvT hZ (hw _ (List.mem_of_getElem? (i := 23) rfl))) (mvT hZ (hw _ (List.mem_of_getElem? (i := 24) rfl))) (mvT hZ (hw _ (List.mem_of_getElem? (i := 25) rfl))) (by decide) (backOf (W := 0) (rm4s l Z a0 hw [] o va n (own_c3 p2 p3 p4) mm cd cs sf T3.heap n0 (Nat.le_trans (Nat.le_trans Zs1 E2.1) K3.1) (SC.ext Op.2) hcs Ex' Fc' Fv' B' hn (SF.ext Op.2) hsf (AD.ext Op.2) (HB.ext Op.2) (LB.ext Op.2)) hZ (hw _ (List.mem_of_getElem? (i := 25) rfl)) (hw _ (List.mem_of_getElem? (i := 24) rfl)) (by decide) (by decide)) (g := (mkF m 165 #[.val (.int p1), .val (.int p2), .val (.int p3), .val (.int p4), .val (.int (Int32.ofNat n)), .val (.int nl), .val (.int (own_ch p2)), .val (.int (own_ch p3)), .val (.int (own_ch p4)), .val (.ref b), .val (.ref o), .val (.int (0 : Int32))] [(.ref o)])) rfl (by rw [hml]; rfl) (argsL := [(.ref o)]) (rest := []) (lenOf pd_18 rfl) rfl (by show 2 * 0 + _ ≤ _; exact Nat.le_of_eq rfl) (hb hby at_165) (fun _ _ => ⟨rfl, e6, (by decide : 4 + 0 ≤ _), (by decide : 16 + 0 ≤ _)⟩)
              dsimp only [Pt.U, Pt.locs, Pt.cells, Pt.slots] at X7 l7 y7 z7 st7 hQ7
              subst l7 y7 z7
              obtain ⟨rfl, N7q, e7⟩ := hQ7
              have N7 := Fr.app N6 N7q
              refine own_go (fun tz kz => st7 tz kz) ?_
              show own_Go p.tables e below _ T7 (mkF m 168 #[.val (.int p1), .val (.int p2), .val (.int p3), .val (.int p4), .val (.int (Int32.ofNat n)), .val (.int nl), .val (.int (own_ch p2)), .val (.int (own_ch p3)), .val (.int (own_ch p4)), .val (.ref b), .val (.ref o), .val (.int (0 : Int32))] [(.int (own_ic n (fun k => own_ch ((own_c3 p2 p3 p4) k))))])
              refine own_go (fun tz kz => XS.iload X7.here hx rfl (hb hby at_168) rfl kz) ?_
              show own_Go p.tables e below _ T7 (mkF m 170 #[.val (.int p1), .val (.int p2), .val (.int p3), .val (.int p4), .val (.int (Int32.ofNat n)), .val (.int nl), .val (.int (own_ch p2)), .val (.int (own_ch p3)), .val (.int (own_ch p4)), .val (.ref b), .val (.ref o), .val (.int (0 : Int32))] [(.int (0 : Int32)), (.int (own_ic n (fun k => own_ch ((own_c3 p2 p3 p4) k))))])
              refine own_go (fun tz kz => XS.icmpNo X7.here hx rfl (hb hby at_170) rfl (XT.ii_ne_f ((if_pos h2).trans ((if_neg hu0).trans (if_pos hu1)))) kz) ?_
              show own_Go p.tables e below _ T7 (mkF m 173 #[.val (.int p1), .val (.int p2), .val (.int p3), .val (.int p4), .val (.int (Int32.ofNat n)), .val (.int nl), .val (.int (own_ch p2)), .val (.int (own_ch p3)), .val (.int (own_ch p4)), .val (.ref b), .val (.ref o), .val (.int (0 : Int32))] [])
              refine own_go (fun tz kz => XS.iconst X7.here hx rfl (hb hby at_173) kz) ?_
              show own_Go p.tables e below _ T7 (mkF m 174 #[.val (.int p1), .val (.int p2), .val (.int p3), .val (.int p4), .val (.int (Int32.ofNat n)), .val (.int nl), .val (.int (own_ch p2)), .val (.int (own_ch p3)), .val (.int (own_ch p4)), .val (.ref b), .val (.ref o), .val (.int (0 : Int32))] [(.int (1 : Int32))])
              refine own_go (fun tz kz => XS.goto X7.here hx rfl (pc0 := 174) (pc' := 178) rfl (hb hby at_174) (by decide) (by decide) kz) ?_
              show own_Go p.tables e below _ T7 (mkF m 178 #[.val (.int p1), .val (.int p2), .val (.int p3), .val (.int p4), .val (.int (Int32.ofNat n)), .val (.int nl), .val (.int (own_ch p2)), .val (.int (own_ch p3)), .val (.int (own_ch p4)), .val (.ref b), .val (.ref o), .val (.int (0 : Int32))] [(.int (1 : Int32))])
              obtain ⟨fs, hr, hrun, hended, hWW⟩ := Jvm.Stand.leaveW (s := s) (vm₁ := s.vm) X7 hS0 (by rw [show T7.heap = T3.heap from e7]; exact (Nat.zero_le _)) (v := some (.int (1 : Int32))) (fun h => by rw [Bd.returns] at h; cases h) (BodyLoose.notSynchronized Bd)
              refine ⟨_, _, ?_, hrun, hended, _, _, rfl, ?_, hWW.1, hWW.2.1, hWW.2.2.1, hWW.2.2.2.mono (by decide) (by decide)⟩
              · exact retN X7 hx (t := .boolean) Bd.returns (by simp) (hb hby at_178) hr
              · show Q0 Z p1 p2 p3 p4 cs sf h0 n0 _ T7.heap _
                rw [e7]
                exact ⟨rfl, N7⟩
            ·
              refine own_go (fun tz kz => XS.ifNo X6.here hx rfl (hb hby at_153) rfl (XT.i0_eq_f hu1) kz) ?_
              show own_Go p.tables e below _ T6 (mkF m 156 #[.val (.int p1), .val (.int p2), .val (.int p3), .val (.int p4), .val (.int (Int32.ofNat n)), .val (.int nl), .val (.int (own_ch p2)), .val (.int (own_ch p3)), .val (.int (own_ch p4)), .val (.ref b), .val (.ref o), .unset] [])
              refine own_go (fun tz kz => XS.iconst X6.here hx rfl (hb hby at_156) kz) ?_
              show own_Go p.tables e below _ T6 (mkF m 157 #[.val (.int p1), .val (.int p2), .val (.int p3), .val (.int p4), .val (.int (Int32.ofNat n)), .val (.int nl), .val (.int (own_ch p2)), .val (.int (own_ch p3)), .val (.int (own_ch p4)), .val (.ref b), .val (.ref o), .unset] [(.int (1 : Int32))])
              refine own_go (fun tz kz => XS.goto X6.here hx rfl (pc0 := 157) (pc' := 161) rfl (hb hby at_157) (by decide) (by decide) kz) ?_
              show own_Go p.tables e below _ T6 (mkF m 161 #[.val (.int p1), .val (.int p2), .val (.int p3), .val (.int p4), .val (.int (Int32.ofNat n)), .val (.int nl), .val (.int (own_ch p2)), .val (.int (own_ch p3)), .val (.int (own_ch p4)), .val (.ref b), .val (.ref o), .unset] [(.int (1 : Int32))])
              refine own_go (fun tz kz => XS.istore X6.here hx rfl (hb hby at_161) rfl (l' := #[.val (.int p1), .val (.int p2), .val (.int p3), .val (.int p4), .val (.int (Int32.ofNat n)), .val (.int nl), .val (.int (own_ch p2)), .val (.int (own_ch p3)), .val (.int (own_ch p4)), .val (.ref b), .val (.ref o), .val (.int (1 : Int32))]) rfl kz) ?_
              show own_Go p.tables e below _ T6 (mkF m 163 #[.val (.int p1), .val (.int p2), .val (.int p3), .val (.int p4), .val (.int (Int32.ofNat n)), .val (.int nl), .val (.int (own_ch p2)), .val (.int (own_ch p3)), .val (.int (own_ch p4)), .val (.ref b), .val (.ref o), .val (.int (1 : Int32))] [])
              refine own_go (fun tz kz => XS.aload X6.here hx rfl (hb hby at_163) rfl rfl kz) ?_
              show own_Go p.tables e below _ T6 (mkF m 165 #[.val (.int p1), .val (.int p2), .val (.int p3), .val (.int p4), .val (.int (Int32.ofNat n)), .val (.int nl), .val (.int (own_ch p2)), .val (.int (own_ch p3)), .val (.int (own_ch p4)), .val (.ref b), .val (.ref o), .val (.int (1 : Int32))] [(.ref o)])
              obtain ⟨_, _, ⟨T8, L8, k8, n8⟩, -, X8, ⟨Lc8, hQ8, l8, y8, z8⟩, st8⟩ := Jvm.LawKit.callS X6 hx (y := (⟨"com/example/scriptwire/scriptwire/script/PdmpState", "isCode", "(Ljava/lang/String;)Z"⟩ : MethodName)) hown (mvT hZ (hw _ (List.mem_of_getElem? (i := 22) rfl))) (mvT hZ (hw _ (List.mem_of_getElem? (i := 23) rfl))) (mvT hZ (hw _ (List.mem_of_getElem? (i := 24) rfl))) (mvT hZ (hw _ (List.mem_of_getElem? (i := 25) rfl))) (by decide) (backOf (W := 0) (rm4s l Z a0 hw [] o va n (own_c3 p2 p3 p4) mm cd cs sf T3.heap n0 (Nat.le_trans (Nat.le_trans Zs1 E2.1) K3.1) (SC.ext Op.2) hcs Ex' Fc' Fv' B' hn (SF.ext Op.2) hsf (AD.ext Op.2) (HB.ext Op.2) (LB.ext Op.2)) hZ (hw _ (List.mem_of_getElem? (i := 25) rfl)) (hw _ (List.mem_of_getElem? (i := 24) rfl)) (by decide) (by decide)) (g := (mkF m 165 #[.val (.int p1), .val (.int p2), .val (.int p3), .val (.int p4), .val (.int (Int32.ofNat n)), .val (.int nl), .val (.int (own_ch p2)), .val (.int (own_ch p3)), .val (.int (own_ch p4)), .val (.ref b), .val (.ref o), .val (.int (1 : Int32))] [(.ref o)])) rfl (by rw [hml]; rfl) (argsL := [(.ref o)]) (rest := []) (lenOf pd_18 rfl) rfl (by show 2 * 0 + _ ≤ _; exact Nat.le_of_eq rfl) (hb hby at_165) (fun _ _ => ⟨rfl, e6, (by decide : 4 + 0 ≤ _), (by decide : 16 + 0 ≤ _)⟩)
              dsimp only [Pt.U, Pt.locs, Pt.cells, Pt.slots] at X8 l8 y8 z8 st8 hQ8
              subst l8 y8 z8
              obtain ⟨rfl, N8q, e8⟩ := hQ8
              have N8 := Fr.app N6 N8q
              refine own_go (fun tz kz => st8 tz kz) ?_
              show own_Go p.tables e below _ T8 (mkF m 168 #[.val (.int p1), .val (.int p2), .val (.int p3), .val (.int p4), .val (.int (Int32.ofNat n)), .val (.int nl), .val (.int (own_ch p2)), .val (.int (own_ch p3)), .val (.int (own_ch p4)), .val (.ref b), .val (.ref o), .val (.int (1 : Int32))] [(.int (own_ic n (fun k => own_ch ((own_c3 p2 p3 p4) k))))])
              refine own_go (fun tz kz => XS.iload X8.here hx rfl (hb hby at_168) rfl kz) ?_
              show own_Go p.tables e below _ T8 (mkF m 170 #[.val (.int p1), .val (.int p2), .val (.int p3), .val (.int p4), .val (.int (Int32.ofNat n)), .val (.int nl), .val (.int (own_ch p2)), .val (.int (own_ch p3)), .val (.int (own_ch p4)), .val (.ref b), .val (.ref o), .val (.int (1 : Int32))] [(.int (1 : Int32)), (.int (own_ic n (fun k => own_ch ((own_c3 p2 p3 p4) k))))])
              refine own_go (fun tz kz => XS.icmpNo X8.here hx rfl (hb hby at_170) rfl (XT.ii_ne_f ((if_pos h2).trans ((if_neg hu0).trans (if_neg hu1)))) kz) ?_
              show own_Go p.tables e below _ T8 (mkF m 173 #[.val (.int p1), .val (.int p2), .val (.int p3), .val (.int p4), .val (.int (Int32.ofNat n)), .val (.int nl), .val (.int (own_ch p2)), .val (.int (own_ch p3)), .val (.int (own_ch p4)), .val (.ref b), .val (.ref o), .val (.int (1 : Int32))] [])
              refine own_go (fun tz kz => XS.iconst X8.here hx rfl (hb hby at_173) kz) ?_
              show own_Go p.tables e below _ T8 (mkF m 174 #[.val (.int p1), .val (.int p2), .val (.int p3), .val (.int p4), .val (.int (Int32.ofNat n)), .val (.int nl), .val (.int (own_ch p2)), .val (.int (own_ch p3)), .val (.int (own_ch p4)), .val (.ref b), .val (.ref o), .val (.int (1 : Int32))] [(.int (1 : Int32))])
              refine own_go (fun tz kz => XS.goto X8.here hx rfl (pc0 := 174) (pc' := 178) rfl (hb hby at_174) (by decide) (by decide) kz) ?_
              show own_Go p.tables e below _ T8 (mkF m 178 #[.val (.int p1), .val (.int p2), .val (.int p3), .val (.int p4), .val (.int (Int32.ofNat n)), .val (.int nl), .val (.int (own_ch p2)), .val (.int (own_ch p3)), .val (.int (own_ch p4)), .val (.ref b), .val (.ref o), .val (.int (1 : Int32))] [(.int (1 : Int32))])
              obtain ⟨fs, hr, hrun, hended, hWW⟩ := Jvm.Stand.leaveW (s := s) (vm₁ := s.vm) X8 hS0 (by rw [show T8.heap = T3.heap from e8]; exact (Nat.zero_le _)) (v := some (.int (1 : Int32))) (fun h => by rw [Bd.returns] at h; cases h) (BodyLoose.notSynchronized Bd)
              refine ⟨_, _, ?_, hrun, hended, _, _, rfl, ?_, hWW.1, hWW.2.1, hWW.2.2.1, hWW.2.2.2.mono (by decide) (by decide)⟩
              · exact retN X8 hx (t := .boolean) Bd.returns (by simp) (hb hby at_178) hr
              · show Q0 Z p1 p2 p3 p4 cs sf h0 n0 _ T8.heap _
                rw [e8]
                exact ⟨rfl, N8⟩
        ·
          refine own_go (fun tz kz => XS.icmpYes X3.here hx rfl (pc0 := 137) (pc' := 160) rfl (hb hby at_137) rfl (XT.ii_ne_t h2) (by decide) (by decide) kz) ?_
          show own_Go p.tables e below _ T3 (mkF m 160 #[.val (.int p1), .val (.int p2), .val (.int p3), .val (.int p4), .val (.int (Int32.ofNat n)), .val (.int nl), .val (.int (own_ch p2)), .val (.int (own_ch p3)), .val (.int (own_ch p4)), .val (.ref b), .val (.ref o), .unset] [])
          refine own_go (fun tz kz => XS.iconst X3.here hx rfl (hb hby at_160) kz) ?_
          show own_Go p.tables e below _ T3 (mkF m 161 #[.val (.int p1), .val (.int p2), .val (.int p3), .val (.int p4), .val (.int (Int32.ofNat n)), .val (.int nl), .val (.int (own_ch p2)), .val (.int (own_ch p3)), .val (.int (own_ch p4)), .val (.ref b), .val (.ref o), .unset] [(.int (0 : Int32))])
          refine own_go (fun tz kz => XS.istore X3.here hx rfl (hb hby at_161) rfl (l' := #[.val (.int p1), .val (.int p2), .val (.int p3), .val (.int p4), .val (.int (Int32.ofNat n)), .val (.int nl), .val (.int (own_ch p2)), .val (.int (own_ch p3)), .val (.int (own_ch p4)), .val (.ref b), .val (.ref o), .val (.int (0 : Int32))]) rfl kz) ?_
          show own_Go p.tables e below _ T3 (mkF m 163 #[.val (.int p1), .val (.int p2), .val (.int p3), .val (.int p4), .val (.int (Int32.ofNat n)), .val (.int nl), .val (.int (own_ch p2)), .val (.int (own_ch p3)), .val (.int (own_ch p4)), .val (.ref b), .val (.ref o), .val (.int (0 : Int32))] [])
          refine own_go (fun tz kz => XS.aload X3.here hx rfl (hb hby at_163) rfl rfl kz) ?_
          show own_Go p.tables e below _ T3 (mkF m 165 #[.val (.int p1), .val (.int p2), .val (.int p3), .val (.int p4), .val (.int (Int32.ofNat n)), .val (.int nl), .val (.int (own_ch p2)), .val (.int (own_ch p3)), .val (.int (own_ch p4)), .val (.ref b), .val (.ref o), .val (.int (0 : Int32))] [(.ref o)])
          obtain ⟨_, _, ⟨T9, L9, k9, n9⟩, -, X9, ⟨Lc9, hQ9, l9, y9, z9⟩, st9⟩ := Jvm.LawKit.callS X3 hx (y := (⟨"com/example/scriptwire/scriptwire/script/PdmpState", "isCode", "(Ljava/lang/String;)Z"⟩ : MethodName)) hown (mvT hZ (hw _ (List.mem_of_getElem? (i := 22) rfl))) (mvT hZ (hw _ (List.mem_of_getElem? (i := 23) rfl))) (mvT hZ (hw _ (List.mem_of_getElem? (i := 24) rfl))) (mvT hZ (hw _ (List.mem_of_getElem? (i := 25) rfl))) (by decide) (backOf (W := 0) (rm4s l Z a0 hw [] o va n (own_c3 p2 p3 p4) mm cd cs sf T3.heap n0 (Nat.le_trans (Nat.le_trans Zs1 E2.1) K3.1) (SC.ext Op.2) hcs Ex' Fc' Fv' B' hn (SF.ext Op.2) hsf (AD.ext Op.2) (HB.ext Op.2) (LB.ext Op.2)) hZ (hw _ (List.mem_of_getElem? (i := 25) rfl)) (hw _ (List.mem_of_getElem? (i := 24) rfl)) (by decide) (by decide)) (g := (mkF m 165 #[.val (.int p1), .val (.int p2), .val (.int p3), .val (.int p4), .val (.int (Int32.ofNat n)), .val (.int nl), .val (.int (own_ch p2)), .val (.int (own_ch p3)), .val (.int (own_ch p4)), .val (.ref b), .val (.ref o), .val (.int (0 : Int32))] [(.ref o)])) rfl (by rw [hml]; rfl) (argsL := [(.ref o)]) (rest := []) (lenOf pd_18 rfl) rfl (by show 2 * 0 + _ ≤ _; exact Nat.le_of_eq rfl) (hb hby at_165) (fun _ _ => ⟨rfl, rfl, (by decide : 4 + 0 ≤ _), (by decide : 16 + 0 ≤ _)⟩)
          dsimp only [Pt.U, Pt.locs, Pt.cells, Pt.slots] at X9 l9 y9 z9 st9 hQ9
          subst l9 y9 z9
          obtain ⟨rfl, N9q, e9⟩ := hQ9
          have N9 := Fr.app N3 N9q
          refine own_go (fun tz kz => st9 tz kz) ?_
          show own_Go p.tables e below _ T9 (mkF m 168 #[.val (.int p1), .val (.int p2), .val (.int p3), .val (.int p4), .val (.int (Int32.ofNat n)), .val (.int nl), .val (.int (own_ch p2)), .val (.int (own_ch p3)), .val (.int (own_ch p4)), .val (.ref b), .val (.ref o), .val (.int (0 : Int32))] [(.int (own_ic n (fun k => own_ch ((own_c3 p2 p3 p4) k))))])
          refine own_go (fun tz kz => XS.iload X9.here hx rfl (hb hby at_168) rfl kz) ?_
          show own_Go p.tables e below _ T9 (mkF m 170 #[.val (.int p1), .val (.int p2), .val (.int p3), .val (.int p4), .val (.int (Int32.ofNat n)), .val (.int nl), .val (.int (own_ch p2)), .val (.int (own_ch p3)), .val (.int (own_ch p4)), .val (.ref b), .val (.ref o), .val (.int (0 : Int32))] [(.int (0 : Int32)), (.int (own_ic n (fun k => own_ch ((own_c3 p2 p3 p4) k))))])
          refine own_go (fun tz kz => XS.icmpNo X9.here hx rfl (hb hby at_170) rfl (XT.ii_ne_f (if_neg h2)) kz) ?_
          show own_Go p.tables e below _ T9 (mkF m 173 #[.val (.int p1), .val (.int p2), .val (.int p3), .val (.int p4), .val (.int (Int32.ofNat n)), .val (.int nl), .val (.int (own_ch p2)), .val (.int (own_ch p3)), .val (.int (own_ch p4)), .val (.ref b), .val (.ref o), .val (.int (0 : Int32))] [])
          refine own_go (fun tz kz => XS.iconst X9.here hx rfl (hb hby at_173) kz) ?_
          show own_Go p.tables e below _ T9 (mkF m 174 #[.val (.int p1), .val (.int p2), .val (.int p3), .val (.int p4), .val (.int (Int32.ofNat n)), .val (.int nl), .val (.int (own_ch p2)), .val (.int (own_ch p3)), .val (.int (own_ch p4)), .val (.ref b), .val (.ref o), .val (.int (0 : Int32))] [(.int (1 : Int32))])
          refine own_go (fun tz kz => XS.goto X9.here hx rfl (pc0 := 174) (pc' := 178) rfl (hb hby at_174) (by decide) (by decide) kz) ?_
          show own_Go p.tables e below _ T9 (mkF m 178 #[.val (.int p1), .val (.int p2), .val (.int p3), .val (.int p4), .val (.int (Int32.ofNat n)), .val (.int nl), .val (.int (own_ch p2)), .val (.int (own_ch p3)), .val (.int (own_ch p4)), .val (.ref b), .val (.ref o), .val (.int (0 : Int32))] [(.int (1 : Int32))])
          obtain ⟨fs, hr, hrun, hended, hWW⟩ := Jvm.Stand.leaveW (s := s) (vm₁ := s.vm) X9 hS0 (by rw [show T9.heap = T3.heap from e9]; exact (Nat.zero_le _)) (v := some (.int (1 : Int32))) (fun h => by rw [Bd.returns] at h; cases h) (BodyLoose.notSynchronized Bd)
          refine ⟨_, _, ?_, hrun, hended, _, _, rfl, ?_, hWW.1, hWW.2.1, hWW.2.2.1, hWW.2.2.2.mono (by decide) (by decide)⟩
          · exact retN X9 hx (t := .boolean) Bd.returns (by simp) (hb hby at_178) hr
          · show Q0 Z p1 p2 p3 p4 cs sf h0 n0 _ T9.heap _
            rw [e9]
            exact ⟨rfl, N9⟩
      ·
        refine own_go (fun tz kz => XS.ifNo X1.here hx rfl (hb hby at_111) rfl (XT.i0_eq_f h0') kz) ?_
        show own_Go p.tables e below _ T1 (mkF m 114 #[.val (.int p1), .val (.int p2), .val (.int p3), .val (.int p4), .val (.int (Int32.ofNat n)), .val (.int nl), .val (.int (own_ch p2)), .val (.int (own_ch p3)), .val (.int (own_ch p4)), .val (.ref b), .unset, .unset] [])
        refine own_go (fun tz kz => XS.aconstNull X1.here hx rfl (hb hby at_114) kz) ?_
        show own_Go p.tables e below _ T1 (mkF m 115 #[.val (.int p1), .val (.int p2), .val (.int p3), .val (.int p4), .val (.int (Int32.ofNat n)), .val (.int nl), .val (.int (own_ch p2)), .val (.int (own_ch p3)), .val (.int (own_ch p4)), .val (.ref b), .unset, .unset] [.null])
        refine own_go (fun tz kz => XS.goto X1.here hx rfl (pc0 := 115) (pc' := 127) rfl (hb hby at_115) (by decide) (by decide) kz) ?_
        show own_Go p.tables e below _ T1 (mkF m 127 #[.val (.int p1), .val (.int p2), .val (.int p3), .val (.int p4), .val (.int (Int32.ofNat n)), .val (.int nl), .val (.int (own_ch p2)), .val (.int (own_ch p3)), .val (.int (own_ch p4)), .val (.ref b), .unset, .unset] [.null])
        refine own_go (fun tz kz => XS.astore X1.here hx rfl (hb hby at_127) rfl rfl (l' := #[.val (.int p1), .val (.int p2), .val (.int p3), .val (.int p4), .val (.int (Int32.ofNat n)), .val (.int nl), .val (.int (own_ch p2)), .val (.int (own_ch p3)), .val (.int (own_ch p4)), .val (.ref b), .val .null, .unset]) rfl kz) ?_
        show own_Go p.tables e below _ T1 (mkF m 129 #[.val (.int p1), .val (.int p2), .val (.int p3), .val (.int p4), .val (.int (Int32.ofNat n)), .val (.int nl), .val (.int (own_ch p2)), .val (.int (own_ch p3)), .val (.int (own_ch p4)), .val (.ref b), .val .null, .unset] [])
        refine own_go (fun tz kz => XS.iload X1.here hx rfl (hb hby at_129) rfl kz) ?_
        show own_Go p.tables e below _ T1 (mkF m 131 #[.val (.int p1), .val (.int p2), .val (.int p3), .val (.int p4), .val (.int (Int32.ofNat n)), .val (.int nl), .val (.int (own_ch p2)), .val (.int (own_ch p3)), .val (.int (own_ch p4)), .val (.ref b), .val .null, .unset] [(.int nl)])
        refine own_go (fun tz kz => XS.ifYes X1.here hx rfl (pc0 := 131) (pc' := 160) rfl (hb hby at_131) rfl (XT.i0_ne_t h0') (by decide) (by decide) kz) ?_
        show own_Go p.tables e below _ T1 (mkF m 160 #[.val (.int p1), .val (.int p2), .val (.int p3), .val (.int p4), .val (.int (Int32.ofNat n)), .val (.int nl), .val (.int (own_ch p2)), .val (.int (own_ch p3)), .val (.int (own_ch p4)), .val (.ref b), .val .null, .unset] [])
        refine own_go (fun tz kz => XS.iconst X1.here hx rfl (hb hby at_160) kz) ?_
        show own_Go p.tables e below _ T1 (mkF m 161 #[.val (.int p1), .val (.int p2), .val (.int p3), .val (.int p4), .val (.int (Int32.ofNat n)), .val (.int nl), .val (.int (own_ch p2)), .val (.int (own_ch p3)), .val (.int (own_ch p4)), .val (.ref b), .val .null, .unset] [(.int (0 : Int32))])
        refine own_go (fun tz kz => XS.istore X1.here hx rfl (hb hby at_161) rfl (l' := #[.val (.int p1), .val (.int p2), .val (.int p3), .val (.int p4), .val (.int (Int32.ofNat n)), .val (.int nl), .val (.int (own_ch p2)), .val (.int (own_ch p3)), .val (.int (own_ch p4)), .val (.ref b), .val .null, .val (.int (0 : Int32))]) rfl kz) ?_
        show own_Go p.tables e below _ T1 (mkF m 163 #[.val (.int p1), .val (.int p2), .val (.int p3), .val (.int p4), .val (.int (Int32.ofNat n)), .val (.int nl), .val (.int (own_ch p2)), .val (.int (own_ch p3)), .val (.int (own_ch p4)), .val (.ref b), .val .null, .val (.int (0 : Int32))] [])
        refine own_go (fun tz kz => XS.aload X1.here hx rfl (hb hby at_163) rfl rfl kz) ?_
        show own_Go p.tables e below _ T1 (mkF m 165 #[.val (.int p1), .val (.int p2), .val (.int p3), .val (.int p4), .val (.int (Int32.ofNat n)), .val (.int nl), .val (.int (own_ch p2)), .val (.int (own_ch p3)), .val (.int (own_ch p4)), .val (.ref b), .val .null, .val (.int (0 : Int32))] [.null])
        obtain ⟨_, _, ⟨T10, L10, k10, n10⟩, -, X10, ⟨Lc10, hQ10, l10, y10, z10⟩, st10⟩ := Jvm.LawKit.callS X1 hx (y := (⟨"com/example/scriptwire/scriptwire/script/PdmpState", "isCode", "(Ljava/lang/String;)Z"⟩ : MethodName)) hown (mvT hZ (hw _ (List.mem_of_getElem? (i := 22) rfl))) (mvT hZ (hw _ (List.mem_of_getElem? (i := 23) rfl))) (mvT hZ (hw _ (List.mem_of_getElem? (i := 24) rfl))) (mvT hZ (hw _ (List.mem_of_getElem? (i := 25) rfl))) (by decide) (backOf (W := 0) (rm4n l Z a0 hw [] h1 n0 Zs1) hZ (hw _ (List.mem_of_getElem? (i := 25) rfl)) (hw _ (List.mem_of_getElem? (i := 24) rfl)) (by decide) (by decide)) (g := (mkF m 165 #[.val (.int p1), .val (.int p2), .val (.int p3), .val (.int p4), .val (.int (Int32.ofNat n)), .val (.int nl), .val (.int (own_ch p2)), .val (.int (own_ch p3)), .val (.int (own_ch p4)), .val (.ref b), .val .null, .val (.int (0 : Int32))] [.null])) rfl (by rw [hml]; rfl) (argsL := [.null]) (rest := []) (lenOf pd_18 rfl) rfl (by show 2 * 0 + _ ≤ _; exact Nat.le_of_eq rfl) (hb hby at_165) (fun _ _ => ⟨rfl, e1, (by decide : 1 + 0 ≤ _), (by decide : 3 + 0 ≤ _)⟩)
        dsimp only [Pt.U, Pt.locs, Pt.cells, Pt.slots] at X10 l10 y10 z10 st10 hQ10
        subst l10 y10 z10
        obtain ⟨rfl, N10q, e10⟩ := hQ10
        have N10 := Fr.app N1 N10q
        refine own_go (fun tz kz => st10 tz kz) ?_
        show own_Go p.tables e below _ T10 (mkF m 168 #[.val (.int p1), .val (.int p2), .val (.int p3), .val (.int p4), .val (.int (Int32.ofNat n)), .val (.int nl), .val (.int (own_ch p2)), .val (.int (own_ch p3)), .val (.int (own_ch p4)), .val (.ref b), .val .null, .val (.int (0 : Int32))] [(.int (0 : Int32))])
        refine own_go (fun tz kz => XS.iload X10.here hx rfl (hb hby at_168) rfl kz) ?_
        show own_Go p.tables e below _ T10 (mkF m 170 #[.val (.int p1), .val (.int p2), .val (.int p3), .val (.int p4), .val (.int (Int32.ofNat n)), .val (.int nl), .val (.int (own_ch p2)), .val (.int (own_ch p3)), .val (.int (own_ch p4)), .val (.ref b), .val .null, .val (.int (0 : Int32))] [(.int (0 : Int32)), (.int (0 : Int32))])
        refine own_go (fun tz kz => XS.icmpNo X10.here hx rfl (hb hby at_170) rfl (XT.ii_ne_f rfl) kz) ?_
        show own_Go p.tables e below _ T10 (mkF m 173 #[.val (.int p1), .val (.int p2), .val (.int p3), .val (.int p4), .val (.int (Int32.ofNat n)), .val (.int nl), .val (.int (own_ch p2)), .val (.int (own_ch p3)), .val (.int (own_ch p4)), .val (.ref b), .val .null, .val (.int (0 : Int32))] [])
        refine own_go (fun tz kz => XS.iconst X10.here hx rfl (hb hby at_173) kz) ?_
        show own_Go p.tables e below _ T10 (mkF m 174 #[.val (.int p1), .val (.int p2), .val (.int p3), .val (.int p4), .val (.int (Int32.ofNat n)), .val (.int nl), .val (.int (own_ch p2)), .val (.int (own_ch p3)), .val (.int (own_ch p4)), .val (.ref b), .val .null, .val (.int (0 : Int32))] [(.int (1 : Int32))])
        refine own_go (fun tz kz => XS.goto X10.here hx rfl (pc0 := 174) (pc' := 178) rfl (hb hby at_174) (by decide) (by decide) kz) ?_
        show own_Go p.tables e below _ T10 (mkF m 178 #[.val (.int p1), .val (.int p2), .val (.int p3), .val (.int p4), .val (.int (Int32.ofNat n)), .val (.int nl), .val (.int (own_ch p2)), .val (.int (own_ch p3)), .val (.int (own_ch p4)), .val (.ref b), .val .null, .val (.int (0 : Int32))] [(.int (1 : Int32))])
        obtain ⟨fs, hr, hrun, hended, hWW⟩ := Jvm.Stand.leaveW (s := s) (vm₁ := s.vm) X10 hS0 (by rw [show T10.heap = h1 from e10]; exact (Nat.zero_le _)) (v := some (.int (1 : Int32))) (fun h => by rw [Bd.returns] at h; cases h) (BodyLoose.notSynchronized Bd)
        refine ⟨_, _, ?_, hrun, hended, _, _, rfl, ?_, hWW.1, hWW.2.1, hWW.2.2.1, hWW.2.2.2.mono (by decide) (by decide)⟩
        · exact retN X10 hx (t := .boolean) Bd.returns (by simp) (hb hby at_178) hr
        · show Q0 Z p1 p2 p3 p4 cs sf h0 n0 _ T10.heap _
          rw [e10]
          exact ⟨rfl, N10⟩
    rcases (by omega : n = 0 ∨ n = 1 ∨ n = 2 ∨ n = 3) with rfl | rfl | rfl | rfl
    ·
      show own_Go p.tables e below _ s₁ (mkF m 35 #[.val (.int p1), .val (.int p2), .val (.int p3), .val (.int p4), .val (.int (Int32.ofNat 0)), .val (.int nl), .val (.int (own_ch p2)), .val (.int (own_ch p3)), .val (.int (own_ch p4)), .unset, .unset, .unset] [(.int (Int32.ofNat 0))])
      refine own_go (fun tz kz => XS.ifNo X0.here hx rfl (hb hby at_35) rfl (XT.i0_ne_f (by decide)) kz) ?_
      show own_Go p.tables e below _ s₁ (mkF m 38 #[.val (.int p1), .val (.int p2), .val (.int p3), .val (.int p4), .val (.int (Int32.ofNat 0)), .val (.int nl), .val (.int (own_ch p2)), .val (.int (own_ch p3)), .val (.int (own_ch p4)), .unset, .unset, .unset] [])
      refine own_go (fun tz kz => XS.iconst X0.here hx rfl (hb hby at_38) kz) ?_
      show own_Go p.tables e below _ s₁ (mkF m 39 #[.val (.int p1), .val (.int p2), .val (.int p3), .val (.int p4), .val (.int (Int32.ofNat 0)), .val (.int nl), .val (.int (own_ch p2)), .val (.int (own_ch p3)), .val (.int (own_ch p4)), .unset, .unset, .unset] [(.int (0 : Int32))])
      obtain ⟨T11, h11, k11, X11, e11, E11, A11, st11⟩ := newP X0 hx hZ (hw _ (List.mem_of_getElem? (i := 0) rfl)) e0 (g := (mkF m 39 #[.val (.int p1), .val (.int p2), .val (.int p3), .val (.int p4), .val (.int (Int32.ofNat 0)), .val (.int nl), .val (.int (own_ch p2)), .val (.int (own_ch p3)), .val (.int (own_ch p4)), .unset, .unset, .unset] [(.int (0 : Int32))])) rfl (hb hby at_39) rfl (by decide) (cap := 3) (by decide) (by decide) (by decide) (by decide)
      obtain ⟨b, eq_b⟩ : ∃ z, z = (h0).size := ⟨_, rfl⟩
      rw [← eq_b] at A11 st11
      have g_b : n0 ≤ b := Nat.le_trans Z0 (Nat.le_of_eq eq_b.symm)
      have V_b : own_Av Z h11 b .char 0 (fun _ => .int 0) := own_Av.new A11 (by decide)
      refine own_go st11 ?_
      show own_Go p.tables e below _ T11 (mkF m 41 #[.val (.int p1), .val (.int p2), .val (.int p3), .val (.int p4), .val (.int (Int32.ofNat 0)), .val (.int nl), .val (.int (own_ch p2)), .val (.int (own_ch p3)), .val (.int (own_ch p4)), .unset, .unset, .unset] [(.ref b)])
      refine own_go (fun tz kz => XS.astore X11.here hx rfl (hb hby at_41) rfl rfl (l' := #[.val (.int p1), .val (.int p2), .val (.int p3), .val (.int p4), .val (.int (Int32.ofNat 0)), .val (.int nl), .val (.int (own_ch p2)), .val (.int (own_ch p3)), .val (.int (own_ch p4)), .val (.ref b), .unset, .unset]) rfl kz) ?_
      show own_Go p.tables e below _ T11 (mkF m 43 #[.val (.int p1), .val (.int p2), .val (.int p3), .val (.int p4), .val (.int (Int32.ofNat 0)), .val (.int nl), .val (.int (own_ch p2)), .val (.int (own_ch p3)), .val (.int (own_ch p4)), .val (.ref b), .unset, .unset] [])
      refine own_go (fun tz kz => XS.goto X11.here hx rfl (pc0 := 43) (pc' := 109) rfl (hb hby at_43) (by decide) (by decide) kz) ?_
      show own_Go p.tables e below _ T11 (mkF m 109 #[.val (.int p1), .val (.int p2), .val (.int p3), .val (.int p4), .val (.int (Int32.ofNat 0)), .val (.int nl), .val (.int (own_ch p2)), .val (.int (own_ch p3)), .val (.int (own_ch p4)), .val (.ref b), .unset, .unset] [])
      have O0z := (O0.ext E11)
      have Hc := hCH.ext E11
      have Vz : own_Av Z h11 b .char 0 (fun k => .int (own_ch ((own_c3 p2 p3 p4) k))) := own_Av.eq V_b (fun k hk => absurd hk (Nat.not_lt_zero k))
      refine own_go (fun tz kz => XS.iload X11.here hx rfl (hb hby at_109) rfl kz) ?_
      show own_Go p.tables e below _ T11 (mkF m 111 #[.val (.int p1), .val (.int p2), .val (.int p3), .val (.int p4), .val (.int (Int32.ofNat 0)), .val (.int nl), .val (.int (own_ch p2)), .val (.int (own_ch p3)), .val (.int (own_ch p4)), .val (.ref b), .unset, .unset] [(.int nl)])
      by_cases h0' : nl = (0 : Int32)
      ·
        refine own_go (fun tz kz => XS.ifYes X11.here hx rfl (pc0 := 111) (pc' := 118) rfl (hb hby at_111) rfl (XT.i0_eq_t h0') (by decide) (by decide) kz) ?_
        show own_Go p.tables e below _ T11 (mkF m 118 #[.val (.int p1), .val (.int p2), .val (.int p3), .val (.int p4), .val (.int (Int32.ofNat 0)), .val (.int nl), .val (.int (own_ch p2)), .val (.int (own_ch p3)), .val (.int (own_ch p4)), .val (.ref b), .unset, .unset] [])
        obtain ⟨T12, h12, X12, e12, E12, A12, D12, -, st12⟩ := newO X11 hx hZ hown (hw _ (List.mem_of_getElem? (i := 1) rfl)) (hw _ (List.mem_of_getElem? (i := 2) rfl)) (hw _ (List.mem_of_getElem? (i := 3) rfl)) e11 (g := (mkF m 118 #[.val (.int p1), .val (.int p2), .val (.int p3), .val (.int p4), .val (.int (Int32.ofNat 0)), .val (.int nl), .val (.int (own_ch p2)), .val (.int (own_ch p3)), .val (.int (own_ch p4)), .val (.ref b), .unset, .unset] [])) rfl (hb hby at_118) (by decide) (by decide)
        obtain ⟨o, eq_o⟩ : ∃ z, z = (h11).size := ⟨_, rfl⟩
        rw [← eq_o] at A12 D12 st12
        have g_o : n0 ≤ o := Nat.le_trans (Nat.le_trans Z0 E11.1) (Nat.le_of_eq eq_o.symm)
        have F_value_o : Fld Z h12 o "java/lang/String" "value" "[B" .null := D12 (Or.inr (hw _ (List.mem_of_getElem? (i := 16) rfl))) (ty := (.array .byte)) (by decide)
        have F_coder_o : Fld Z h12 o "java/lang/String" "coder" "B" (.int (0 : Int32)) := D12 (Or.inr (hw _ (List.mem_of_getElem? (i := 17) rfl))) (ty := .byte) (by decide)
        refine own_go st12 ?_
        show own_Go p.tables e below _ T12 (mkF m 121 #[.val (.int p1), .val (.int p2), .val (.int p3), .val (.int p4), .val (.int (Int32.ofNat 0)), .val (.int nl), .val (.int (own_ch p2)), .val (.int (own_ch p3)), .val (.int (own_ch p4)), .val (.ref b), .unset, .unset] [(.ref o)])
        refine own_go (fun tz kz => XS.dup X12.here hx rfl (hb hby at_121) rfl rfl kz) ?_
        show own_Go p.tables e below _ T12 (mkF m 122 #[.val (.int p1), .val (.int p2), .val (.int p3), .val (.int p4), .val (.int (Int32.ofNat 0)), .val (.int nl), .val (.int (own_ch p2)), .val (.int (own_ch p3)), .val (.int (own_ch p4)), .val (.ref b), .unset, .unset] [(.ref o), (.ref o)])
        refine own_go (fun tz kz => XS.aload X12.here hx rfl (hb hby at_122) rfl rfl kz) ?_
        show own_Go p.tables e below _ T12 (mkF m 124 #[.val (.int p1), .val (.int p2), .val (.int p3), .val (.int p4), .val (.int (Int32.ofNat 0)), .val (.int nl), .val (.int (own_ch p2)), .val (.int (own_ch p3)), .val (.int (own_ch p4)), .val (.ref b), .unset, .unset] [(.ref b), (.ref o), (.ref o)])
        have Oo := O0z.ext E12
        obtain ⟨_, _, ⟨T13, L13, k13, n13⟩, -, X13, hS13, hgr13, ⟨Lc13, hQ13, l13, y13, z13, hC13⟩, st13⟩ := Jvm.Stand.specialBackS (s := s.setVm s.vm) X12 hx (y := (⟨"java/lang/String", "<init>", "([C)V"⟩ : MethodName)) rfl hown (mvT hZ (hw _ (List.mem_of_getElem? (i := 4) rfl))) (mvT hZ (hw _ (List.mem_of_getElem? (i := 5) rfl))) (mvT hZ (hw _ (List.mem_of_getElem? (i := 6) rfl))) (by decide) (backOfSH (s := s) (vm0 := s.vm) (EL := own_EL) (W := 1) (rm1e l Z a0 hw [] o b (own_c3 p2 p3 p4) h12 n0 (Nat.le_trans (Nat.le_trans Z0 E11.1) E12.1) A12 F_coder_o F_value_o (Vz.ext E12) g_o) hZ (hw _ (List.mem_of_getElem? (i := 6) rfl)) (hw _ (List.mem_of_getElem? (i := 3) rfl)) (by decide) (by decide) hEL (Hc.ext E12)) (g := (mkF m 124 #[.val (.int p1), .val (.int p2), .val (.int p3), .val (.int p4), .val (.int (Int32.ofNat 0)), .val (.int nl), .val (.int (own_ch p2)), .val (.int (own_ch p3)), .val (.int (own_ch p4)), .val (.ref b), .unset, .unset] [(.ref b), (.ref o), (.ref o)])) rfl (by rw [hml]; rfl) (Steps.refl _) (a := o) (argsL := [(.ref b)]) (rest := [(.ref o)]) (lenOf pd_16 rfl) rfl (by show 2 * 0 + _ ≤ _; exact Nat.le_of_eq rfl) (hb hby at_124) (fun _ _ => ⟨rfl, e12, (by decide : 2 + 2 ≤ _), (by decide : 7 + 4 ≤ _)⟩)
        dsimp only [Pt.U, Pt.locs, Pt.cells, Pt.slots] at X13 l13 y13 z13 st13 hQ13 hC13 hS13 hgr13
        subst l13 y13 z13
        obtain ⟨N13q, rfl, K13, Ex', va, mm, cd, Fc', Fv', B'⟩ := hQ13
        have N13 := Fr.app N0 N13q
        have hZ13 : Z.Warmed39 (s.setVm T13.vm).vm := State.Warmed39.trans (t := s) hZ hS13.1
        have hown13 : (s.setVm T13.vm).vm.findClass "com/example/scriptwire/scriptwire/script/PdmpStateIsCodePinLaw" = some m.cls := by rw [show (s.setVm T13.vm).vm = T13.vm from rfl, hS13.1.alike.findClass]; exact hown
        refine own_go (fun tz kz => st13.trans kz) ?_
        show own_Go p.tables e below _ T13 (mkF m 127 #[.val (.int p1), .val (.int p2), .val (.int p3), .val (.int p4), .val (.int (Int32.ofNat 0)), .val (.int nl), .val (.int (own_ch p2)), .val (.int (own_ch p3)), .val (.int (own_ch p4)), .val (.ref b), .unset, .unset] [(.ref o)])
        have Op := Oo.keep K13 (fun x hx => by cases List.mem_singleton.mp hx; exact g_o)
        refine own_go (fun tz kz => XS.astore X13.here hx rfl (hb hby at_127) rfl rfl (l' := #[.val (.int p1), .val (.int p2), .val (.int p3), .val (.int p4), .val (.int (Int32.ofNat 0)), .val (.int nl), .val (.int (own_ch p2)), .val (.int (own_ch p3)), .val (.int (own_ch p4)), .val (.ref b), .val (.ref o), .unset]) rfl kz) ?_
        show own_Go p.tables e below _ T13 (mkF m 129 #[.val (.int p1), .val (.int p2), .val (.int p3), .val (.int p4), .val (.int (Int32.ofNat 0)), .val (.int nl), .val (.int (own_ch p2)), .val (.int (own_ch p3)), .val (.int (own_ch p4)), .val (.ref b), .val (.ref o), .unset] [])
        refine own_go (fun tz kz => XS.iload X13.here hx rfl (hb hby at_129) rfl kz) ?_
        show own_Go p.tables e below _ T13 (mkF m 131 #[.val (.int p1), .val (.int p2), .val (.int p3), .val (.int p4), .val (.int (Int32.ofNat 0)), .val (.int nl), .val (.int (own_ch p2)), .val (.int (own_ch p3)), .val (.int (own_ch p4)), .val (.ref b), .val (.ref o), .unset] [(.int nl)])
        refine own_go (fun tz kz => XS.ifNo X13.here hx rfl (hb hby at_131) rfl (XT.i0_ne_f h0') kz) ?_
        show own_Go p.tables e below _ T13 (mkF m 134 #[.val (.int p1), .val (.int p2), .val (.int p3), .val (.int p4), .val (.int (Int32.ofNat 0)), .val (.int nl), .val (.int (own_ch p2)), .val (.int (own_ch p3)), .val (.int (own_ch p4)), .val (.ref b), .val (.ref o), .unset] [])
        refine own_go (fun tz kz => XS.iload X13.here hx rfl (hb hby at_134) rfl kz) ?_
        show own_Go p.tables e below _ T13 (mkF m 136 #[.val (.int p1), .val (.int p2), .val (.int p3), .val (.int p4), .val (.int (Int32.ofNat 0)), .val (.int nl), .val (.int (own_ch p2)), .val (.int (own_ch p3)), .val (.int (own_ch p4)), .val (.ref b), .val (.ref o), .unset] [(.int (Int32.ofNat 0))])
        refine own_go (fun tz kz => XS.iconst X13.here hx rfl (hb hby at_136) kz) ?_
        show own_Go p.tables e below _ T13 (mkF m 137 #[.val (.int p1), .val (.int p2), .val (.int p3), .val (.int p4), .val (.int (Int32.ofNat 0)), .val (.int nl), .val (.int (own_ch p2)), .val (.int (own_ch p3)), .val (.int (own_ch p4)), .val (.ref b), .val (.ref o), .unset] [(.int (2 : Int32)), (.int (Int32.ofNat 0))])
        refine own_go (fun tz kz => XS.icmpYes X13.here hx rfl (pc0 := 137) (pc' := 160) rfl (hb hby at_137) rfl (XT.ii_ne_t (by decide)) (by decide) (by decide) kz) ?_
        show own_Go p.tables e below _ T13 (mkF m 160 #[.val (.int p1), .val (.int p2), .val (.int p3), .val (.int p4), .val (.int (Int32.ofNat 0)), .val (.int nl), .val (.int (own_ch p2)), .val (.int (own_ch p3)), .val (.int (own_ch p4)), .val (.ref b), .val (.ref o), .unset] [])
        refine own_go (fun tz kz => XS.iconst X13.here hx rfl (hb hby at_160) kz) ?_
        show own_Go p.tables e below _ T13 (mkF m 161 #[.val (.int p1), .val (.int p2), .val (.int p3), .val (.int p4), .val (.int (Int32.ofNat 0)), .val (.int nl), .val (.int (own_ch p2)), .val (.int (own_ch p3)), .val (.int (own_ch p4)), .val (.ref b), .val (.ref o), .unset] [(.int (0 : Int32))])
        refine own_go (fun tz kz => XS.istore X13.here hx rfl (hb hby at_161) rfl (l' := #[.val (.int p1), .val (.int p2), .val (.int p3), .val (.int p4), .val (.int (Int32.ofNat 0)), .val (.int nl), .val (.int (own_ch p2)), .val (.int (own_ch p3)), .val (.int (own_ch p4)), .val (.ref b), .val (.ref o), .val (.int (0 : Int32))]) rfl kz) ?_
        show own_Go p.tables e below _ T13 (mkF m 163 #[.val (.int p1), .val (.int p2), .val (.int p3), .val (.int p4), .val (.int (Int32.ofNat 0)), .val (.int nl), .val (.int (own_ch p2)), .val (.int (own_ch p3)), .val (.int (own_ch p4)), .val (.ref b), .val (.ref o), .val (.int (0 : Int32))] [])
        refine own_go (fun tz kz => XS.aload X13.here hx rfl (hb hby at_163) rfl rfl kz) ?_
        show own_Go p.tables e below _ T13 (mkF m 165 #[.val (.int p1), .val (.int p2), .val (.int p3), .val (.int p4), .val (.int (Int32.ofNat 0)), .val (.int nl), .val (.int (own_ch p2)), .val (.int (own_ch p3)), .val (.int (own_ch p4)), .val (.ref b), .val (.ref o), .val (.int (0 : Int32))] [(.ref o)])
        obtain ⟨_, _, ⟨T14, L14, k14, n14⟩, -, X14, ⟨Lc14, hQ14, l14, y14, z14⟩, st14⟩ := Jvm.LawKit.callS X13 hx (y := (⟨"com/example/scriptwire/scriptwire/script/PdmpState", "isCode", "(Ljava/lang/String;)Z"⟩ : MethodName)) hown13 (mvT hZ13 (hw _ (List.mem_of_getElem? (i := 22) rfl))) (mvT hZ13 (hw _ (List.mem_of_getElem? (i := 23) rfl))) (mvT hZ13 (hw _ (List.mem_of_getElem? (i := 24) rfl))) (mvT hZ13 (hw _ (List.mem_of_getElem? (i := 25) rfl))) (by decide) (backOf (W := 0) (rm4s l Z a0 hw [] o va 0 (own_c3 p2 p3 p4) mm cd cs sf T13.heap n0 (Nat.le_trans (Nat.le_trans (Nat.le_trans Z0 E11.1) E12.1) K13.1) (SC.ext Op.2) hcs Ex' Fc' Fv' B' (by decide) (SF.ext Op.2) hsf (AD.ext Op.2) (HB.ext Op.2) (LB.ext Op.2)) hZ13 (hw _ (List.mem_of_getElem? (i := 25) rfl)) (hw _ (List.mem_of_getElem? (i := 24) rfl)) (by decide) (by decide)) (g := (mkF m 165 #[.val (.int p1), .val (.int p2), .val (.int p3), .val (.int p4), .val (.int (Int32.ofNat 0)), .val (.int nl), .val (.int (own_ch p2)), .val (.int (own_ch p3)), .val (.int (own_ch p4)), .val (.ref b), .val (.ref o), .val (.int (0 : Int32))] [(.ref o)])) rfl (by rw [hml]; rfl) (argsL := [(.ref o)]) (rest := []) (lenOf pd_18 rfl) rfl (by show 2 * 0 + _ ≤ _; exact Nat.le_of_eq rfl) (hb hby at_165) (fun _ _ => ⟨rfl, rfl, (by decide : 4 + 0 ≤ _), (by decide : 11 + 0 ≤ _)⟩)
        dsimp only [Pt.U, Pt.locs, Pt.cells, Pt.slots] at X14 l14 y14 z14 st14 hQ14
        subst l14 y14 z14
        obtain ⟨rfl, N14q, e14⟩ := hQ14
        have N14 := Fr.app N13 N14q
        refine own_go (fun tz kz => st14 tz kz) ?_
        show own_Go p.tables e below _ T14 (mkF m 168 #[.val (.int p1), .val (.int p2), .val (.int p3), .val (.int p4), .val (.int (Int32.ofNat 0)), .val (.int nl), .val (.int (own_ch p2)), .val (.int (own_ch p3)), .val (.int (own_ch p4)), .val (.ref b), .val (.ref o), .val (.int (0 : Int32))] [(.int (own_ic 0 (fun k => own_ch ((own_c3 p2 p3 p4) k))))])
        refine own_go (fun tz kz => XS.iload X14.here hx rfl (hb hby at_168) rfl kz) ?_
        show own_Go p.tables e below _ T14 (mkF m 170 #[.val (.int p1), .val (.int p2), .val (.int p3), .val (.int p4), .val (.int (Int32.ofNat 0)), .val (.int nl), .val (.int (own_ch p2)), .val (.int (own_ch p3)), .val (.int (own_ch p4)), .val (.ref b), .val (.ref o), .val (.int (0 : Int32))] [(.int (0 : Int32)), (.int (own_ic 0 (fun k => own_ch ((own_c3 p2 p3 p4) k))))])
        refine own_go (fun tz kz => XS.icmpNo X14.here hx rfl (hb hby at_170) rfl (XT.ii_ne_f (if_neg (by decide))) kz) ?_
        show own_Go p.tables e below _ T14 (mkF m 173 #[.val (.int p1), .val (.int p2), .val (.int p3), .val (.int p4), .val (.int (Int32.ofNat 0)), .val (.int nl), .val (.int (own_ch p2)), .val (.int (own_ch p3)), .val (.int (own_ch p4)), .val (.ref b), .val (.ref o), .val (.int (0 : Int32))] [])
        refine own_go (fun tz kz => XS.iconst X14.here hx rfl (hb hby at_173) kz) ?_
        show own_Go p.tables e below _ T14 (mkF m 174 #[.val (.int p1), .val (.int p2), .val (.int p3), .val (.int p4), .val (.int (Int32.ofNat 0)), .val (.int nl), .val (.int (own_ch p2)), .val (.int (own_ch p3)), .val (.int (own_ch p4)), .val (.ref b), .val (.ref o), .val (.int (0 : Int32))] [(.int (1 : Int32))])
        refine own_go (fun tz kz => XS.goto X14.here hx rfl (pc0 := 174) (pc' := 178) rfl (hb hby at_174) (by decide) (by decide) kz) ?_
        show own_Go p.tables e below _ T14 (mkF m 178 #[.val (.int p1), .val (.int p2), .val (.int p3), .val (.int p4), .val (.int (Int32.ofNat 0)), .val (.int nl), .val (.int (own_ch p2)), .val (.int (own_ch p3)), .val (.int (own_ch p4)), .val (.ref b), .val (.ref o), .val (.int (0 : Int32))] [(.int (1 : Int32))])
        obtain ⟨fs, hr, hrun, hended, hWW⟩ := Jvm.Stand.leaveW (s := s) (vm₁ := T13.vm) X14 hS13 (by rw [show T14.heap = T13.heap from e14]; exact (Nat.le_refl _)) (v := some (.int (1 : Int32))) (fun h => by rw [Bd.returns] at h; cases h) (BodyLoose.notSynchronized Bd)
        refine ⟨_, _, ?_, hrun, hended, _, _, rfl, ?_, hWW.1, hWW.2.1, hWW.2.2.1, hWW.2.2.2.mono (by decide) (by decide)⟩
        · exact retN X14 hx (t := .boolean) Bd.returns (by simp) (hb hby at_178) hr
        · show Q0 Z p1 p2 p3 p4 cs sf h0 n0 _ T14.heap _
          rw [e14]
          exact ⟨rfl, N14⟩
      ·
        refine own_go (fun tz kz => XS.ifNo X11.here hx rfl (hb hby at_111) rfl (XT.i0_eq_f h0') kz) ?_
        show own_Go p.tables e below _ T11 (mkF m 114 #[.val (.int p1), .val (.int p2), .val (.int p3), .val (.int p4), .val (.int (Int32.ofNat 0)), .val (.int nl), .val (.int (own_ch p2)), .val (.int (own_ch p3)), .val (.int (own_ch p4)), .val (.ref b), .unset, .unset] [])
        refine own_go (fun tz kz => XS.aconstNull X11.here hx rfl (hb hby at_114) kz) ?_
        show own_Go p.tables e below _ T11 (mkF m 115 #[.val (.int p1), .val (.int p2), .val (.int p3), .val (.int p4), .val (.int (Int32.ofNat 0)), .val (.int nl), .val (.int (own_ch p2)), .val (.int (own_ch p3)), .val (.int (own_ch p4)), .val (.ref b), .unset, .unset] [.null])
        refine own_go (fun tz kz => XS.goto X11.here hx rfl (pc0 := 115) (pc' := 127) rfl (hb hby at_115) (by decide) (by decide) kz) ?_
        show own_Go p.tables e below _ T11 (mkF m 127 #[.val (.int p1), .val (.int p2), .val (.int p3), .val (.int p4), .val (.int (Int32.ofNat 0)), .val (.int nl), .val (.int (own_ch p2)), .val (.int (own_ch p3)), .val (.int (own_ch p4)), .val (.ref b), .unset, .unset] [.null])
        refine own_go (fun tz kz => XS.astore X11.here hx rfl (hb hby at_127) rfl rfl (l' := #[.val (.int p1), .val (.int p2), .val (.int p3), .val (.int p4), .val (.int (Int32.ofNat 0)), .val (.int nl), .val (.int (own_ch p2)), .val (.int (own_ch p3)), .val (.int (own_ch p4)), .val (.ref b), .val .null, .unset]) rfl kz) ?_
        show own_Go p.tables e below _ T11 (mkF m 129 #[.val (.int p1), .val (.int p2), .val (.int p3), .val (.int p4), .val (.int (Int32.ofNat 0)), .val (.int nl), .val (.int (own_ch p2)), .val (.int (own_ch p3)), .val (.int (own_ch p4)), .val (.ref b), .val .null, .unset] [])
        refine own_go (fun tz kz => XS.iload X11.here hx rfl (hb hby at_129) rfl kz) ?_
        show own_Go p.tables e below _ T11 (mkF m 131 #[.val (.int p1), .val (.int p2), .val (.int p3), .val (.int p4), .val (.int (Int32.ofNat 0)), .val (.int nl), .val (.int (own_ch p2)), .val (.int (own_ch p3)), .val (.int (own_ch p4)), .val (.ref b), .val .null, .unset] [(.int nl)])
        refine own_go (fun tz kz => XS.ifYes X11.here hx rfl (pc0 := 131) (pc' := 160) rfl (hb hby at_131) rfl (XT.i0_ne_t h0') (by decide) (by decide) kz) ?_
        show own_Go p.tables e below _ T11 (mkF m 160 #[.val (.int p1), .val (.int p2), .val (.int p3), .val (.int p4), .val (.int (Int32.ofNat 0)), .val (.int nl), .val (.int (own_ch p2)), .val (.int (own_ch p3)), .val (.int (own_ch p4)), .val (.ref b), .val .null, .unset] [])
        refine own_go (fun tz kz => XS.iconst X11.here hx rfl (hb hby at_160) kz) ?_
        show own_Go p.tables e below _ T11 (mkF m 161 #[.val (.int p1), .val (.int p2), .val (.int p3), .val (.int p4), .val (.int (Int32.ofNat 0)), .val (.int nl), .val (.int (own_ch p2)), .val (.int (own_ch p3)), .val (.int (own_ch p4)), .val (.ref b), .val .null, .unset] [(.int (0 : Int32))])
        refine own_go (fun tz kz => XS.istore X11.here hx rfl (hb hby at_161) rfl (l' := #[.val (.int p1), .val (.int p2), .val (.int p3), .val (.int p4), .val (.int (Int32.ofNat 0)), .val (.int nl), .val (.int (own_ch p2)), .val (.int (own_ch p3)), .val (.int (own_ch p4)), .val (.ref b), .val .null, .val (.int (0 : Int32))]) rfl kz) ?_
        show own_Go p.tables e below _ T11 (mkF m 163 #[.val (.int p1), .val (.int p2), .val (.int p3), .val (.int p4), .val (.int (Int32.ofNat 0)), .val (.int nl), .val (.int (own_ch p2)), .val (.int (own_ch p3)), .val (.int (own_ch p4)), .val (.ref b), .val .null, .val (.int (0 : Int32))] [])
        refine own_go (fun tz kz => XS.aload X11.here hx rfl (hb hby at_163) rfl rfl kz) ?_
        show own_Go p.tables e below _ T11 (mkF m 165 #[.val (.int p1), .val (.int p2), .val (.int p3), .val (.int p4), .val (.int (Int32.ofNat 0)), .val (.int nl), .val (.int (own_ch p2)), .val (.int (own_ch p3)), .val (.int (own_ch p4)), .val (.ref b), .val .null, .val (.int (0 : Int32))] [.null])
        obtain ⟨_, _, ⟨T15, L15, k15, n15⟩, -, X15, ⟨Lc15, hQ15, l15, y15, z15⟩, st15⟩ := Jvm.LawKit.callS X11 hx (y := (⟨"com/example/scriptwire/scriptwire/script/PdmpState", "isCode", "(Ljava/lang/String;)Z"⟩ : MethodName)) hown (mvT hZ (hw _ (List.mem_of_getElem? (i := 22) rfl))) (mvT hZ (hw _ (List.mem_of_getElem? (i := 23) rfl))) (mvT hZ (hw _ (List.mem_of_getElem? (i := 24) rfl))) (mvT hZ (hw _ (List.mem_of_getElem? (i := 25) rfl))) (by decide) (backOf (W := 0) (rm4n l Z a0 hw [] h11 n0 (Nat.le_trans Z0 E11.1)) hZ (hw _ (List.mem_of_getElem? (i := 25) rfl)) (hw _ (List.mem_of_getElem? (i := 24) rfl)) (by decide) (by decide)) (g := (mkF m 165 #[.val (.int p1), .val (.int p2), .val (.int p3), .val (.int p4), .val (.int (Int32.ofNat 0)), .val (.int nl), .val (.int (own_ch p2)), .val (.int (own_ch p3)), .val (.int (own_ch p4)), .val (.ref b), .val .null, .val (.int (0 : Int32))] [.null])) rfl (by rw [hml]; rfl) (argsL := [.null]) (rest := []) (lenOf pd_18 rfl) rfl (by show 2 * 0 + _ ≤ _; exact Nat.le_of_eq rfl) (hb hby at_165) (fun _ _ => ⟨rfl, e11, (by decide : 1 + 0 ≤ _), (by decide : 3 + 0 ≤ _)⟩)
        dsimp only [Pt.U, Pt.locs, Pt.cells, Pt.slots] at X15 l15 y15 z15 st15 hQ15
        subst l15 y15 z15
        obtain ⟨rfl, N15q, e15⟩ := hQ15
        have N15 := Fr.app N0 N15q
        refine own_go (fun tz kz => st15 tz kz) ?_
        show own_Go p.tables e below _ T15 (mkF m 168 #[.val (.int p1), .val (.int p2), .val (.int p3), .val (.int p4), .val (.int (Int32.ofNat 0)), .val (.int nl), .val (.int (own_ch p2)), .val (.int (own_ch p3)), .val (.int (own_ch p4)), .val (.ref b), .val .null, .val (.int (0 : Int32))] [(.int (0 : Int32))])
        refine own_go (fun tz kz => XS.iload X15.here hx rfl (hb hby at_168) rfl kz) ?_
        show own_Go p.tables e below _ T15 (mkF m 170 #[.val (.int p1), .val (.int p2), .val (.int p3), .val (.int p4), .val (.int (Int32.ofNat 0)), .val (.int nl), .val (.int (own_ch p2)), .val (.int (own_ch p3)), .val (.int (own_ch p4)), .val (.ref b), .val .null, .val (.int (0 : Int32))] [(.int (0 : Int32)), (.int (0 : Int32))])
        refine own_go (fun tz kz => XS.icmpNo X15.here hx rfl (hb hby at_170) rfl (XT.ii_ne_f rfl) kz) ?_
        show own_Go p.tables e below _ T15 (mkF m 173 #[.val (.int p1), .val (.int p2), .val (.int p3), .val (.int p4), .val (.int (Int32.ofNat 0)), .val (.int nl), .val (.int (own_ch p2)), .val (.int (own_ch p3)), .val (.int (own_ch p4)), .val (.ref b), .val .null, .val (.int (0 : Int32))] [])
        refine own_go (fun tz kz => XS.iconst X15.here hx rfl (hb hby at_173) kz) ?_
        show own_Go p.tables e below _ T15 (mkF m 174 #[.val (.int p1), .val (.int p2), .val (.int p3), .val (.int p4), .val (.int (Int32.ofNat 0)), .val (.int nl), .val (.int (own_ch p2)), .val (.int (own_ch p3)), .val (.int (own_ch p4)), .val (.ref b), .val .null, .val (.int (0 : Int32))] [(.int (1 : Int32))])
        refine own_go (fun tz kz => XS.goto X15.here hx rfl (pc0 := 174) (pc' := 178) rfl (hb hby at_174) (by decide) (by decide) kz) ?_
        show own_Go p.tables e below _ T15 (mkF m 178 #[.val (.int p1), .val (.int p2), .val (.int p3), .val (.int p4), .val (.int (Int32.ofNat 0)), .val (.int nl), .val (.int (own_ch p2)), .val (.int (own_ch p3)), .val (.int (own_ch p4)), .val (.ref b), .val .null, .val (.int (0 : Int32))] [(.int (1 : Int32))])
        obtain ⟨fs, hr, hrun, hended, hWW⟩ := Jvm.Stand.leaveW (s := s) (vm₁ := s.vm) X15 hS0 (by rw [show T15.heap = h11 from e15]; exact (Nat.zero_le _)) (v := some (.int (1 : Int32))) (fun h => by rw [Bd.returns] at h; cases h) (BodyLoose.notSynchronized Bd)
        refine ⟨_, _, ?_, hrun, hended, _, _, rfl, ?_, hWW.1, hWW.2.1, hWW.2.2.1, hWW.2.2.2.mono (by decide) (by decide)⟩
        · exact retN X15 hx (t := .boolean) Bd.returns (by simp) (hb hby at_178) hr
        · show Q0 Z p1 p2 p3 p4 cs sf h0 n0 _ T15.heap _
          rw [e15]
          exact ⟨rfl, N15⟩
    ·
      show own_Go p.tables e below _ s₁ (mkF m 35 #[.val (.int p1), .val (.int p2), .val (.int p3), .val (.int p4), .val (.int (Int32.ofNat 1)), .val (.int nl), .val (.int (own_ch p2)), .val (.int (own_ch p3)), .val (.int (own_ch p4)), .unset, .unset, .unset] [(.int (Int32.ofNat 1))])
      refine own_go (fun tz kz => XS.ifYes X0.here hx rfl (pc0 := 35) (pc' := 46) rfl (hb hby at_35) rfl (XT.i0_ne_t (by decide)) (by decide) (by decide) kz) ?_
      show own_Go p.tables e below _ s₁ (mkF m 46 #[.val (.int p1), .val (.int p2), .val (.int p3), .val (.int p4), .val (.int (Int32.ofNat 1)), .val (.int nl), .val (.int (own_ch p2)), .val (.int (own_ch p3)), .val (.int (own_ch p4)), .unset, .unset, .unset] [])
      refine own_go (fun tz kz => XS.iload X0.here hx rfl (hb hby at_46) rfl kz) ?_
      show own_Go p.tables e below _ s₁ (mkF m 48 #[.val (.int p1), .val (.int p2), .val (.int p3), .val (.int p4), .val (.int (Int32.ofNat 1)), .val (.int nl), .val (.int (own_ch p2)), .val (.int (own_ch p3)), .val (.int (own_ch p4)), .unset, .unset, .unset] [(.int (Int32.ofNat 1))])
      refine own_go (fun tz kz => XS.iconst X0.here hx rfl (hb hby at_48) kz) ?_
      show own_Go p.tables e below _ s₁ (mkF m 49 #[.val (.int p1), .val (.int p2), .val (.int p3), .val (.int p4), .val (.int (Int32.ofNat 1)), .val (.int nl), .val (.int (own_ch p2)), .val (.int (own_ch p3)), .val (.int (own_ch p4)), .unset, .unset, .unset] [(.int (1 : Int32)), (.int (Int32.ofNat 1))])
      refine own_go (fun tz kz => XS.icmpNo X0.here hx rfl (hb hby at_49) rfl (XT.ii_ne_f (by decide)) kz) ?_
      show own_Go p.tables e below _ s₁ (mkF m 52 #[.val (.int p1), .val (.int p2), .val (.int p3), .val (.int p4), .val (.int (Int32.ofNat 1)), .val (.int nl), .val (.int (own_ch p2)), .val (.int (own_ch p3)), .val (.int (own_ch p4)), .unset, .unset, .unset] [])
      refine own_go (fun tz kz => XS.iconst X0.here hx rfl (hb hby at_52) kz) ?_
      show own_Go p.tables e below _ s₁ (mkF m 53 #[.val (.int p1), .val (.int p2), .val (.int p3), .val (.int p4), .val (.int (Int32.ofNat 1)), .val (.int nl), .val (.int (own_ch p2)), .val (.int (own_ch p3)), .val (.int (own_ch p4)), .unset, .unset, .unset] [(.int (1 : Int32))])
      obtain ⟨T16, h16, k16, X16, e16, E16, A16, st16⟩ := newP X0 hx hZ (hw _ (List.mem_of_getElem? (i := 0) rfl)) e0 (g := (mkF m 53 #[.val (.int p1), .val (.int p2), .val (.int p3), .val (.int p4), .val (.int (Int32.ofNat 1)), .val (.int nl), .val (.int (own_ch p2)), .val (.int (own_ch p3)), .val (.int (own_ch p4)), .unset, .unset, .unset] [(.int (1 : Int32))])) rfl (hb hby at_53) rfl (by decide) (cap := 3) (by decide) (by decide) (by decide) (by decide)
      obtain ⟨b, eq_b⟩ : ∃ z, z = (h0).size := ⟨_, rfl⟩
      rw [← eq_b] at A16 st16
      have g_b : n0 ≤ b := Nat.le_trans Z0 (Nat.le_of_eq eq_b.symm)
      have V_b : own_Av Z h16 b .char 1 (fun _ => .int 0) := own_Av.new A16 (by decide)
      refine own_go st16 ?_
      show own_Go p.tables e below _ T16 (mkF m 55 #[.val (.int p1), .val (.int p2), .val (.int p3), .val (.int p4), .val (.int (Int32.ofNat 1)), .val (.int nl), .val (.int (own_ch p2)), .val (.int (own_ch p3)), .val (.int (own_ch p4)), .unset, .unset, .unset] [(.ref b)])
      refine own_go (fun tz kz => XS.dup X16.here hx rfl (hb hby at_55) rfl rfl kz) ?_
      show own_Go p.tables e below _ T16 (mkF m 56 #[.val (.int p1), .val (.int p2), .val (.int p3), .val (.int p4), .val (.int (Int32.ofNat 1)), .val (.int nl), .val (.int (own_ch p2)), .val (.int (own_ch p3)), .val (.int (own_ch p4)), .unset, .unset, .unset] [(.ref b), (.ref b)])
      refine own_go (fun tz kz => XS.iconst X16.here hx rfl (hb hby at_56) kz) ?_
      show own_Go p.tables e below _ T16 (mkF m 57 #[.val (.int p1), .val (.int p2), .val (.int p3), .val (.int p4), .val (.int (Int32.ofNat 1)), .val (.int nl), .val (.int (own_ch p2)), .val (.int (own_ch p3)), .val (.int (own_ch p4)), .unset, .unset, .unset] [(.int (0 : Int32)), (.ref b), (.ref b)])
      refine own_go (fun tz kz => XS.iload X16.here hx rfl (hb hby at_57) rfl kz) ?_
      show own_Go p.tables e below _ T16 (mkF m 59 #[.val (.int p1), .val (.int p2), .val (.int p3), .val (.int p4), .val (.int (Int32.ofNat 1)), .val (.int nl), .val (.int (own_ch p2)), .val (.int (own_ch p3)), .val (.int (own_ch p4)), .unset, .unset, .unset] [(.int (own_ch p2)), (.int (0 : Int32)), (.ref b), (.ref b)])
      obtain ⟨c17, Ar17, Sz17, Ge17⟩ := id (V_b)
      obtain ⟨T17, h17, X17, e17, W17, st17⟩ := stC X16 hx hZ e16 Ar17 (j := (0 : Int32)) (own_inb (i := 0) Sz17 ⟨by decide, by decide⟩ (by decide)) (g := (mkF m 59 #[.val (.int p1), .val (.int p2), .val (.int p3), .val (.int p4), .val (.int (Int32.ofNat 1)), .val (.int nl), .val (.int (own_ch p2)), .val (.int (own_ch p3)), .val (.int (own_ch p4)), .unset, .unset, .unset] [(.int (own_ch p2)), (.int (0 : Int32)), (.ref b), (.ref b)])) rfl rfl (hb hby at_59)
      have V0 := own_Av.set (V_b) W17 (⟨by decide, by decide⟩ : ¬ (0 : Int32) < 0 ∧ ((0 : Int32)).toNatClampNeg = 0).2
      have N17 := Fr.snoc X17 N0 g_b
      refine own_go st17 ?_
      show own_Go p.tables e below _ T17 (mkF m 60 #[.val (.int p1), .val (.int p2), .val (.int p3), .val (.int p4), .val (.int (Int32.ofNat 1)), .val (.int nl), .val (.int (own_ch p2)), .val (.int (own_ch p3)), .val (.int (own_ch p4)), .unset, .unset, .unset] [(.ref b)])
      refine own_go (fun tz kz => XS.astore X17.here hx rfl (hb hby at_60) rfl rfl (l' := #[.val (.int p1), .val (.int p2), .val (.int p3), .val (.int p4), .val (.int (Int32.ofNat 1)), .val (.int nl), .val (.int (own_ch p2)), .val (.int (own_ch p3)), .val (.int (own_ch p4)), .val (.ref b), .unset, .unset]) rfl kz) ?_
      show own_Go p.tables e below _ T17 (mkF m 62 #[.val (.int p1), .val (.int p2), .val (.int p3), .val (.int p4), .val (.int (Int32.ofNat 1)), .val (.int nl), .val (.int (own_ch p2)), .val (.int (own_ch p3)), .val (.int (own_ch p4)), .val (.ref b), .unset, .unset] [])
      refine own_go (fun tz kz => XS.goto X17.here hx rfl (pc0 := 62) (pc' := 109) rfl (hb hby at_62) (by decide) (by decide) kz) ?_
      show own_Go p.tables e below _ T17 (mkF m 109 #[.val (.int p1), .val (.int p2), .val (.int p3), .val (.int p4), .val (.int (Int32.ofNat 1)), .val (.int nl), .val (.int (own_ch p2)), .val (.int (own_ch p3)), .val (.int (own_ch p4)), .val (.ref b), .unset, .unset] [])
      exact J109 T17 _ _ X17 e17 N17 (Nat.le_trans (Nat.le_trans Z0 E16.1) (Keep.of_wr W17).1) b ((O0.ext E16).wr W17 g_b) (by decide) (own_Av.eq V0 (fun k hk => by rcases (by omega : k = 0) with rfl <;> exact congrArg Value.int (own_ch_ch _)))
    ·
      show own_Go p.tables e below _ s₁ (mkF m 35 #[.val (.int p1), .val (.int p2), .val (.int p3), .val (.int p4), .val (.int (Int32.ofNat 2)), .val (.int nl), .val (.int (own_ch p2)), .val (.int (own_ch p3)), .val (.int (own_ch p4)), .unset, .unset, .unset] [(.int (Int32.ofNat 2))])
      refine own_go (fun tz kz => XS.ifYes X0.here hx rfl (pc0 := 35) (pc' := 46) rfl (hb hby at_35) rfl (XT.i0_ne_t (by decide)) (by decide) (by decide) kz) ?_
      show own_Go p.tables e below _ s₁ (mkF m 46 #[.val (.int p1), .val (.int p2), .val (.int p3), .val (.int p4), .val (.int (Int32.ofNat 2)), .val (.int nl), .val (.int (own_ch p2)), .val (.int (own_ch p3)), .val (.int (own_ch p4)), .unset, .unset, .unset] [])
      refine own_go (fun tz kz => XS.iload X0.here hx rfl (hb hby at_46) rfl kz) ?_
      show own_Go p.tables e below _ s₁ (mkF m 48 #[.val (.int p1), .val (.int p2), .val (.int p3), .val (.int p4), .val (.int (Int32.ofNat 2)), .val (.int nl), .val (.int (own_ch p2)), .val (.int (own_ch p3)), .val (.int (own_ch p4)), .unset, .unset, .unset] [(.int (Int32.ofNat 2))])
      refine own_go (fun tz kz => XS.iconst X0.here hx rfl (hb hby at_48) kz) ?_
      show own_Go p.tables e below _ s₁ (mkF m 49 #[.val (.int p1), .val (.int p2), .val (.int p3), .val (.int p4), .val (.int (Int32.ofNat 2)), .val (.int nl), .val (.int (own_ch p2)), .val (.int (own_ch p3)), .val (.int (own_ch p4)), .unset, .unset, .unset] [(.int (1 : Int32)), (.int (Int32.ofNat 2))])
      refine own_go (fun tz kz => XS.icmpYes X0.here hx rfl (pc0 := 49) (pc' := 65) rfl (hb hby at_49) rfl (XT.ii_ne_t (by decide)) (by decide) (by decide) kz) ?_
      show own_Go p.tables e below _ s₁ (mkF m 65 #[.val (.int p1), .val (.int p2), .val (.int p3), .val (.int p4), .val (.int (Int32.ofNat 2)), .val (.int nl), .val (.int (own_ch p2)), .val (.int (own_ch p3)), .val (.int (own_ch p4)), .unset, .unset, .unset] [])
      refine own_go (fun tz kz => XS.iload X0.here hx rfl (hb hby at_65) rfl kz) ?_
      show own_Go p.tables e below _ s₁ (mkF m 67 #[.val (.int p1), .val (.int p2), .val (.int p3), .val (.int p4), .val (.int (Int32.ofNat 2)), .val (.int nl), .val (.int (own_ch p2)), .val (.int (own_ch p3)), .val (.int (own_ch p4)), .unset, .unset, .unset] [(.int (Int32.ofNat 2))])
      refine own_go (fun tz kz => XS.iconst X0.here hx rfl (hb hby at_67) kz) ?_
      show own_Go p.tables e below _ s₁ (mkF m 68 #[.val (.int p1), .val (.int p2), .val (.int p3), .val (.int p4), .val (.int (Int32.ofNat 2)), .val (.int nl), .val (.int (own_ch p2)), .val (.int (own_ch p3)), .val (.int (own_ch p4)), .unset, .unset, .unset] [(.int (2 : Int32)), (.int (Int32.ofNat 2))])
      refine own_go (fun tz kz => XS.icmpNo X0.here hx rfl (hb hby at_68) rfl (XT.ii_ne_f (by decide)) kz) ?_
      show own_Go p.tables e below _ s₁ (mkF m 71 #[.val (.int p1), .val (.int p2), .val (.int p3), .val (.int p4), .val (.int (Int32.ofNat 2)), .val (.int nl), .val (.int (own_ch p2)), .val (.int (own_ch p3)), .val (.int (own_ch p4)), .unset, .unset, .unset] [])
      refine own_go (fun tz kz => XS.iconst X0.here hx rfl (hb hby at_71) kz) ?_
      show own_Go p.tables e below _ s₁ (mkF m 72 #[.val (.int p1), .val (.int p2), .val (.int p3), .val (.int p4), .val (.int (Int32.ofNat 2)), .val (.int nl), .val (.int (own_ch p2)), .val (.int (own_ch p3)), .val (.int (own_ch p4)), .unset, .unset, .unset] [(.int (2 : Int32))])
      obtain ⟨T18, h18, k18, X18, e18, E18, A18, st18⟩ := newP X0 hx hZ (hw _ (List.mem_of_getElem? (i := 0) rfl)) e0 (g := (mkF m 72 #[.val (.int p1), .val (.int p2), .val (.int p3), .val (.int p4), .val (.int (Int32.ofNat 2)), .val (.int nl), .val (.int (own_ch p2)), .val (.int (own_ch p3)), .val (.int (own_ch p4)), .unset, .unset, .unset] [(.int (2 : Int32))])) rfl (hb hby at_72) rfl (by decide) (cap := 3) (by decide) (by decide) (by decide) (by decide)
      obtain ⟨b, eq_b⟩ : ∃ z, z = (h0).size := ⟨_, rfl⟩
      rw [← eq_b] at A18 st18
      have g_b : n0 ≤ b := Nat.le_trans Z0 (Nat.le_of_eq eq_b.symm)
      have V_b : own_Av Z h18 b .char 2 (fun _ => .int 0) := own_Av.new A18 (by decide)
      refine own_go st18 ?_
      show own_Go p.tables e below _ T18 (mkF m 74 #[.val (.int p1), .val (.int p2), .val (.int p3), .val (.int p4), .val (.int (Int32.ofNat 2)), .val (.int nl), .val (.int (own_ch p2)), .val (.int (own_ch p3)), .val (.int (own_ch p4)), .unset, .unset, .unset] [(.ref b)])
      refine own_go (fun tz kz => XS.dup X18.here hx rfl (hb hby at_74) rfl rfl kz) ?_
      show own_Go p.tables e below _ T18 (mkF m 75 #[.val (.int p1), .val (.int p2), .val (.int p3), .val (.int p4), .val (.int (Int32.ofNat 2)), .val (.int nl), .val (.int (own_ch p2)), .val (.int (own_ch p3)), .val (.int (own_ch p4)), .unset, .unset, .unset] [(.ref b), (.ref b)])
      refine own_go (fun tz kz => XS.iconst X18.here hx rfl (hb hby at_75) kz) ?_
      show own_Go p.tables e below _ T18 (mkF m 76 #[.val (.int p1), .val (.int p2), .val (.int p3), .val (.int p4), .val (.int (Int32.ofNat 2)), .val (.int nl), .val (.int (own_ch p2)), .val (.int (own_ch p3)), .val (.int (own_ch p4)), .unset, .unset, .unset] [(.int (0 : Int32)), (.ref b), (.ref b)])
      refine own_go (fun tz kz => XS.iload X18.here hx rfl (hb hby at_76) rfl kz) ?_
      show own_Go p.tables e below _ T18 (mkF m 78 #[.val (.int p1), .val (.int p2), .val (.int p3), .val (.int p4), .val (.int (Int32.ofNat 2)), .val (.int nl), .val (.int (own_ch p2)), .val (.int (own_ch p3)), .val (.int (own_ch p4)), .unset, .unset, .unset] [(.int (own_ch p2)), (.int (0 : Int32)), (.ref b), (.ref b)])
      obtain ⟨c19, Ar19, Sz19, Ge19⟩ := id (V_b)
      obtain ⟨T19, h19, X19, e19, W19, st19⟩ := stC X18 hx hZ e18 Ar19 (j := (0 : Int32)) (own_inb (i := 0) Sz19 ⟨by decide, by decide⟩ (by decide)) (g := (mkF m 78 #[.val (.int p1), .val (.int p2), .val (.int p3), .val (.int p4), .val (.int (Int32.ofNat 2)), .val (.int nl), .val (.int (own_ch p2)), .val (.int (own_ch p3)), .val (.int (own_ch p4)), .unset, .unset, .unset] [(.int (own_ch p2)), (.int (0 : Int32)), (.ref b), (.ref b)])) rfl rfl (hb hby at_78)
      have V0 := own_Av.set (V_b) W19 (⟨by decide, by decide⟩ : ¬ (0 : Int32) < 0 ∧ ((0 : Int32)).toNatClampNeg = 0).2
      have N19 := Fr.snoc X19 N0 g_b
      refine own_go st19 ?_
      show own_Go p.tables e below _ T19 (mkF m 79 #[.val (.int p1), .val (.int p2), .val (.int p3), .val (.int p4), .val (.int (Int32.ofNat 2)), .val (.int nl), .val (.int (own_ch p2)), .val (.int (own_ch p3)), .val (.int (own_ch p4)), .unset, .unset, .unset] [(.ref b)])
      refine own_go (fun tz kz => XS.dup X19.here hx rfl (hb hby at_79) rfl rfl kz) ?_
      show own_Go p.tables e below _ T19 (mkF m 80 #[.val (.int p1), .val (.int p2), .val (.int p3), .val (.int p4), .val (.int (Int32.ofNat 2)), .val (.int nl), .val (.int (own_ch p2)), .val (.int (own_ch p3)), .val (.int (own_ch p4)), .unset, .unset, .unset] [(.ref b), (.ref b)])
      refine own_go (fun tz kz => XS.iconst X19.here hx rfl (hb hby at_80) kz) ?_
      show own_Go p.tables e below _ T19 (mkF m 81 #[.val (.int p1), .val (.int p2), .val (.int p3), .val (.int p4), .val (.int (Int32.ofNat 2)), .val (.int nl), .val (.int (own_ch p2)), .val (.int (own_ch p3)), .val (.int (own_ch p4)), .unset, .unset, .unset] [(.int (1 : Int32)), (.ref b), (.ref b)])
      refine own_go (fun tz kz => XS.iload X19.here hx rfl (hb hby at_81) rfl kz) ?_
      show own_Go p.tables e below _ T19 (mkF m 83 #[.val (.int p1), .val (.int p2), .val (.int p3), .val (.int p4), .val (.int (Int32.ofNat 2)), .val (.int nl), .val (.int (own_ch p2)), .val (.int (own_ch p3)), .val (.int (own_ch p4)), .unset, .unset, .unset] [(.int (own_ch p3)), (.int (1 : Int32)), (.ref b), (.ref b)])
      obtain ⟨c20, Ar20, Sz20, Ge20⟩ := id (V0)
      obtain ⟨T20, h20, X20, e20, W20, st20⟩ := stC X19 hx hZ e19 Ar20 (j := (1 : Int32)) (own_inb (i := 1) Sz20 ⟨by decide, by decide⟩ (by decide)) (g := (mkF m 83 #[.val (.int p1), .val (.int p2), .val (.int p3), .val (.int p4), .val (.int (Int32.ofNat 2)), .val (.int nl), .val (.int (own_ch p2)), .val (.int (own_ch p3)), .val (.int (own_ch p4)), .unset, .unset, .unset] [(.int (own_ch p3)), (.int (1 : Int32)), (.ref b), (.ref b)])) rfl rfl (hb hby at_83)
      have V1 := own_Av.set (V0) W20 (⟨by decide, by decide⟩ : ¬ (1 : Int32) < 0 ∧ ((1 : Int32)).toNatClampNeg = 1).2
      have N20 := Fr.snoc X20 N19 g_b
      refine own_go st20 ?_
      show own_Go p.tables e below _ T20 (mkF m 84 #[.val (.int p1), .val (.int p2), .val (.int p3), .val (.int p4), .val (.int (Int32.ofNat 2)), .val (.int nl), .val (.int (own_ch p2)), .val (.int (own_ch p3)), .val (.int (own_ch p4)), .unset, .unset, .unset] [(.ref b)])
      refine own_go (fun tz kz => XS.astore X20.here hx rfl (hb hby at_84) rfl rfl (l' := #[.val (.int p1), .val (.int p2), .val (.int p3), .val (.int p4), .val (.int (Int32.ofNat 2)), .val (.int nl), .val (.int (own_ch p2)), .val (.int (own_ch p3)), .val (.int (own_ch p4)), .val (.ref b), .unset, .unset]) rfl kz) ?_
      show own_Go p.tables e below _ T20 (mkF m 86 #[.val (.int p1), .val (.int p2), .val (.int p3), .val (.int p4), .val (.int (Int32.ofNat 2)), .val (.int nl), .val (.int (own_ch p2)), .val (.int (own_ch p3)), .val (.int (own_ch p4)), .val (.ref b), .unset, .unset] [])
      refine own_go (fun tz kz => XS.goto X20.here hx rfl (pc0 := 86) (pc' := 109) rfl (hb hby at_86) (by decide) (by decide) kz) ?_
      show own_Go p.tables e below _ T20 (mkF m 109 #[.val (.int p1), .val (.int p2), .val (.int p3), .val (.int p4), .val (.int (Int32.ofNat 2)), .val (.int nl), .val (.int (own_ch p2)), .val (.int (own_ch p3)), .val (.int (own_ch p4)), .val (.ref b), .unset, .unset] [])
      exact J109 T20 _ _ X20 e20 N20 (Nat.le_trans (Nat.le_trans (Nat.le_trans Z0 E18.1) (Keep.of_wr W19).1) (Keep.of_wr W20).1) b (((O0.ext E18).wr W19 g_b).wr W20 g_b) (by decide) (own_Av.eq V1 (fun k hk => by rcases (by omega : k = 0 ∨ k = 1) with rfl | rfl <;> exact congrArg Value.int (own_ch_ch _)))
    ·
      show own_Go p.tables e below _ s₁ (mkF m 35 #[.val (.int p1), .val (.int p2), .val (.int p3), .val (.int p4), .val (.int (Int32.ofNat 3)), .val (.int nl), .val (.int (own_ch p2)), .val (.int (own_ch p3)), .val (.int (own_ch p4)), .unset, .unset, .unset] [(.int (Int32.ofNat 3))])
      refine own_go (fun tz kz => XS.ifYes X0.here hx rfl (pc0 := 35) (pc' := 46) rfl (hb hby at_35) rfl (XT.i0_ne_t (by decide)) (by decide) (by decide) kz) ?_
      show own_Go p.tables e below _ s₁ (mkF m 46 #[.val (.int p1), .val (.int p2), .val (.int p3), .val (.int p4), .val (.int (Int32.ofNat 3)), .val (.int nl), .val (.int (own_ch p2)), .val (.int (own_ch p3)), .val (.int (own_ch p4)), .unset, .unset, .unset] [])
      refine own_go (fun tz kz => XS.iload X0.here hx rfl (hb hby at_46) rfl kz) ?_
      show own_Go p.tables e below _ s₁ (mkF m 48 #[.val (.int p1), .val (.int p2), .val (.int p3), .val (.int p4), .val (.int (Int32.ofNat 3)), .val (.int nl), .val (.int (own_ch p2)), .val (.int (own_ch p3)), .val (.int (own_ch p4)), .unset, .unset, .unset] [(.int (Int32.ofNat 3))])
      refine own_go (fun tz kz => XS.iconst X0.here hx rfl (hb hby at_48) kz) ?_
      show own_Go p.tables e below _ s₁ (mkF m 49 #[.val (.int p1), .val (.int p2), .val (.int p3), .val (.int p4), .val (.int (Int32.ofNat 3)), .val (.int nl), .val (.int (own_ch p2)), .val (.int (own_ch p3)), .val (.int (own_ch p4)), .unset, .unset, .unset] [(.int (1 : Int32)), (.int (Int32.ofNat 3))])
      refine own_go (fun tz kz => XS.icmpYes X0.here hx rfl (pc0 := 49) (pc' := 65) rfl (hb hby at_49) rfl (XT.ii_ne_t (by decide)) (by decide) (by decide) kz) ?_
      show own_Go p.tables e below _ s₁ (mkF m 65 #[.val (.int p1), .val (.int p2), .val (.int p3), .val (.int p4), .val (.int (Int32.ofNat 3)), .val (.int nl), .val (.int (own_ch p2)), .val (.int (own_ch p3)), .val (.int (own_ch p4)), .unset, .unset, .unset] [])
      refine own_go (fun tz kz => XS.iload X0.here hx rfl (hb hby at_65) rfl kz) ?_
      show own_Go p.tables e below _ s₁ (mkF m 67 #[.val (.int p1), .val (.int p2), .val (.int p3), .val (.int p4), .val (.int (Int32.ofNat 3)), .val (.int nl), .val (.int (own_ch p2)), .val (.int (own_ch p3)), .val (.int (own_ch p4)), .unset, .unset, .unset] [(.int (Int32.ofNat 3))])
      refine own_go (fun tz kz => XS.iconst X0.here hx rfl (hb hby at_67) kz) ?_
      show own_Go p.tables e below _ s₁ (mkF m 68 #[.val (.int p1), .val (.int p2), .val (.int p3), .val (.int p4), .val (.int (Int32.ofNat 3)), .val (.int nl), .val (.int (own_ch p2)), .val (.int (own_ch p3)), .val (.int (own_ch p4)), .unset, .unset, .unset] [(.int (2 : Int32)), (.int (Int32.ofNat 3))])
      refine own_go (fun tz kz => XS.icmpYes X0.here hx rfl (pc0 := 68) (pc' := 89) rfl (hb hby at_68) rfl (XT.ii_ne_t (by decide)) (by decide) (by decide) kz) ?_
      show own_Go p.tables e below _ s₁ (mkF m 89 #[.val (.int p1), .val (.int p2), .val (.int p3), .val (.int p4), .val (.int (Int32.ofNat 3)), .val (.int nl), .val (.int (own_ch p2)), .val (.int (own_ch p3)), .val (.int (own_ch p4)), .unset, .unset, .unset] [])
      refine own_go (fun tz kz => XS.iconst X0.here hx rfl (hb hby at_89) kz) ?_
      show own_Go p.tables e below _ s₁ (mkF m 90 #[.val (.int p1), .val (.int p2), .val (.int p3), .val (.int p4), .val (.int (Int32.ofNat 3)), .val (.int nl), .val (.int (own_ch p2)), .val (.int (own_ch p3)), .val (.int (own_ch p4)), .unset, .unset, .unset] [(.int (3 : Int32))])
      obtain ⟨T21, h21, k21, X21, e21, E21, A21, st21⟩ := newP X0 hx hZ (hw _ (List.mem_of_getElem? (i := 0) rfl)) e0 (g := (mkF m 90 #[.val (.int p1), .val (.int p2), .val (.int p3), .val (.int p4), .val (.int (Int32.ofNat 3)), .val (.int nl), .val (.int (own_ch p2)), .val (.int (own_ch p3)), .val (.int (own_ch p4)), .unset, .unset, .unset] [(.int (3 : Int32))])) rfl (hb hby at_90) rfl (by decide) (cap := 3) (by decide) (by decide) (by decide) (by decide)
      obtain ⟨b, eq_b⟩ : ∃ z, z = (h0).size := ⟨_, rfl⟩
      rw [← eq_b] at A21 st21
      have g_b : n0 ≤ b := Nat.le_trans Z0 (Nat.le_of_eq eq_b.symm)
      have V_b : own_Av Z h21 b .char 3 (fun _ => .int 0) := own_Av.new A21 (by decide)
      refine own_go st21 ?_
      show own_Go p.tables e below _ T21 (mkF m 92 #[.val (.int p1), .val (.int p2), .val (.int p3), .val (.int p4), .val (.int (Int32.ofNat 3)), .val (.int nl), .val (.int (own_ch p2)), .val (.int (own_ch p3)), .val (.int (own_ch p4)), .unset, .unset, .unset] [(.ref b)])
      refine own_go (fun tz kz => XS.dup X21.here hx rfl (hb hby at_92) rfl rfl kz) ?_
      show own_Go p.tables e below _ T21 (mkF m 93 #[.val (.int p1), .val (.int p2), .val (.int p3), .val (.int p4), .val (.int (Int32.ofNat 3)), .val (.int nl), .val (.int (own_ch p2)), .val (.int (own_ch p3)), .val (.int (own_ch p4)), .unset, .unset, .unset] [(.ref b), (.ref b)])
      refine own_go (fun tz kz => XS.iconst X21.here hx rfl (hb hby at_93) kz) ?_
      show own_Go p.tables e below _ T21 (mkF m 94 #[.val (.int p1), .val (.int p2), .val (.int p3), .val (.int p4), .val (.int (Int32.ofNat 3)), .val (.int nl), .val (.int (own_ch p2)), .val (.int (own_ch p3)), .val (.int (own_ch p4)), .unset, .unset, .unset] [(.int (0 : Int32)), (.ref b), (.ref b)])
      refine own_go (fun tz kz => XS.iload X21.here hx rfl (hb hby at_94) rfl kz) ?_
      show own_Go p.tables e below _ T21 (mkF m 96 #[.val (.int p1), .val (.int p2), .val (.int p3), .val (.int p4), .val (.int (Int32.ofNat 3)), .val (.int nl), .val (.int (own_ch p2)), .val (.int (own_ch p3)), .val (.int (own_ch p4)), .unset, .unset, .unset] [(.int (own_ch p2)), (.int (0 : Int32)), (.ref b), (.ref b)])
      obtain ⟨c22, Ar22, Sz22, Ge22⟩ := id (V_b)
      obtain ⟨T22, h22, X22, e22, W22, st22⟩ := stC X21 hx hZ e21 Ar22 (j := (0 : Int32)) (own_inb (i := 0) Sz22 ⟨by decide, by decide⟩ (by decide)) (g := (mkF m 96 #[.val (.int p1), .val (.int p2), .val (.int p3), .val (.int p4), .val (.int (Int32.ofNat 3)), .val (.int nl), .val (.int (own_ch p2)), .val (.int (own_ch p3)), .val (.int (own_ch p4)), .unset, .unset, .unset] [(.int (own_ch p2)), (.int (0 : Int32)), (.ref b), (.ref b)])) rfl rfl (hb hby at_96)
      have V0 := own_Av.set (V_b) W22 (⟨by decide, by decide⟩ : ¬ (0 : Int32) < 0 ∧ ((0 : Int32)).toNatClampNeg = 0).2
      have N22 := Fr.snoc X22 N0 g_b
      refine own_go st22 ?_
      show own_Go p.tables e below _ T22 (mkF m 97 #[.val (.int p1), .val (.int p2), .val (.int p3), .val (.int p4), .val (.int (Int32.ofNat 3)), .val (.int nl), .val (.int (own_ch p2)), .val (.int (own_ch p3)), .val (.int (own_ch p4)), .unset, .unset, .unset] [(.ref b)])
      refine own_go (fun tz kz => XS.dup X22.here hx rfl (hb hby at_97) rfl rfl kz) ?_
      show own_Go p.tables e below _ T22 (mkF m 98 #[.val (.int p1), .val (.int p2), .val (.int p3), .val (.int p4), .val (.int (Int32.ofNat 3)), .val (.int nl), .val (.int (own_ch p2)), .val (.int (own_ch p3)), .val (.int (own_ch p4)), .unset, .unset, .unset] [(.ref b), (.ref b)])
      refine own_go (fun tz kz => XS.iconst X22.here hx rfl (hb hby at_98) kz) ?_
      show own_Go p.tables e below _ T22 (mkF m 99 #[.val (.int p1), .val (.int p2), .val (.int p3), .val (.int p4), .val (.int (Int32.ofNat 3)), .val (.int nl), .val (.int (own_ch p2)), .val (.int (own_ch p3)), .val (.int (own_ch p4)), .unset, .unset, .unset] [(.int (1 : Int32)), (.ref b), (.ref b)])
      refine own_go (fun tz kz => XS.iload X22.here hx rfl (hb hby at_99) rfl kz) ?_
      show own_Go p.tables e below _ T22 (mkF m 101 #[.val (.int p1), .val (.int p2), .val (.int p3), .val (.int p4), .val (.int (Int32.ofNat 3)), .val (.int nl), .val (.int (own_ch p2)), .val (.int (own_ch p3)), .val (.int (own_ch p4)), .unset, .unset, .unset] [(.int (own_ch p3)), (.int (1 : Int32)), (.ref b), (.ref b)])
      obtain ⟨c23, Ar23, Sz23, Ge23⟩ := id (V0)
      obtain ⟨T23, h23, X23, e23, W23, st23⟩ := stC X22 hx hZ e22 Ar23 (j := (1 : Int32)) (own_inb (i := 1) Sz23 ⟨by decide, by decide⟩ (by decide)) (g := (mkF m 101 #[.val (.int p1), .val (.int p2), .val (.int p3), .val (.int p4), .val (.int (Int32.ofNat 3)), .val (.int nl), .val (.int (own_ch p2)), .val (.int (own_ch p3)), .val (.int (own_ch p4)), .unset, .unset, .unset] [(.int (own_ch p3)), (.int (1 : Int32)), (.ref b), (.ref b)])) rfl rfl (hb hby at_101)
      have V1 := own_Av.set (V0) W23 (⟨by decide, by decide⟩ : ¬ (1 : Int32) < 0 ∧ ((1 : Int32)).toNatClampNeg = 1).2
      have N23 := Fr.snoc X23 N22 g_b
      refine own_go st23 ?_
      show own_Go p.tables e below _ T23 (mkF m 102 #[.val (.int p1), .val (.int p2), .val (.int p3), .val (.int p4), .val (.int (Int32.ofNat 3)), .val (.int nl), .val (.int (own_ch p2)), .val (.int (own_ch p3)), .val (.int (own_ch p4)), .unset, .unset, .unset] [(.ref b)])
      refine own_go (fun tz kz => XS.dup X23.here hx rfl (hb hby at_102) rfl rfl kz) ?_
      show own_Go p.tables e below _ T23 (mkF m 103 #[.val (.int p1), .val (.int p2), .val (.int p3), .val (.int p4), .val (.int (Int32.ofNat 3)), .val (.int nl), .val (.int (own_ch p2)), .val (.int (own_ch p3)), .val (.int (own_ch p4)), .unset, .unset, .unset] [(.ref b), (.ref b)])
      refine own_go (fun tz kz => XS.iconst X23.here hx rfl (hb hby at_103) kz) ?_
      show own_Go p.tables e below _ T23 (mkF m 104 #[.val (.int p1), .val (.int p2), .val (.int p3), .val (.int p4), .val (.int (Int32.ofNat 3)), .val (.int nl), .val (.int (own_ch p2)), .val (.int (own_ch p3)), .val (.int (own_ch p4)), .unset, .unset, .unset] [(.int (2 : Int32)), (.ref b), (.ref b)])
      refine own_go (fun tz kz => XS.iload X23.here hx rfl (hb hby at_104) rfl kz) ?_
      show own_Go p.tables e below _ T23 (mkF m 106 #[.val (.int p1), .val (.int p2), .val (.int p3), .val (.int p4), .val (.int (Int32.ofNat 3)), .val (.int nl), .val (.int (own_ch p2)), .val (.int (own_ch p3)), .val (.int (own_ch p4)), .unset, .unset, .unset] [(.int (own_ch p4)), (.int (2 : Int32)), (.ref b), (.ref b)])
      obtain ⟨c24, Ar24, Sz24, Ge24⟩ := id (V1)
      obtain ⟨T24, h24, X24, e24, W24, st24⟩ := stC X23 hx hZ e23 Ar24 (j := (2 : Int32)) (own_inb (i := 2) Sz24 ⟨by decide, by decide⟩ (by decide)) (g := (mkF m 106 #[.val (.int p1), .val (.int p2), .val (.int p3), .val (.int p4), .val (.int (Int32.ofNat 3)), .val (.int nl), .val (.int (own_ch p2)), .val (.int (own_ch p3)), .val (.int (own_ch p4)), .unset, .unset, .unset] [(.int (own_ch p4)), (.int (2 : Int32)), (.ref b), (.ref b)])) rfl rfl (hb hby at_106)
      have V2 := own_Av.set (V1) W24 (⟨by decide, by decide⟩ : ¬ (2 : Int32) < 0 ∧ ((2 : Int32)).toNatClampNeg = 2).2
      have N24 := Fr.snoc X24 N23 g_b
      refine own_go st24 ?_
      show own_Go p.tables e below _ T24 (mkF m 107 #[.val (.int p1), .val (.int p2), .val (.int p3), .val (.int p4), .val (.int (Int32.ofNat 3)), .val (.int nl), .val (.int (own_ch p2)), .val (.int (own_ch p3)), .val (.int (own_ch p4)), .unset, .unset, .unset] [(.ref b)])
      refine own_go (fun tz kz => XS.astore X24.here hx rfl (hb hby at_107) rfl rfl (l' := #[.val (.int p1), .val (.int p2), .val (.int p3), .val (.int p4), .val (.int (Int32.ofNat 3)), .val (.int nl), .val (.int (own_ch p2)), .val (.int (own_ch p3)), .val (.int (own_ch p4)), .val (.ref b), .unset, .unset]) rfl kz) ?_
      show own_Go p.tables e below _ T24 (mkF m 109 #[.val (.int p1), .val (.int p2), .val (.int p3), .val (.int p4), .val (.int (Int32.ofNat 3)), .val (.int nl), .val (.int (own_ch p2)), .val (.int (own_ch p3)), .val (.int (own_ch p4)), .val (.ref b), .unset, .unset] [])
      exact J109 T24 _ _ X24 e24 N24 (Nat.le_trans (Nat.le_trans (Nat.le_trans (Nat.le_trans Z0 E21.1) (Keep.of_wr W22).1) (Keep.of_wr W23).1) (Keep.of_wr W24).1) b ((((O0.ext E21).wr W22 g_b).wr W23 g_b).wr W24 g_b) (by decide) (own_Av.eq V2 (fun k hk => by rcases (by omega : k = 0 ∨ k = 1 ∨ k = 2) with rfl | rfl | rfl <;> exact congrArg Value.int (own_ch_ch _)))
  by_cases hnl : (p1 &&& (12 : Int32)) = (12 : Int32)
  ·
    refine own_go (fun tz kz => XS.icmpNo X0.here hx rfl (hb hby at_11) rfl (XT.ii_ne_f hnl) kz) ?_
    show own_Go p.tables e below _ s₁ (mkF m 14 #[.val (.int p1), .val (.int p2), .val (.int p3), .val (.int p4), .val (.int (Int32.ofNat n)), .unset, .unset, .unset, .unset, .unset, .unset, .unset] [])
    refine own_go (fun tz kz => XS.iconst X0.here hx rfl (hb hby at_14) kz) ?_
    show own_Go p.tables e below _ s₁ (mkF m 15 #[.val (.int p1), .val (.int p2), .val (.int p3), .val (.int p4), .val (.int (Int32.ofNat n)), .unset, .unset, .unset, .unset, .unset, .unset, .unset] [(.int (1 : Int32))])
    refine own_go (fun tz kz => XS.goto X0.here hx rfl (pc0 := 15) (pc' := 19) rfl (hb hby at_15) (by decide) (by decide) kz) ?_
    show own_Go p.tables e below _ s₁ (mkF m 19 #[.val (.int p1), .val (.int p2), .val (.int p3), .val (.int p4), .val (.int (Int32.ofNat n)), .unset, .unset, .unset, .unset, .unset, .unset, .unset] [(.int (1 : Int32))])
    exact J19 _
  ·
    refine own_go (fun tz kz => XS.icmpYes X0.here hx rfl (pc0 := 11) (pc' := 18) rfl (hb hby at_11) rfl (XT.ii_ne_t hnl) (by decide) (by decide) kz) ?_
    show own_Go p.tables e below _ s₁ (mkF m 18 #[.val (.int p1), .val (.int p2), .val (.int p3), .val (.int p4), .val (.int (Int32.ofNat n)), .unset, .unset, .unset, .unset, .unset, .unset, .unset] [])
    refine own_go (fun tz kz => XS.iconst X0.here hx rfl (hb hby at_18) kz) ?_
    show own_Go p.tables e below _ s₁ (mkF m 19 #[.val (.int p1), .val (.int p2), .val (.int p3), .val (.int p4), .val (.int (Int32.ofNat n)), .unset, .unset, .unset, .unset, .unset, .unset, .unset] [(.int (0 : Int32))])
    exact J19 _
theorem own_isref {t : Term} {args : Array Value} {s : State} (h : (Jvm.Cond.isRef t).value args s none s [] = some true) : ∃ v, t.eval args s none [] s = some v ∧ (v = .null ∨ ∃ a, v = .ref a) := by
  cases ha : t.eval args s none [] s with
  | none => simp [Cond.value, ha] at h
  | some v => cases v <;> simp [Cond.value, ha] at h <;> simp
theorem own_ne0 {t : Term} {args : Array Value} {s : State} {x : Int32} (h : (Jvm.Cond.not (Jvm.Cond.eq t (Term.int 0))).value args s none s [] = some true) (ht : t.eval args s none [] s = some (.int x)) : ¬ x = 0 := by
  intro q; subst q
  simp [Cond.value, ht, Term.eval] at h
set_option maxRecDepth 65536 in
set_option maxHeartbeats 40000000 in
theorem comes_1 {Post : Tables → Env → Array Value → State → Outcome → State → Prop} (hpost : ∀ tb e args s v u, (limb_1_1.after args s (.returned v) u = true ∧ limb_1_2.after args s (.returned v) u = true ∧ True) → ReturnedEndW s (.returned v) u (Jvm.fieldLocs frame_1_writes args s ++ Jvm.arrayLocs frame_1_arrays args s ++ Jvm.staticLocs frame_1_statics s) 24 1152 → Post tb e args s (.returned v) u) :
    ArmFor flags0 classFile x code maxLocals ret World_1 tables_1 room_1 Calls_1 rest_1 Pre_1 Post := by
  intro l hfl _ _ p e ha hc hk s m args below hf hA hF happ hP
  obtain ⟨hcalls, hrest, hpre⟩ := hP
  obtain ⟨-, -, -, hnamed, -, -, -, hat⟩ := (Spec.applies_iff hf).mp happ
  obtain ⟨hg, hn⟩ := and_e (Cond.before_iff.mp (show (Jvm.Cond.and given_1 narrow_1).before args s = true from hpre))
  obtain ⟨gc, ga0⟩ := and_e hg
  obtain ⟨gv0, ga1⟩ := and_e ga0
  obtain ⟨gv1, ga2⟩ := and_e ga1
  obtain ⟨gv2, ga3⟩ := and_e ga2
  have gv3 := ga3
  obtain ⟨w0, w1, w2, w3, rfl⟩ : ∃ w0 w1 w2 w3 : Value, args = #[w0, w1, w2, w3] := by
    have hs : args.size = 4 := by simpa [Cond.value, given_1] using gc
    obtain ⟨L⟩ := args
    match L, hs with
    | [w0, w1, w2, w3], _ => exact ⟨w0, w1, w2, w3, rfl⟩
  have hw := fun d (hd : d ∈ tables_1) => atoms_spec (ws := Jvm.Cond.code x code maxLocals ret :: tables_1) hat d (List.mem_cons_of_mem _ hd)
  have hfit : Fit s := fun {y c} hc i hi => by
    obtain ⟨ha, rfl⟩ := Array.getElem?_eq_some_iff.mp hc
    have q := List.all_eq_true.mp ((Array.all_eq_true_iff_forall_mem.mp hF) _ (Array.getElem_mem ha)) i (List.mem_range.mpr hi)
    simpa [Array.getElem?_eq_getElem hi] using q
  obtain ⟨hsets, hown0⟩ := atoms_of _ (rest_1_c_eq ▸ (show rest_1_c.before _ s = true from hrest))
  have hr0 := Cond.before_iff.mp hown0
  obtain ⟨i0, ei0⟩ := is_v gv0
  obtain rfl : w0 = (.int i0) := Option.some.inj ei0
  obtain ⟨i1, ei1⟩ := is_v gv1
  obtain rfl : w1 = (.int i1) := Option.some.inj ei1
  obtain ⟨i2, ei2⟩ := is_v gv2
  obtain rfl : w2 = (.int i2) := Option.some.inj ei2
  obtain ⟨i3, ei3⟩ := is_v gv3
  obtain rfl : w3 = (.int i3) := Option.some.inj ei3
  obtain ⟨cs, vcs⟩ := is_v (Cond.before_iff.mp (hsets _ (List.mem_of_getElem? (i := 1) rfl)))
  have hcs := own_ne0 (Cond.before_iff.mp (hsets _ (List.mem_of_getElem? (i := 2) rfl))) vcs
  have SC := Sta.start vcs (Or.inl (hsets _ (List.mem_of_getElem? (i := 0) rfl)))
  obtain ⟨sf, vsf, hsf⟩ := own_isref (Cond.before_iff.mp (hsets _ (List.mem_of_getElem? (i := 8) rfl)))
  have SF := Sta.start vsf (Or.inl (hsets _ (List.mem_of_getElem? (i := 7) rfl)))
  have AD := Sta.start (own_eqi (Cond.before_iff.mp (hsets _ (List.mem_of_getElem? (i := 12) rfl))) (Term.int_eval (1))) (Or.inl (hsets _ (List.mem_of_getElem? (i := 11) rfl)))
  have HB := Sta.start (own_eqi (Cond.before_iff.mp (hsets _ (List.mem_of_getElem? (i := 15) rfl))) (Term.int_eval (0))) (Or.inl (hsets _ (List.mem_of_getElem? (i := 14) rfl)))
  have LB := Sta.start (own_eqi (Cond.before_iff.mp (hsets _ (List.mem_of_getElem? (i := 18) rfl))) (Term.int_eval (8))) (Or.inl (hsets _ (List.mem_of_getElem? (i := 17) rfl)))
  have hEL : EW s _ own_EL := EW.cons (hw _ (List.mem_of_getElem? (i := 14) rfl)) (fun c hc => by simp at hc) EW.nil
  have hCH : CHv s own_EL s.vm s.heap := CHv.start hEL (fun p hp => hcalls.1 p hp) (hsets _ (List.mem_of_getElem? (i := 2) rfl)) (hw _ (List.mem_of_getElem? (i := 15) rfl)) (hw _ (List.mem_of_getElem? (i := 2) rfl))
  obtain ⟨n, o, h1, h2, h3, _, L, rfl, ⟨rfl, N⟩, hq⟩ := rm0 l s _ hw tables_1 i0 i1 i2 i3 cs sf s.heap s.heap.size (Nat.le_refl _) SC hcs SF hsf AD HB LB (Old.start s) p e ha hc hk s m _ below hf ((Spec.applies_iff_loose hf).mp happ).1 ⟨rfl, State.Warmed39.refl s, rfl, hCH⟩ trivial
  exact ⟨n, _, h1, h2, h3, hpost _ _ _ _ _ _ ⟨Cond.after_iff.mpr rfl, Cond.after_iff.mpr (eq_i res_at (Term.int_eval (1)) rfl), trivial⟩ ⟨hq.1, hq.2.1, hq.2.2.1, (hq.2.2.2.sift fun y hy => Or.inr (N y hy)).mono (by decide) (by decide)⟩⟩
theorem main_1_1 : Claimed_1_1 := comes_1 fun _ _ _ _ _ _ h hF => ⟨h.1, hF⟩
theorem main_1_2 : Claimed_1_2 := comes_1 fun _ _ _ _ _ _ h hF => ⟨h.2.1, hF⟩
end Jvm.Pilot.@@N@@
namespace Jvm.Pilot.@@N@@
open Jvm Jvm.ClassFile Sem Op Lib Jvm.Free Jvm.Stand Jvm.Pilot.@@N@@.Jvm.D
/-! MADE BY PROGRAM (witnessworld.py) out of the Statement's table words and the real class files: 21 classes; the members and pool entries that the words name. The judged class is class 1, her method 2. -/
namespace start1
open Jvm.ClassFile
def u (s : String) : CpInfo := .utf8 (stringToUtf16 s)
/-- a pool by its gaps: so many unusable entries, then the entry; so many at the end -/
def gap : Nat → List CpInfo → List CpInfo
  | 0, r => r
  | n + 1, r => .unusable :: gap n r
def poolList (es : List (Nat × CpInfo)) (last : Nat) : List CpInfo := es.foldr (fun e r => gap e.1 (e.2 :: r)) (gap last [])
def pool (es : List (Nat × CpInfo)) (last : Nat) : Array CpInfo := ⟨poolList es last⟩
def fileOf (pool : Array CpInfo) (this : Nat) (attrs : Array Attribute := #[]) (ms : Array MethodInfo := #[]) (fl : Nat := 33) (sup : Nat := 0) (ifs : Array Nat := #[]) (fds : Array FieldInfo := #[]) : ClassFile where
  minorVersion := 0
  majorVersion := 65
  constantPool := pool
  accessFlags := fl
  thisClass := this
  superClass := sup
  interfaces := ifs
  fields := fds
  methods := ms
  attributes := attrs
def plain (name : String) (sup : Option ClassId) : Class where
  name := name
  kind := .ordinary
  loader := none
  accessFlags := 33
  super := sup
  interfaces := #[]
  cf := none
  fields := #[]
  methods := #[]
  instanceTypes := #[]
  staticTypes := #[]
  resolved := #[]
  callSites := []
  init := .initialized
  statics := none
  mirror := none

def pool0 : Array CpInfo := pool [(5, u "<init>"), (0, u "()V"), (1, .class_ 10), (1, u "java/lang/Object")] 113

def k0c0 : Code := { maxStack := 0, maxLocals := 1, code := object_method_1_code, exceptionTable := #[], attributes := #[] }
def k0m0 : Method := { name := "<init>", desc := "()V", sig := { parameters := [], returnType := none }, accessFlags := 1, code := some k0c0 }
/-- java/lang/Object -/
def k0 : Class := { plain "java/lang/Object" none with
  accessFlags := 33
  interfaces := #[]
  cf := some (fileOf pool0 8 #[] #[{ accessFlags := 1, nameIndex := 5, descriptorIndex := 6, attributes := #[] }] 33 0 #[] #[])
  fields := #[]
  methods := #[k0m0]
  instanceTypes := #[]
  staticTypes := #[]
  resolved := Array.replicate 124 none
  statics := none }

def pool1 : Array CpInfo := pool [(2, .class_ 4), (1, u "java/lang/Object"), (0, u "<init>"), (0, u "()V"), (0, .class_ 8), (0, u "java/lang/String"), (0, .methodref 7 10), (0, .nameAndType 5 11), (0, u "([C)V"), (0, .methodref 13 14), (0, .class_ 15), (0, .nameAndType 16 17), (0, u "com/example/scriptwire/scriptwire/script/PdmpStateIsCodePinLaw"), (0, u "upper"), (0, u "(C)Z"), (0, .methodref 19 20), (0, .class_ 21), (0, .nameAndType 22 23), (0, u "com/example/scriptwire/scriptwire/script/PdmpState"), (0, u "isCode"), (0, u "(Ljava/lang/String;)Z"), (3, u "law"), (0, u "(IIII)Z")] 4

def k1m0 : Method := { name := "<init>", desc := "()V", sig := { parameters := [], returnType := none }, accessFlags := 2, code := none }
def k1c1 : Code := { maxStack := 2, maxLocals := 1, code := method_2_code, exceptionTable := #[], attributes := #[] }
def k1m1 : Method := { name := "upper", desc := "(C)Z", sig := { parameters := [.char], returnType := some .boolean }, accessFlags := 10, code := some k1c1 }
def k1c2 : Code := { maxStack := 4, maxLocals := 12, code := code, exceptionTable := #[], attributes := #[] }
def k1m2 : Method := { name := "law", desc := "(IIII)Z", sig := { parameters := [.int, .int, .int, .int], returnType := some .boolean }, accessFlags := 9, code := some k1c2 }
/-- com/example/scriptwire/scriptwire/script/PdmpStateIsCodePinLaw -/
def k1 : Class := { plain "com/example/scriptwire/scriptwire/script/PdmpStateIsCodePinLaw" (some 0) with
  accessFlags := 49
  interfaces := #[]
  cf := some (fileOf pool1 13 #[] #[{ accessFlags := 2, nameIndex := 5, descriptorIndex := 6, attributes := #[] }, { accessFlags := 10, nameIndex := 16, descriptorIndex := 17, attributes := #[] }, { accessFlags := 9, nameIndex := 27, descriptorIndex := 28, attributes := #[] }] 49 2 #[] #[])
  fields := #[]
  methods := #[k1m0, k1m1, k1m2]
  instanceTypes := #[]
  staticTypes := #[]
  resolved := Array.replicate 33 none
  statics := none }

def pool2 : Array CpInfo := pool [(1, .class_ 2), (0, u "java/io/Serializable"), (0, .class_ 4), (0, u "java/lang/Object")] 2

/-- java/io/Serializable -/
def k2 : Class := { plain "java/io/Serializable" (some 0) with
  accessFlags := 1537
  interfaces := #[]
  cf := some (fileOf pool2 1 #[] #[] 1537 3 #[] #[])
  fields := #[]
  methods := #[]
  instanceTypes := #[]
  staticTypes := #[]
  resolved := Array.replicate 7 none
  statics := none }

def pool3 : Array CpInfo := pool [(1, .class_ 2), (0, u "java/lang/Comparable"), (0, .class_ 4), (0, u "java/lang/Object")] 7

/-- java/lang/Comparable -/
def k3 : Class := { plain "java/lang/Comparable" (some 0) with
  accessFlags := 1537
  interfaces := #[]
  cf := some (fileOf pool3 1 #[] #[] 1537 3 #[] #[])
  fields := #[]
  methods := #[]
  instanceTypes := #[]
  staticTypes := #[]
  resolved := Array.replicate 12 none
  statics := none }

def pool4 : Array CpInfo := pool [(2, .class_ 4), (1, u "java/lang/CharSequence"), (42, .class_ 48), (0, u "java/lang/CharSequence$1CodePointIterator"), (10, .class_ 60), (0, u "java/lang/CharSequence$1CharIterator"), (5, .class_ 67), (0, u "java/lang/Object")] 63

/-- java/lang/CharSequence -/
def k4 : Class := { plain "java/lang/CharSequence" (some 0) with
  accessFlags := 1537
  interfaces := #[]
  cf := some (fileOf pool4 2 #[.nestMembers #[47, 59]] #[] 1537 66 #[] #[])
  fields := #[]
  methods := #[]
  instanceTypes := #[]
  staticTypes := #[]
  resolved := Array.replicate 131 none
  statics := none }

def pool5 : Array CpInfo := pool [(1, .class_ 2), (0, u "java/lang/constant/Constable"), (0, .class_ 4), (0, u "java/lang/Object")] 6

/-- java/lang/constant/Constable -/
def k5 : Class := { plain "java/lang/constant/Constable" (some 0) with
  accessFlags := 1537
  interfaces := #[]
  cf := some (fileOf pool5 1 #[] #[] 1537 3 #[] #[])
  fields := #[]
  methods := #[]
  instanceTypes := #[]
  staticTypes := #[]
  resolved := Array.replicate 11 none
  statics := none }

def pool6 : Array CpInfo := pool [(1, .class_ 2), (0, u "java/lang/constant/ConstantDesc"), (0, .class_ 4), (0, u "java/lang/Object")] 32

/-- java/lang/constant/ConstantDesc -/
def k6 : Class := { plain "java/lang/constant/ConstantDesc" (some 0) with
  accessFlags := 1537
  interfaces := #[]
  cf := some (fileOf pool6 1 #[] #[] 1537 3 #[] #[])
  fields := #[]
  methods := #[]
  instanceTypes := #[]
  staticTypes := #[]
  resolved := Array.replicate 37 none
  statics := none }

def pool7 : Array CpInfo := pool [(1, .methodref 2 3), (0, .class_ 4), (0, .nameAndType 5 6), (0, u "java/lang/Object"), (0, u "<init>"), (0, u "()V"), (0, .string 8), (0, u ""), (0, .fieldref 10 11), (0, .class_ 12), (0, .nameAndType 13 14), (0, u "java/lang/String"), (0, u "value"), (0, u "[B"), (0, .fieldref 10 16), (0, .nameAndType 17 18), (0, u "coder"), (0, u "B"), (2, u "hash"), (0, u "I"), (2, u "hashIsZero"), (0, u "Z"), (0, .methodref 10 28), (0, .nameAndType 5 29), (0, u "([CIILjava/lang/Void;)V"), (8, .fieldref 10 39), (0, .nameAndType 40 26), (0, u "COMPACT_STRINGS"), (1, .class_ 44), (1, u "java/lang/StringUTF16"), (0, u "compress"), (1, .methodref 42 48), (0, .nameAndType 49 50), (0, u "coderFromArrayLen"), (0, u "([BI)B"), (56, .class_ 109), (1, u "java/lang/StringLatin1"), (32, u "()Z"), (34, .methodref 42 178), (0, .nameAndType 45 179), (0, u "([CII)[B"), (154, u "()I"), (0, .methodref 10 336), (0, .nameAndType 17 337), (0, u "()B"), (25, u "([BI)C"), (27, u "(II)V"), (35, u "(I)C"), (64, .methodref 10 493), (0, .nameAndType 494 142), (0, u "isLatin1"), (0, .methodref 107 496), (0, .nameAndType 497 363), (0, u "charAt"), (0, .methodref 42 496), (2, u "checkIndex"), (5, u "length"), (67, .class_ 576), (0, u "java/lang/CharSequence"), (22, u "CASE_INSENSITIVE_ORDER"), (0, u "Ljava/util/Comparator;"), (409, u "([C)V"), (42, .fieldref 1054 1055), (0, .class_ 1056), (0, .nameAndType 1057 1058), (0, u "jdk/internal/util/Preconditions"), (0, u "SIOOBE_FORMATTER"), (0, u "Ljava/util/function/BiFunction;"), (0, .methodref 1054 1060), (0, .nameAndType 501 1061), (0, u "(IILjava/util/function/BiFunction;)I"), (39, u "serialPersistentFields"), (0, u "[Ljava/io/ObjectStreamField;"), (0, .class_ 1104), (0, u "java/lang/String$CaseInsensitiveComparator"), (1, .class_ 1107), (0, u "java/io/Serializable"), (0, .class_ 1109), (0, u "java/lang/Comparable"), (0, .class_ 1111), (0, u "java/lang/constant/Constable"), (0, .class_ 1113), (0, u "java/lang/constant/ConstantDesc"), (2, u "serialVersionUID"), (0, u "J"), (3, u "REPL"), (0, u "C"), (2, u "LATIN1"), (1, u "UTF16")] 323

def k7m0 : Method := { name := "<init>", desc := "()V", sig := { parameters := [], returnType := none }, accessFlags := 1, code := none }
def k7c1 : Code := { maxStack := 5, maxLocals := 2, code := jdk_42_method_3_code, exceptionTable := #[], attributes := #[] }
def k7m1 : Method := { name := "<init>", desc := "([C)V", sig := { parameters := [(.array .char)], returnType := none }, accessFlags := 1, code := some k7c1 }
def k7c2 : Code := { maxStack := 2, maxLocals := 1, code := jdk_42_method_54_code, exceptionTable := #[], attributes := #[] }
def k7m2 : Method := { name := "length", desc := "()I", sig := { parameters := [], returnType := some .int }, accessFlags := 1, code := some k7c2 }
def k7c3 : Code := { maxStack := 2, maxLocals := 2, code := jdk_42_method_56_code, exceptionTable := #[], attributes := #[] }
def k7m3 : Method := { name := "charAt", desc := "(I)C", sig := { parameters := [.int], returnType := some .char }, accessFlags := 1, code := some k7c3 }
def k7c4 : Code := { maxStack := 4, maxLocals := 6, code := jdk_42_method_149_code, exceptionTable := #[], attributes := #[] }
def k7m4 : Method := { name := "<init>", desc := "([CIILjava/lang/Void;)V", sig := { parameters := [(.array .char), .int, .int, (.object "java/lang/Void")], returnType := none }, accessFlags := 2, code := some k7c4 }
def k7c5 : Code := { maxStack := 1, maxLocals := 1, code := jdk_42_method_152_code, exceptionTable := #[], attributes := #[] }
def k7m5 : Method := { name := "coder", desc := "()B", sig := { parameters := [], returnType := some .byte }, accessFlags := 0, code := some k7c5 }
def k7c6 : Code := { maxStack := 1, maxLocals := 1, code := jdk_42_method_154_code, exceptionTable := #[], attributes := #[] }
def k7m6 : Method := { name := "isLatin1", desc := "()Z", sig := { parameters := [], returnType := some .boolean }, accessFlags := 0, code := some k7c6 }
def k7c7 : Code := { maxStack := 3, maxLocals := 2, code := jdk_42_method_155_code, exceptionTable := #[], attributes := #[] }
def k7m7 : Method := { name := "checkIndex", desc := "(II)V", sig := { parameters := [.int, .int], returnType := none }, accessFlags := 8, code := some k7c7 }
/-- java/lang/String -/
def k7 : Class := { plain "java/lang/String" (some 0) with
  accessFlags := 49
  interfaces := #[2, 3, 4, 5, 6]
  cf := some (fileOf pool7 10 #[.nestMembers #[1103]] #[{ accessFlags := 1, nameIndex := 5, descriptorIndex := 6, attributes := #[] }, { accessFlags := 1, nameIndex := 5, descriptorIndex := 1010, attributes := #[] }, { accessFlags := 1, nameIndex := 507, descriptorIndex := 334, attributes := #[] }, { accessFlags := 1, nameIndex := 497, descriptorIndex := 427, attributes := #[] }, { accessFlags := 2, nameIndex := 5, descriptorIndex := 29, attributes := #[] }, { accessFlags := 0, nameIndex := 17, descriptorIndex := 337, attributes := #[] }, { accessFlags := 0, nameIndex := 494, descriptorIndex := 142, attributes := #[] }, { accessFlags := 8, nameIndex := 501, descriptorIndex := 391, attributes := #[] }] 49 2 #[1106, 1108, 575, 1110, 1112] #[{ accessFlags := 18, nameIndex := 13, descriptorIndex := 14, attributes := #[] }, { accessFlags := 18, nameIndex := 17, descriptorIndex := 18, attributes := #[] }, { accessFlags := 2, nameIndex := 21, descriptorIndex := 22, attributes := #[] }, { accessFlags := 2, nameIndex := 25, descriptorIndex := 26, attributes := #[] }, { accessFlags := 26, nameIndex := 1116, descriptorIndex := 1117, attributes := #[] }, { accessFlags := 24, nameIndex := 40, descriptorIndex := 26, attributes := #[] }, { accessFlags := 26, nameIndex := 1101, descriptorIndex := 1102, attributes := #[] }, { accessFlags := 26, nameIndex := 1121, descriptorIndex := 1122, attributes := #[] }, { accessFlags := 25, nameIndex := 599, descriptorIndex := 600, attributes := #[] }, { accessFlags := 24, nameIndex := 1125, descriptorIndex := 18, attributes := #[] }, { accessFlags := 24, nameIndex := 1127, descriptorIndex := 18, attributes := #[] }])
  fields := #[{ name := "value", type := (.array .byte), accessFlags := 18, slot := 0, constantValue := 0 }, { name := "coder", type := .byte, accessFlags := 18, slot := 1, constantValue := 0 }, { name := "hash", type := .int, accessFlags := 2, slot := 2, constantValue := 0 }, { name := "hashIsZero", type := .boolean, accessFlags := 2, slot := 3, constantValue := 0 }, { name := "serialVersionUID", type := .long, accessFlags := 26, slot := 0, constantValue := 0 }, { name := "COMPACT_STRINGS", type := .boolean, accessFlags := 24, slot := 1, constantValue := 0 }, { name := "serialPersistentFields", type := (.array (.object "java/io/ObjectStreamField")), accessFlags := 26, slot := 2, constantValue := 0 }, { name := "REPL", type := .char, accessFlags := 26, slot := 3, constantValue := 0 }, { name := "CASE_INSENSITIVE_ORDER", type := (.object "java/util/Comparator"), accessFlags := 25, slot := 4, constantValue := 0 }, { name := "LATIN1", type := .byte, accessFlags := 24, slot := 5, constantValue := 0 }, { name := "UTF16", type := .byte, accessFlags := 24, slot := 6, constantValue := 0 }]
  methods := #[k7m0, k7m1, k7m2, k7m3, k7m4, k7m5, k7m6, k7m7]
  instanceTypes := #[(.array .byte), .byte, .int, .boolean]
  staticTypes := #[.long, .boolean, (.array (.object "java/io/ObjectStreamField")), .char, (.object "java/util/Comparator"), .byte, .byte]
  resolved := Array.replicate 1451 none
  statics := some 0 }

def pool8 : Array CpInfo := pool [(2, .class_ 4), (1, u "java/lang/Object"), (0, u "<init>"), (0, u "()V"), (0, .class_ 8), (0, u "java/lang/Record")] 13

def k8m0 : Method := { name := "<init>", desc := "()V", sig := { parameters := [], returnType := none }, accessFlags := 4, code := none }
/-- java/lang/Record -/
def k8 : Class := { plain "java/lang/Record" (some 0) with
  accessFlags := 1057
  interfaces := #[]
  cf := some (fileOf pool8 7 #[] #[{ accessFlags := 4, nameIndex := 5, descriptorIndex := 6, attributes := #[] }] 1057 2 #[] #[])
  fields := #[]
  methods := #[k8m0]
  instanceTypes := #[]
  staticTypes := #[]
  resolved := Array.replicate 22 none
  statics := none }

def pool9 : Array CpInfo := pool [(2, .class_ 4), (1, u "java/lang/Record"), (3, .class_ 10), (1, u "com/example/scriptwire/scriptwire/script/PdmpState"), (0, u "stateProvince"), (0, u "Ljava/lang/String;"), (2, u "reasonCode"), (8, .class_ 25), (0, u "java/lang/String"), (4, .methodref 24 31), (0, .nameAndType 32 33), (0, u "length"), (0, u "()I"), (0, .methodref 24 35), (0, .nameAndType 36 37), (0, u "charAt"), (0, u "(I)C"), (12, u "CODE_LENGTH"), (0, u "I"), (2, u "NO_CODE"), (6, u "isCode"), (0, u "(Ljava/lang/String;)Z")] 31

def k9c0 : Code := { maxStack := 2, maxLocals := 3, code := prog_59_method_3_code, exceptionTable := #[], attributes := #[] }
def k9m0 : Method := { name := "isCode", desc := "(Ljava/lang/String;)Z", sig := { parameters := [(.object "java/lang/String")], returnType := some .boolean }, accessFlags := 9, code := some k9c0 }
/-- com/example/scriptwire/scriptwire/script/PdmpState -/
def k9 : Class := { plain "com/example/scriptwire/scriptwire/script/PdmpState" (some 8) with
  accessFlags := 49
  interfaces := #[]
  cf := some (fileOf pool9 8 #[] #[{ accessFlags := 9, nameIndex := 61, descriptorIndex := 62, attributes := #[] }] 49 2 #[] #[{ accessFlags := 18, nameIndex := 11, descriptorIndex := 12, attributes := #[] }, { accessFlags := 18, nameIndex := 15, descriptorIndex := 12, attributes := #[] }, { accessFlags := 26, nameIndex := 50, descriptorIndex := 51, attributes := #[] }, { accessFlags := 26, nameIndex := 54, descriptorIndex := 12, attributes := #[] }])
  fields := #[{ name := "stateProvince", type := (.object "java/lang/String"), accessFlags := 18, slot := 0, constantValue := 0 }, { name := "reasonCode", type := (.object "java/lang/String"), accessFlags := 18, slot := 1, constantValue := 0 }, { name := "CODE_LENGTH", type := .int, accessFlags := 26, slot := 0, constantValue := 0 }, { name := "NO_CODE", type := (.object "java/lang/String"), accessFlags := 26, slot := 1, constantValue := 0 }]
  methods := #[k9m0]
  instanceTypes := #[(.object "java/lang/String"), (.object "java/lang/String")]
  staticTypes := #[.int, (.object "java/lang/String")]
  resolved := Array.replicate 94 none
  statics := none }

def pool10 : Array CpInfo := pool [(3, .class_ 4), (0, u "java/lang/String"), (1, .class_ 8), (1, u "java/lang/Object"), (0, u "<init>"), (0, u "()V"), (0, .methodref 12 13), (0, .class_ 14), (0, .nameAndType 15 16), (0, u "java/lang/StringUTF16"), (0, u "newBytesLength"), (0, u "(I)I"), (3, .integer 1073741823), (23, .fieldref 12 45), (0, .nameAndType 46 47), (0, u "$assertionsDisabled"), (0, u "Z"), (0, .methodref 12 49), (0, .nameAndType 50 51), (0, u "length"), (0, u "([B)I"), (7, .fieldref 12 60), (0, .nameAndType 61 62), (0, u "HI_BYTE_SHIFT"), (0, u "I"), (0, .fieldref 12 64), (0, .nameAndType 65 62), (0, u "LO_BYTE_SHIFT"), (1, .methodref 12 68), (0, .nameAndType 69 70), (0, u "checkIndex"), (0, u "(I[B)V"), (0, .methodref 12 72), (0, .nameAndType 73 74), (0, u "getChar"), (0, u "([BI)C"), (32, .methodref 12 108), (0, .nameAndType 109 110), (0, u "newBytesFor"), (0, u "(I)[B"), (0, .methodref 12 112), (0, .nameAndType 113 114), (0, u "putChar"), (0, u "([BII)V"), (0, .methodref 12 116), (0, .nameAndType 117 118), (0, u "compress"), (0, u "([CI[BII)I"), (0, .methodref 12 120), (0, .nameAndType 121 122), (0, u "toBytes"), (0, u "([CII)[B"), (138, u "coderFromArrayLen"), (0, u "([BI)B"), (106, .class_ 371), (1, u "java/lang/StringUTF16$LinesSpliterator"), (20, u "charAt"), (21, .methodref 3 415), (0, .nameAndType 69 416), (0, u "(II)V"), (13, u "MAX_LENGTH"), (196, .class_ 628), (0, u "java/lang/StringUTF16$CodePointsSpliterator"), (0, .class_ 630), (0, u "java/lang/StringUTF16$CharsSpliterator")] 4

def k10m0 : Method := { name := "<init>", desc := "()V", sig := { parameters := [], returnType := none }, accessFlags := 0, code := none }
def k10c1 : Code := { maxStack := 1, maxLocals := 1, code := jdk_52_method_2_code, exceptionTable := #[], attributes := #[] }
def k10m1 : Method := { name := "newBytesFor", desc := "(I)[B", sig := { parameters := [.int], returnType := some (.array .byte) }, accessFlags := 9, code := some k10c1 }
def k10c2 : Code := { maxStack := 4, maxLocals := 1, code := jdk_52_method_3_code, exceptionTable := #[], attributes := #[] }
def k10m2 : Method := { name := "newBytesLength", desc := "(I)I", sig := { parameters := [.int], returnType := some .int }, accessFlags := 9, code := some k10c2 }
def k10c3 : Code := { maxStack := 4, maxLocals := 3, code := jdk_52_method_4_code, exceptionTable := #[], attributes := #[] }
def k10m3 : Method := { name := "putChar", desc := "([BII)V", sig := { parameters := [(.array .byte), .int, .int], returnType := none }, accessFlags := 8, code := some k10c3 }
def k10c4 : Code := { maxStack := 3, maxLocals := 2, code := jdk_52_method_5_code, exceptionTable := #[], attributes := #[] }
def k10m4 : Method := { name := "getChar", desc := "([BI)C", sig := { parameters := [(.array .byte), .int], returnType := some .char }, accessFlags := 8, code := some k10c4 }
def k10c5 : Code := { maxStack := 2, maxLocals := 1, code := jdk_52_method_6_code, exceptionTable := #[], attributes := #[] }
def k10m5 : Method := { name := "length", desc := "([B)I", sig := { parameters := [(.array .byte)], returnType := some .int }, accessFlags := 9, code := some k10c5 }
def k10c6 : Code := { maxStack := 4, maxLocals := 5, code := jdk_52_method_14_code, exceptionTable := #[], attributes := #[] }
def k10m6 : Method := { name := "toBytes", desc := "([CII)[B", sig := { parameters := [(.array .char), .int, .int], returnType := some (.array .byte) }, accessFlags := 9, code := some k10c6 }
def k10c7 : Code := { maxStack := 2, maxLocals := 2, code := jdk_52_method_15_code, exceptionTable := #[], attributes := #[] }
def k10m7 : Method := { name := "coderFromArrayLen", desc := "([BI)B", sig := { parameters := [(.array .byte), .int], returnType := some .byte }, accessFlags := 8, code := some k10c7 }
def k10c8 : Code := { maxStack := 5, maxLocals := 6, code := jdk_52_method_16_code, exceptionTable := #[], attributes := #[] }
def k10m8 : Method := { name := "compress", desc := "([CII)[B", sig := { parameters := [(.array .char), .int, .int], returnType := some (.array .byte) }, accessFlags := 9, code := some k10c8 }
def k10c9 : Code := { maxStack := 3, maxLocals := 7, code := jdk_52_method_21_code, exceptionTable := #[], attributes := #[] }
def k10m9 : Method := { name := "compress", desc := "([CI[BII)I", sig := { parameters := [(.array .char), .int, (.array .byte), .int, .int], returnType := some .int }, accessFlags := 9, code := some k10c9 }
def k10c10 : Code := { maxStack := 2, maxLocals := 2, code := jdk_52_method_83_code, exceptionTable := #[], attributes := #[] }
def k10m10 : Method := { name := "charAt", desc := "([BI)C", sig := { parameters := [(.array .byte), .int], returnType := some .char }, accessFlags := 9, code := some k10c10 }
def k10c11 : Code := { maxStack := 2, maxLocals := 2, code := jdk_52_method_91_code, exceptionTable := #[], attributes := #[] }
def k10m11 : Method := { name := "checkIndex", desc := "(I[B)V", sig := { parameters := [.int, (.array .byte)], returnType := none }, accessFlags := 9, code := some k10c11 }
/-- java/lang/StringUTF16 -/
def k10 : Class := { plain "java/lang/StringUTF16" (some 0) with
  accessFlags := 48
  interfaces := #[]
  cf := some (fileOf pool10 12 #[.nestMembers #[627, 629, 369]] #[{ accessFlags := 0, nameIndex := 9, descriptorIndex := 10, attributes := #[] }, { accessFlags := 9, nameIndex := 109, descriptorIndex := 110, attributes := #[] }, { accessFlags := 9, nameIndex := 15, descriptorIndex := 16, attributes := #[] }, { accessFlags := 8, nameIndex := 113, descriptorIndex := 114, attributes := #[] }, { accessFlags := 8, nameIndex := 73, descriptorIndex := 74, attributes := #[] }, { accessFlags := 9, nameIndex := 50, descriptorIndex := 51, attributes := #[] }, { accessFlags := 9, nameIndex := 121, descriptorIndex := 122, attributes := #[] }, { accessFlags := 8, nameIndex := 261, descriptorIndex := 262, attributes := #[] }, { accessFlags := 9, nameIndex := 117, descriptorIndex := 122, attributes := #[] }, { accessFlags := 9, nameIndex := 117, descriptorIndex := 118, attributes := #[] }, { accessFlags := 9, nameIndex := 392, descriptorIndex := 74, attributes := #[] }, { accessFlags := 9, nameIndex := 69, descriptorIndex := 70, attributes := #[] }] 48 6 #[] #[{ accessFlags := 26, nameIndex := 61, descriptorIndex := 62, attributes := #[] }, { accessFlags := 26, nameIndex := 65, descriptorIndex := 62, attributes := #[] }, { accessFlags := 24, nameIndex := 430, descriptorIndex := 62, attributes := #[] }, { accessFlags := 4120, nameIndex := 46, descriptorIndex := 47, attributes := #[] }])
  fields := #[{ name := "HI_BYTE_SHIFT", type := .int, accessFlags := 26, slot := 0, constantValue := 0 }, { name := "LO_BYTE_SHIFT", type := .int, accessFlags := 26, slot := 1, constantValue := 0 }, { name := "MAX_LENGTH", type := .int, accessFlags := 24, slot := 2, constantValue := 0 }, { name := "$assertionsDisabled", type := .boolean, accessFlags := 4120, slot := 3, constantValue := 0 }]
  methods := #[k10m0, k10m1, k10m2, k10m3, k10m4, k10m5, k10m6, k10m7, k10m8, k10m9, k10m10, k10m11]
  instanceTypes := #[]
  staticTypes := #[.int, .int, .int, .boolean]
  resolved := Array.replicate 635 none
  statics := some 1 }

def pool11 : Array CpInfo := pool [(2, .class_ 4), (1, u "java/lang/Object"), (0, u "<init>"), (0, u "()V"), (17, .class_ 26), (1, u "jdk/internal/util/Preconditions"), (6, u "checkIndex"), (21, .class_ 56), (0, u "jdk/internal/util/Preconditions$4"), (57, .class_ 115), (0, u "jdk/internal/util/Preconditions$1"), (7, u "SIOOBE_FORMATTER"), (0, u "Ljava/util/function/BiFunction;"), (0, .class_ 126), (0, u "jdk/internal/util/Preconditions$2"), (3, u "AIOOBE_FORMATTER"), (0, .class_ 132), (0, u "jdk/internal/util/Preconditions$3"), (3, u "IOOBE_FORMATTER"), (41, u "(IILjava/util/function/BiFunction;)I")] 15

def k11m0 : Method := { name := "<init>", desc := "()V", sig := { parameters := [], returnType := none }, accessFlags := 1, code := none }
def k11c1 : Code := { maxStack := 3, maxLocals := 3, code := jdk_41_method_11_code, exceptionTable := #[], attributes := #[] }
def k11m1 : Method := { name := "checkIndex", desc := "(IILjava/util/function/BiFunction;)I", sig := { parameters := [.int, .int, (.object "java/util/function/BiFunction")], returnType := some .int }, accessFlags := 9, code := some k11c1 }
/-- jdk/internal/util/Preconditions -/
def k11 : Class := { plain "jdk/internal/util/Preconditions" (some 0) with
  accessFlags := 33
  interfaces := #[]
  cf := some (fileOf pool11 24 #[.nestMembers #[55, 131, 125, 114]] #[{ accessFlags := 1, nameIndex := 5, descriptorIndex := 6, attributes := #[] }, { accessFlags := 9, nameIndex := 33, descriptorIndex := 178, attributes := #[] }] 33 2 #[] #[{ accessFlags := 25, nameIndex := 123, descriptorIndex := 124, attributes := #[] }, { accessFlags := 25, nameIndex := 130, descriptorIndex := 124, attributes := #[] }, { accessFlags := 25, nameIndex := 136, descriptorIndex := 124, attributes := #[] }])
  fields := #[{ name := "SIOOBE_FORMATTER", type := (.object "java/util/function/BiFunction"), accessFlags := 25, slot := 0, constantValue := 0 }, { name := "AIOOBE_FORMATTER", type := (.object "java/util/function/BiFunction"), accessFlags := 25, slot := 1, constantValue := 0 }, { name := "IOOBE_FORMATTER", type := (.object "java/util/function/BiFunction"), accessFlags := 25, slot := 2, constantValue := 0 }]
  methods := #[k11m0, k11m1]
  instanceTypes := #[]
  staticTypes := #[(.object "java/util/function/BiFunction"), (.object "java/util/function/BiFunction"), (.object "java/util/function/BiFunction")]
  resolved := Array.replicate 194 none
  statics := some 2 }

def pool12 : Array CpInfo := pool [(1, .class_ 2), (0, u "java/lang/String"), (1, .class_ 6), (1, u "java/lang/Object"), (0, u "<init>"), (0, u "()V"), (0, .methodref 1 10), (0, .nameAndType 11 12), (0, u "checkIndex"), (0, u "(II)V"), (1, .class_ 16), (1, u "java/lang/StringLatin1"), (36, u "([BI)C"), (67, u "$assertionsDisabled"), (0, u "Z"), (98, .class_ 223), (1, u "java/lang/StringLatin1$LinesSpliterator"), (28, u "charAt"), (137, .class_ 391), (0, u "java/lang/StringLatin1$CharsSpliterator")] 3

def k12m0 : Method := { name := "<init>", desc := "()V", sig := { parameters := [], returnType := none }, accessFlags := 0, code := none }
def k12c1 : Code := { maxStack := 2, maxLocals := 2, code := jdk_43_method_2_code, exceptionTable := #[], attributes := #[] }
def k12m1 : Method := { name := "charAt", desc := "([BI)C", sig := { parameters := [(.array .byte), .int], returnType := some .char }, accessFlags := 9, code := some k12c1 }
/-- java/lang/StringLatin1 -/
def k12 : Class := { plain "java/lang/StringLatin1" (some 0) with
  accessFlags := 48
  interfaces := #[]
  cf := some (fileOf pool12 14 #[.nestMembers #[390, 221]] #[{ accessFlags := 0, nameIndex := 7, descriptorIndex := 8, attributes := #[] }, { accessFlags := 9, nameIndex := 252, descriptorIndex := 53, attributes := #[] }] 48 4 #[] #[{ accessFlags := 4120, nameIndex := 121, descriptorIndex := 122, attributes := #[] }])
  fields := #[{ name := "$assertionsDisabled", type := .boolean, accessFlags := 4120, slot := 0, constantValue := 0 }]
  methods := #[k12m0, k12m1]
  instanceTypes := #[]
  staticTypes := #[.boolean]
  resolved := Array.replicate 395 none
  statics := none }

def pool13 : Array CpInfo := pool [(9, u "<init>"), (6, .class_ 18), (1, u "java/lang/Object"), (0, u "()V"), (1, .class_ 23), (1, u "jdk/internal/util/ArraysSupport"), (0, u "LOG2_ARRAY_LONG_INDEX_SCALE"), (0, u "I"), (2, u "U"), (0, u "Ljdk/internal/misc/Unsafe;"), (8, u "BIG_ENDIAN"), (0, u "Z"), (8, u "LOG2_BYTE_BIT_SIZE"), (4, u "LOG2_ARRAY_INT_INDEX_SCALE"), (54, u "JLA"), (0, u "Ljdk/internal/access/JavaLangAccess;"), (11, u "LOG2_ARRAY_BOOLEAN_INDEX_SCALE"), (9, u "LOG2_ARRAY_BYTE_INDEX_SCALE"), (5, u "LOG2_ARRAY_CHAR_INDEX_SCALE"), (5, u "LOG2_ARRAY_SHORT_INDEX_SCALE"), (18, u "LOG2_ARRAY_FLOAT_INDEX_SCALE"), (24, u "LOG2_ARRAY_DOUBLE_INDEX_SCALE"), (89, u "T_BOOLEAN"), (2, u "T_CHAR"), (1, u "T_FLOAT"), (1, u "T_DOUBLE"), (1, u "T_BYTE"), (1, u "T_SHORT"), (1, u "T_INT"), (1, u "T_LONG"), (1, u "SOFT_MAX_ARRAY_LENGTH")] 83

def k13m0 : Method := { name := "<init>", desc := "()V", sig := { parameters := [], returnType := none }, accessFlags := 2, code := none }
/-- jdk/internal/util/ArraysSupport -/
def k13 : Class := { plain "jdk/internal/util/ArraysSupport" (some 0) with
  accessFlags := 33
  interfaces := #[]
  cf := some (fileOf pool13 21 #[] #[{ accessFlags := 2, nameIndex := 9, descriptorIndex := 19, attributes := #[] }] 33 16 #[] #[{ accessFlags := 24, nameIndex := 28, descriptorIndex := 29, attributes := #[] }, { accessFlags := 26, nameIndex := 38, descriptorIndex := 39, attributes := #[] }, { accessFlags := 25, nameIndex := 121, descriptorIndex := 25, attributes := #[] }, { accessFlags := 25, nameIndex := 131, descriptorIndex := 25, attributes := #[] }, { accessFlags := 25, nameIndex := 137, descriptorIndex := 25, attributes := #[] }, { accessFlags := 25, nameIndex := 143, descriptorIndex := 25, attributes := #[] }, { accessFlags := 25, nameIndex := 53, descriptorIndex := 25, attributes := #[] }, { accessFlags := 25, nameIndex := 24, descriptorIndex := 25, attributes := #[] }, { accessFlags := 25, nameIndex := 162, descriptorIndex := 25, attributes := #[] }, { accessFlags := 25, nameIndex := 187, descriptorIndex := 25, attributes := #[] }, { accessFlags := 26, nameIndex := 48, descriptorIndex := 25, attributes := #[] }, { accessFlags := 25, nameIndex := 277, descriptorIndex := 25, attributes := #[] }, { accessFlags := 25, nameIndex := 280, descriptorIndex := 25, attributes := #[] }, { accessFlags := 25, nameIndex := 282, descriptorIndex := 25, attributes := #[] }, { accessFlags := 25, nameIndex := 284, descriptorIndex := 25, attributes := #[] }, { accessFlags := 25, nameIndex := 286, descriptorIndex := 25, attributes := #[] }, { accessFlags := 25, nameIndex := 288, descriptorIndex := 25, attributes := #[] }, { accessFlags := 25, nameIndex := 290, descriptorIndex := 25, attributes := #[] }, { accessFlags := 25, nameIndex := 292, descriptorIndex := 25, attributes := #[] }, { accessFlags := 26, nameIndex := 108, descriptorIndex := 109, attributes := #[] }, { accessFlags := 25, nameIndex := 294, descriptorIndex := 25, attributes := #[] }])
  fields := #[{ name := "U", type := (.object "jdk/internal/misc/Unsafe"), accessFlags := 24, slot := 0, constantValue := 0 }, { name := "BIG_ENDIAN", type := .boolean, accessFlags := 26, slot := 1, constantValue := 0 }, { name := "LOG2_ARRAY_BOOLEAN_INDEX_SCALE", type := .int, accessFlags := 25, slot := 2, constantValue := 0 }, { name := "LOG2_ARRAY_BYTE_INDEX_SCALE", type := .int, accessFlags := 25, slot := 3, constantValue := 0 }, { name := "LOG2_ARRAY_CHAR_INDEX_SCALE", type := .int, accessFlags := 25, slot := 4, constantValue := 0 }, { name := "LOG2_ARRAY_SHORT_INDEX_SCALE", type := .int, accessFlags := 25, slot := 5, constantValue := 0 }, { name := "LOG2_ARRAY_INT_INDEX_SCALE", type := .int, accessFlags := 25, slot := 6, constantValue := 0 }, { name := "LOG2_ARRAY_LONG_INDEX_SCALE", type := .int, accessFlags := 25, slot := 7, constantValue := 0 }, { name := "LOG2_ARRAY_FLOAT_INDEX_SCALE", type := .int, accessFlags := 25, slot := 8, constantValue := 0 }, { name := "LOG2_ARRAY_DOUBLE_INDEX_SCALE", type := .int, accessFlags := 25, slot := 9, constantValue := 0 }, { name := "LOG2_BYTE_BIT_SIZE", type := .int, accessFlags := 26, slot := 10, constantValue := 0 }, { name := "T_BOOLEAN", type := .int, accessFlags := 25, slot := 11, constantValue := 0 }, { name := "T_CHAR", type := .int, accessFlags := 25, slot := 12, constantValue := 0 }, { name := "T_FLOAT", type := .int, accessFlags := 25, slot := 13, constantValue := 0 }, { name := "T_DOUBLE", type := .int, accessFlags := 25, slot := 14, constantValue := 0 }, { name := "T_BYTE", type := .int, accessFlags := 25, slot := 15, constantValue := 0 }, { name := "T_SHORT", type := .int, accessFlags := 25, slot := 16, constantValue := 0 }, { name := "T_INT", type := .int, accessFlags := 25, slot := 17, constantValue := 0 }, { name := "T_LONG", type := .int, accessFlags := 25, slot := 18, constantValue := 0 }, { name := "JLA", type := (.object "jdk/internal/access/JavaLangAccess"), accessFlags := 26, slot := 19, constantValue := 0 }, { name := "SOFT_MAX_ARRAY_LENGTH", type := .int, accessFlags := 25, slot := 20, constantValue := 0 }]
  methods := #[k13m0]
  instanceTypes := #[]
  staticTypes := #[(.object "jdk/internal/misc/Unsafe"), .boolean, .int, .int, .int, .int, .int, .int, .int, .int, .int, .int, .int, .int, .int, .int, .int, .int, .int, (.object "jdk/internal/access/JavaLangAccess"), .int]
  resolved := Array.replicate 378 none
  statics := none }

def pool14 : Array CpInfo := pool [(1, u "java/lang/Cloneable"), (0, .class_ 1), (0, u "java/lang/Object"), (0, .class_ 3)] 3

/-- java/lang/Cloneable -/
def k14 : Class := { plain "java/lang/Cloneable" (some 0) with
  accessFlags := 1537
  interfaces := #[]
  cf := some (fileOf pool14 2 #[] #[] 1537 4 #[] #[])
  fields := #[]
  methods := #[]
  instanceTypes := #[]
  staticTypes := #[]
  resolved := Array.replicate 8 none
  statics := none }

/-- the primitive byte -/
def k15 : Class := { plain "byte" none with kind := .primitive 'B', accessFlags := 0x411 }
/-- [B -/
def k16 : Class := { plain "[B" (some 0) with kind := .array 15 .byte, interfaces := #[14, 2], accessFlags := 1041 }

/-- the primitive char -/
def k17 : Class := { plain "char" none with kind := .primitive 'C', accessFlags := 0x411 }
/-- [C -/
def k18 : Class := { plain "[C" (some 0) with kind := .array 17 .char, interfaces := #[14, 2], accessFlags := 1041 }

/-- the primitive int -/
def k19 : Class := { plain "int" none with kind := .primitive 'I', accessFlags := 0x411 }
/-- [I -/
def k20 : Class := { plain "[I" (some 0) with kind := .array 19 .int, interfaces := #[14, 2], accessFlags := 1041 }

def heap : Heap := #[{ cls := 7, slots := #[.long 0, .int 1, .null, .int 0, .null, .int 0, .int 0], vm := .statics 7 },
  { cls := 10, slots := #[.int 0, .int 8, .int 0, .int 1], vm := .statics 10 },
  { cls := 11, slots := #[.null, .null, .null], vm := .statics 11 }]
def classes : Array Class := #[k0, k1, k2, k3, k4, k5, k6, k7, k8, k9, k10, k11, k12, k13, k14, k15, k16, k17, k18, k19, k20]
def interned : List (Array UInt16 × Addr) := []
def slotsUsed : Nat := 14
def theMethod : MethodId := ⟨1, 2⟩
def args0 : Array Value := #[.int 2, .int 65, .int 66, .int 3]
def aboutOver (below : List Frame) : State where
  vm := { classes := classes, interned := interned.toArray }
  heap := heap
  slotsUsed := slotsUsed
  threads := #[{ frames := .invoking theMethod args0 :: below }]
def below0 : List Frame := [.native { method := ⟨0, 0⟩, args := #[] }]
def about1 : State := aboutOver below0
def p0 : Program := .bare "" "" ""
def e0 : Env := launch0.env 0 0 0
theorem w_frames : about1.frames = Frame.invoking theMethod args0 :: below0 := rfl
set_option maxRecDepth 65536 in
theorem w_args : argsFit about1.vm theMethod args0 = true := by decide +kernel
set_option maxRecDepth 65536 in
theorem w_heap : heapFits about1 = true := by decide +kernel
set_option maxRecDepth 65536 in
theorem w_runnable : about1.curStatus? = some .runnable := by decide +kernel
set_option maxRecDepth 65536 in
theorem w_alone : about1.alone = true := by decide +kernel
set_option maxRecDepth 65536 in
theorem w_named : about1.methodNamed? x = some theMethod := by decide +kernel
set_option maxRecDepth 65536 in
theorem w_hears : about1.hears theMethod below0 = true := by decide +kernel
set_option maxRecDepth 65536 in
theorem w_ripe : about1.ripe theMethod args0 below0 = true := by decide +kernel
theorem w_running : about1.status = .running := rfl
set_option maxRecDepth 65536 in
theorem w_room : about1.hasRoom e0.platform room_1 = true :=
  launch0.hasRoom_least _ room_1 (by decide +kernel) (by decide +kernel) (by decide +kernel) (by decide +kernel) (by decide +kernel) (by decide +kernel)
theorem allAtoms_all (ts : List Jvm.Cond) (a : Array Jvm.Value) (st : Jvm.State) : (allAtoms ts).before a st = ts.all (fun c => c.before a st) := by
  induction ts with
  | nil => rfl
  | cons c t ih =>
    show (Jvm.Cond.and c (allAtoms t)).before a st = _
    rw [Jvm.Cond.before_and, ih, List.all_cons]
def words1 : List Jvm.Cond := Jvm.Cond.code x code maxLocals ret :: tables_1
/-- a 'code' word, met by the world's own term for the bytes: nothing is compared byte by byte -/
theorem code_word {y : MethodName} {bytes : ByteArray} {mx : Nat} {rt : Option FieldType} {a : Array Value} {s : State} {m : MethodId} {meth : Method} {c : Code} (h1 : s.methodNamed? y = some m) (h2 : s.vm.method? m = some meth) (h3 : meth.code = some c) (h4 : c.code = bytes)
    (h5 : (c.maxLocals == mx && c.exceptionTable.isEmpty && decide (c.maxStack ≤ mostOperands) && decide (meth.sig.returnType = rt) && !meth.locks && decide (parseMethodDescriptor y.desc = some meth.sig)) = true) : (Jvm.Cond.code y bytes mx rt).before a s = true := by
  simp only [Bool.and_eq_true, beq_iff_eq, Bool.not_eq_true', decide_eq_true_eq] at h5
  obtain ⟨⟨⟨⟨⟨g1, g2⟩, g3⟩, g4⟩, g5⟩, g6⟩ := h5
  simp [Cond.before, Cond.holds, Cond.value, h1, h2, h3, h4, g1, g2, g3, g4, g5, g6]
def isCode : Jvm.Cond → Bool
  | .code _ _ _ _ => true
  | _ => false
theorem all_split {L : List Jvm.Cond} {P : Jvm.Cond → Bool} (h1 : L.all (fun c => isCode c || P c) = true) (h2 : ∀ c ∈ L.filter isCode, P c = true) : L.all P = true := by
  refine List.all_eq_true.mpr fun c hc => ?_
  have h := List.all_eq_true.mp h1 c hc
  rcases Bool.eq_false_or_eq_true (isCode c) with hi | hi
  · exact h2 c (List.mem_filter.mpr ⟨hc, hi⟩)
  · simpa [hi] using h
set_option maxRecDepth 65536 in
theorem w_c0 : (Jvm.Cond.code x code maxLocals ret).before args0 about1 = true := code_word (m := ⟨1, 2⟩) (meth := k1m2) (c := k1c2) (by decide +kernel) rfl rfl rfl (by decide +kernel)
set_option maxRecDepth 65536 in
theorem w_c1 : (Jvm.Cond.code ({ cls := "java/lang/String", name := "<init>", desc := "([C)V" } : Jvm.MethodName) jdk_42_method_3_code (2 : Nat) (Option.none : Option Jvm.ClassFile.FieldType)).before args0 about1 = true := code_word (m := ⟨7, 1⟩) (meth := k7m1) (c := k7c1) (by decide +kernel) rfl rfl rfl (by decide +kernel)
set_option maxRecDepth 65536 in
theorem w_c2 : (Jvm.Cond.code ({ cls := "java/lang/String", name := "<init>", desc := "([CIILjava/lang/Void;)V" } : Jvm.MethodName) jdk_42_method_149_code (6 : Nat) (Option.none : Option Jvm.ClassFile.FieldType)).before args0 about1 = true := code_word (m := ⟨7, 4⟩) (meth := k7m4) (c := k7c4) (by decide +kernel) rfl rfl rfl (by decide +kernel)
set_option maxRecDepth 65536 in
theorem w_c3 : (Jvm.Cond.code ({ cls := "java/lang/Object", name := "<init>", desc := "()V" } : Jvm.MethodName) object_method_1_code (1 : Nat) (Option.none : Option Jvm.ClassFile.FieldType)).before args0 about1 = true := code_word (m := ⟨0, 0⟩) (meth := k0m0) (c := k0c0) (by decide +kernel) rfl rfl rfl (by decide +kernel)
set_option maxRecDepth 65536 in
theorem w_c4 : (Jvm.Cond.code ({ cls := "com/example/scriptwire/scriptwire/script/PdmpState", name := "isCode", desc := "(Ljava/lang/String;)Z" } : Jvm.MethodName) prog_59_method_3_code (3 : Nat) (Option.some Jvm.ClassFile.FieldType.boolean)).before args0 about1 = true := code_word (m := ⟨9, 0⟩) (meth := k9m0) (c := k9c0) (by decide +kernel) rfl rfl rfl (by decide +kernel)
set_option maxRecDepth 65536 in
theorem w_c5 : (Jvm.Cond.code ({ cls := "java/lang/String", name := "length", desc := "()I" } : Jvm.MethodName) jdk_42_method_54_code (1 : Nat) (Option.some Jvm.ClassFile.FieldType.int)).before args0 about1 = true := code_word (m := ⟨7, 2⟩) (meth := k7m2) (c := k7c2) (by decide +kernel) rfl rfl rfl (by decide +kernel)
set_option maxRecDepth 65536 in
theorem w_c6 : (Jvm.Cond.code ({ cls := "java/lang/String", name := "coder", desc := "()B" } : Jvm.MethodName) jdk_42_method_152_code (1 : Nat) (Option.some Jvm.ClassFile.FieldType.byte)).before args0 about1 = true := code_word (m := ⟨7, 5⟩) (meth := k7m5) (c := k7c5) (by decide +kernel) rfl rfl rfl (by decide +kernel)
set_option maxRecDepth 65536 in
theorem w_c7 : (Jvm.Cond.code ({ cls := "java/lang/StringUTF16", name := "compress", desc := "([CII)[B" } : Jvm.MethodName) jdk_52_method_16_code (6 : Nat) (Option.some (Jvm.ClassFile.FieldType.array Jvm.ClassFile.FieldType.byte))).before args0 about1 = true := code_word (m := ⟨10, 8⟩) (meth := k10m8) (c := k10c8) (by decide +kernel) rfl rfl rfl (by decide +kernel)
set_option maxRecDepth 65536 in
theorem w_c8 : (Jvm.Cond.code ({ cls := "java/lang/StringUTF16", name := "compress", desc := "([CI[BII)I" } : Jvm.MethodName) jdk_52_method_21_code (7 : Nat) (Option.some Jvm.ClassFile.FieldType.int)).before args0 about1 = true := code_word (m := ⟨10, 9⟩) (meth := k10m9) (c := k10c9) (by decide +kernel) rfl rfl rfl (by decide +kernel)
set_option maxRecDepth 65536 in
theorem w_c9 : (Jvm.Cond.code ({ cls := "java/lang/StringUTF16", name := "toBytes", desc := "([CII)[B" } : Jvm.MethodName) jdk_52_method_14_code (5 : Nat) (Option.some (Jvm.ClassFile.FieldType.array Jvm.ClassFile.FieldType.byte))).before args0 about1 = true := code_word (m := ⟨10, 6⟩) (meth := k10m6) (c := k10c6) (by decide +kernel) rfl rfl rfl (by decide +kernel)
set_option maxRecDepth 65536 in
theorem w_c10 : (Jvm.Cond.code ({ cls := "java/lang/StringUTF16", name := "newBytesFor", desc := "(I)[B" } : Jvm.MethodName) jdk_52_method_2_code (1 : Nat) (Option.some (Jvm.ClassFile.FieldType.array Jvm.ClassFile.FieldType.byte))).before args0 about1 = true := code_word (m := ⟨10, 1⟩) (meth := k10m1) (c := k10c1) (by decide +kernel) rfl rfl rfl (by decide +kernel)
set_option maxRecDepth 65536 in
theorem w_c11 : (Jvm.Cond.code ({ cls := "java/lang/StringUTF16", name := "newBytesLength", desc := "(I)I" } : Jvm.MethodName) jdk_52_method_3_code (1 : Nat) (Option.some Jvm.ClassFile.FieldType.int)).before args0 about1 = true := code_word (m := ⟨10, 2⟩) (meth := k10m2) (c := k10c2) (by decide +kernel) rfl rfl rfl (by decide +kernel)
set_option maxRecDepth 65536 in
theorem w_c12 : (Jvm.Cond.code ({ cls := "java/lang/StringUTF16", name := "putChar", desc := "([BII)V" } : Jvm.MethodName) jdk_52_method_4_code (3 : Nat) (Option.none : Option Jvm.ClassFile.FieldType)).before args0 about1 = true := code_word (m := ⟨10, 3⟩) (meth := k10m3) (c := k10c3) (by decide +kernel) rfl rfl rfl (by decide +kernel)
set_option maxRecDepth 65536 in
theorem w_c13 : (Jvm.Cond.code ({ cls := "java/lang/StringUTF16", name := "getChar", desc := "([BI)C" } : Jvm.MethodName) jdk_52_method_5_code (2 : Nat) (Option.some Jvm.ClassFile.FieldType.char)).before args0 about1 = true := code_word (m := ⟨10, 4⟩) (meth := k10m4) (c := k10c4) (by decide +kernel) rfl rfl rfl (by decide +kernel)
set_option maxRecDepth 65536 in
theorem w_c14 : (Jvm.Cond.code ({ cls := "java/lang/StringUTF16", name := "coderFromArrayLen", desc := "([BI)B" } : Jvm.MethodName) jdk_52_method_15_code (2 : Nat) (Option.some Jvm.ClassFile.FieldType.byte)).before args0 about1 = true := code_word (m := ⟨10, 7⟩) (meth := k10m7) (c := k10c7) (by decide +kernel) rfl rfl rfl (by decide +kernel)
set_option maxRecDepth 65536 in
theorem w_c15 : (Jvm.Cond.code ({ cls := "com/example/scriptwire/scriptwire/script/PdmpStateIsCodePinLaw", name := "upper", desc := "(C)Z" } : Jvm.MethodName) method_2_code (1 : Nat) (Option.some Jvm.ClassFile.FieldType.boolean)).before args0 about1 = true := code_word (m := ⟨1, 1⟩) (meth := k1m1) (c := k1c1) (by decide +kernel) rfl rfl rfl (by decide +kernel)
set_option maxRecDepth 65536 in
theorem w_c16 : (Jvm.Cond.code ({ cls := "java/lang/String", name := "charAt", desc := "(I)C" } : Jvm.MethodName) jdk_42_method_56_code (2 : Nat) (Option.some Jvm.ClassFile.FieldType.char)).before args0 about1 = true := code_word (m := ⟨7, 3⟩) (meth := k7m3) (c := k7c3) (by decide +kernel) rfl rfl rfl (by decide +kernel)
set_option maxRecDepth 65536 in
theorem w_c17 : (Jvm.Cond.code ({ cls := "java/lang/String", name := "isLatin1", desc := "()Z" } : Jvm.MethodName) jdk_42_method_154_code (1 : Nat) (Option.some Jvm.ClassFile.FieldType.boolean)).before args0 about1 = true := code_word (m := ⟨7, 6⟩) (meth := k7m6) (c := k7c6) (by decide +kernel) rfl rfl rfl (by decide +kernel)
set_option maxRecDepth 65536 in
theorem w_c18 : (Jvm.Cond.code ({ cls := "java/lang/StringUTF16", name := "charAt", desc := "([BI)C" } : Jvm.MethodName) jdk_52_method_83_code (2 : Nat) (Option.some Jvm.ClassFile.FieldType.char)).before args0 about1 = true := code_word (m := ⟨10, 10⟩) (meth := k10m10) (c := k10c10) (by decide +kernel) rfl rfl rfl (by decide +kernel)
set_option maxRecDepth 65536 in
theorem w_c19 : (Jvm.Cond.code ({ cls := "java/lang/StringUTF16", name := "checkIndex", desc := "(I[B)V" } : Jvm.MethodName) jdk_52_method_91_code (2 : Nat) (Option.none : Option Jvm.ClassFile.FieldType)).before args0 about1 = true := code_word (m := ⟨10, 11⟩) (meth := k10m11) (c := k10c11) (by decide +kernel) rfl rfl rfl (by decide +kernel)
set_option maxRecDepth 65536 in
theorem w_c20 : (Jvm.Cond.code ({ cls := "java/lang/StringUTF16", name := "length", desc := "([B)I" } : Jvm.MethodName) jdk_52_method_6_code (1 : Nat) (Option.some Jvm.ClassFile.FieldType.int)).before args0 about1 = true := code_word (m := ⟨10, 5⟩) (meth := k10m5) (c := k10c5) (by decide +kernel) rfl rfl rfl (by decide +kernel)
set_option maxRecDepth 65536 in
theorem w_c21 : (Jvm.Cond.code ({ cls := "java/lang/String", name := "checkIndex", desc := "(II)V" } : Jvm.MethodName) jdk_42_method_155_code (2 : Nat) (Option.none : Option Jvm.ClassFile.FieldType)).before args0 about1 = true := code_word (m := ⟨7, 7⟩) (meth := k7m7) (c := k7c7) (by decide +kernel) rfl rfl rfl (by decide +kernel)
set_option maxRecDepth 65536 in
theorem w_c22 : (Jvm.Cond.code ({ cls := "jdk/internal/util/Preconditions", name := "checkIndex", desc := "(IILjava/util/function/BiFunction;)I" } : Jvm.MethodName) jdk_41_method_11_code (3 : Nat) (Option.some Jvm.ClassFile.FieldType.int)).before args0 about1 = true := code_word (m := ⟨11, 1⟩) (meth := k11m1) (c := k11c1) (by decide +kernel) rfl rfl rfl (by decide +kernel)
set_option maxRecDepth 65536 in
theorem w_c23 : (Jvm.Cond.code ({ cls := "java/lang/StringLatin1", name := "charAt", desc := "([BI)C" } : Jvm.MethodName) jdk_43_method_2_code (2 : Nat) (Option.some Jvm.ClassFile.FieldType.char)).before args0 about1 = true := code_word (m := ⟨12, 1⟩) (meth := k12m1) (c := k12c1) (by decide +kernel) rfl rfl rfl (by decide +kernel)
def codes1 : List Jvm.Cond := [Jvm.Cond.code x code maxLocals ret, Jvm.Cond.code ({ cls := "java/lang/String", name := "<init>", desc := "([C)V" } : Jvm.MethodName) jdk_42_method_3_code (2 : Nat) (Option.none : Option Jvm.ClassFile.FieldType), Jvm.Cond.code ({ cls := "java/lang/String", name := "<init>", desc := "([CIILjava/lang/Void;)V" } : Jvm.MethodName) jdk_42_method_149_code (6 : Nat) (Option.none : Option Jvm.ClassFile.FieldType), Jvm.Cond.code ({ cls := "java/lang/Object", name := "<init>", desc := "()V" } : Jvm.MethodName) object_method_1_code (1 : Nat) (Option.none : Option Jvm.ClassFile.FieldType), Jvm.Cond.code ({ cls := "com/example/scriptwire/scriptwire/script/PdmpState", name := "isCode", desc := "(Ljava/lang/String;)Z" } : Jvm.MethodName) prog_59_method_3_code (3 : Nat) (Option.some Jvm.ClassFile.FieldType.boolean), Jvm.Cond.code ({ cls := "java/lang/String", name := "length", desc := "()I" } : Jvm.MethodName) jdk_42_method_54_code (1 : Nat) (Option.some Jvm.ClassFile.FieldType.int), Jvm.Cond.code ({ cls := "java/lang/String", name := "coder", desc := "()B" } : Jvm.MethodName) jdk_42_method_152_code (1 : Nat) (Option.some Jvm.ClassFile.FieldType.byte), Jvm.Cond.code ({ cls := "java/lang/StringUTF16", name := "compress", desc := "([CII)[B" } : Jvm.MethodName) jdk_52_method_16_code (6 : Nat) (Option.some (Jvm.ClassFile.FieldType.array Jvm.ClassFile.FieldType.byte)), Jvm.Cond.code ({ cls := "java/lang/StringUTF16", name := "compress", desc := "([CI[BII)I" } : Jvm.MethodName) jdk_52_method_21_code (7 : Nat) (Option.some Jvm.ClassFile.FieldType.int), Jvm.Cond.code ({ cls := "java/lang/StringUTF16", name := "toBytes", desc := "([CII)[B" } : Jvm.MethodName) jdk_52_method_14_code (5 : Nat) (Option.some (Jvm.ClassFile.FieldType.array Jvm.ClassFile.FieldType.byte)), Jvm.Cond.code ({ cls := "java/lang/StringUTF16", name := "newBytesFor", desc := "(I)[B" } : Jvm.MethodName) jdk_52_method_2_code (1 : Nat) (Option.some (Jvm.ClassFile.FieldType.array Jvm.ClassFile.FieldType.byte)), Jvm.Cond.code ({ cls := "java/lang/StringUTF16", name := "newBytesLength", desc := "(I)I" } : Jvm.MethodName) jdk_52_method_3_code (1 : Nat) (Option.some Jvm.ClassFile.FieldType.int), Jvm.Cond.code ({ cls := "java/lang/StringUTF16", name := "putChar", desc := "([BII)V" } : Jvm.MethodName) jdk_52_method_4_code (3 : Nat) (Option.none : Option Jvm.ClassFile.FieldType), Jvm.Cond.code ({ cls := "java/lang/StringUTF16", name := "getChar", desc := "([BI)C" } : Jvm.MethodName) jdk_52_method_5_code (2 : Nat) (Option.some Jvm.ClassFile.FieldType.char), Jvm.Cond.code ({ cls := "java/lang/StringUTF16", name := "coderFromArrayLen", desc := "([BI)B" } : Jvm.MethodName) jdk_52_method_15_code (2 : Nat) (Option.some Jvm.ClassFile.FieldType.byte), Jvm.Cond.code ({ cls := "com/example/scriptwire/scriptwire/script/PdmpStateIsCodePinLaw", name := "upper", desc := "(C)Z" } : Jvm.MethodName) method_2_code (1 : Nat) (Option.some Jvm.ClassFile.FieldType.boolean), Jvm.Cond.code ({ cls := "java/lang/String", name := "charAt", desc := "(I)C" } : Jvm.MethodName) jdk_42_method_56_code (2 : Nat) (Option.some Jvm.ClassFile.FieldType.char), Jvm.Cond.code ({ cls := "java/lang/String", name := "isLatin1", desc := "()Z" } : Jvm.MethodName) jdk_42_method_154_code (1 : Nat) (Option.some Jvm.ClassFile.FieldType.boolean), Jvm.Cond.code ({ cls := "java/lang/StringUTF16", name := "charAt", desc := "([BI)C" } : Jvm.MethodName) jdk_52_method_83_code (2 : Nat) (Option.some Jvm.ClassFile.FieldType.char), Jvm.Cond.code ({ cls := "java/lang/StringUTF16", name := "checkIndex", desc := "(I[B)V" } : Jvm.MethodName) jdk_52_method_91_code (2 : Nat) (Option.none : Option Jvm.ClassFile.FieldType), Jvm.Cond.code ({ cls := "java/lang/StringUTF16", name := "length", desc := "([B)I" } : Jvm.MethodName) jdk_52_method_6_code (1 : Nat) (Option.some Jvm.ClassFile.FieldType.int), Jvm.Cond.code ({ cls := "java/lang/String", name := "checkIndex", desc := "(II)V" } : Jvm.MethodName) jdk_42_method_155_code (2 : Nat) (Option.none : Option Jvm.ClassFile.FieldType), Jvm.Cond.code ({ cls := "jdk/internal/util/Preconditions", name := "checkIndex", desc := "(IILjava/util/function/BiFunction;)I" } : Jvm.MethodName) jdk_41_method_11_code (3 : Nat) (Option.some Jvm.ClassFile.FieldType.int), Jvm.Cond.code ({ cls := "java/lang/StringLatin1", name := "charAt", desc := "([BI)C" } : Jvm.MethodName) jdk_43_method_2_code (2 : Nat) (Option.some Jvm.ClassFile.FieldType.char)]
set_option maxRecDepth 65536 in
theorem codes_eq : words1.filter isCode = codes1 := rfl
theorem w_codes : ∀ c ∈ words1.filter isCode, c.before args0 about1 = true := by
  rw [codes_eq]
  intro c hc
  simp only [codes1, List.mem_cons, List.not_mem_nil, or_false] at hc
  rcases hc with rfl | rfl | rfl | rfl | rfl | rfl | rfl | rfl | rfl | rfl | rfl | rfl | rfl | rfl | rfl | rfl | rfl | rfl | rfl | rfl | rfl | rfl | rfl | rfl
  · exact w_c0
  · exact w_c1
  · exact w_c2
  · exact w_c3
  · exact w_c4
  · exact w_c5
  · exact w_c6
  · exact w_c7
  · exact w_c8
  · exact w_c9
  · exact w_c10
  · exact w_c11
  · exact w_c12
  · exact w_c13
  · exact w_c14
  · exact w_c15
  · exact w_c16
  · exact w_c17
  · exact w_c18
  · exact w_c19
  · exact w_c20
  · exact w_c21
  · exact w_c22
  · exact w_c23
set_option maxRecDepth 65536 in
theorem w_t1 : (words1.take 24).all (fun c => isCode c || c.before args0 about1) = true := by decide +kernel
set_option maxRecDepth 65536 in
theorem w_t2 : ((words1.drop 24).take 24).all (fun c => isCode c || c.before args0 about1) = true := by decide +kernel
set_option maxRecDepth 65536 in
theorem w_t3 : (((words1.drop 24).drop 24).take 24).all (fun c => isCode c || c.before args0 about1) = true := by decide +kernel
set_option maxRecDepth 65536 in
theorem w_t4 : ((((words1.drop 24).drop 24).drop 24).take 24).all (fun c => isCode c || c.before args0 about1) = true := by decide +kernel
set_option maxRecDepth 65536 in
theorem w_t5 : ((((words1.drop 24).drop 24).drop 24).drop 24).all (fun c => isCode c || c.before args0 about1) = true := by decide +kernel
theorem w_tables : (allAtoms (Jvm.Cond.code x code maxLocals ret :: tables_1)).before args0 about1 = true := by
  rw [allAtoms_all]
  show words1.all (fun c => c.before args0 about1) = true
  refine all_split ?_ w_codes
  rw [← List.take_append_drop 24 words1, List.all_append, w_t1, ← List.take_append_drop 24 (words1.drop 24), List.all_append, w_t2, ← List.take_append_drop 24 ((words1.drop 24).drop 24), List.all_append, w_t3, ← List.take_append_drop 24 (((words1.drop 24).drop 24).drop 24), List.all_append, w_t4, w_t5]
  rfl
set_option maxRecDepth 65536 in
theorem w_rest : rest_1_c.before args0 about1 = true := by decide +kernel
set_option maxRecDepth 65536 in
theorem w_case : (Jvm.Cond.and given_1 narrow_1).before args0 about1 = true := by decide +kernel
set_option maxRecDepth 65536 in
theorem w_consts : constsHeld consts_1 about1 := Jvm.Lit.constsHeldB_iff.mp (by decide +kernel)
theorem w_applies : (headSpec (Jvm.Cond.code x code maxLocals ret :: tables_1) room_1).applies x e0.platform about1 = true :=
  (Spec.applies_iff w_frames).mpr ⟨w_running, w_runnable, w_alone, w_named, w_hears, w_ripe, w_room, w_tables⟩
theorem atStart : AtStart classFile x code maxLocals ret World_1 tables_1 room_1 Calls_1 rest_1 Pre_1 launch0 p0 e0 about1 theMethod args0 below0 :=
  ⟨lists_1, trivial, launch0.admits_env _ _ _, launch0.least_env, fairChoices_fair.cas, fairChoices_fair.clock, w_frames, w_args, w_heap, w_applies, ⟨w_consts, trivial⟩, w_rest, w_case⟩
end start1
theorem witness_1 : WitnessClaimed_1 := ⟨start1.p0, start1.e0, start1.about1, start1.theMethod, start1.args0, start1.below0, start1.atStart⟩
end Jvm.Pilot.@@N@@
