import JvmDerived
import JvmDerived.Pilot.@@N@@Statement
import JvmDerived.Pilot.@@N@@Code
set_option linter.unusedVariables false
set_option linter.unusedSimpArgs false
namespace Jvm.RoadKit
open Sem ClassFile Op Lib Jvm.Stand Jvm.Free Jvm.LawKit
section New
variable {p : Program} {l : Launch} {e : Env} {R : Room} {s : State} {m : MethodId} {args : Array Value} {below : List Frame} {meth : Method} {c : Code} {T : State} {locs : List Loc} {cells slots : Nat}
theorem retI (X : Stand p l e R s m args below meth c T locs cells slots) (hx : p.tables.exec = Jvm.exec) {pc : Nat} {Ls : Array Slot} {z : Int32} {rest : List Value} (hret : meth.sig.returnType = some .int) (hd : decode c.code pc = .ok (.ireturn, 1)) {fs : List Frame}
    (hl : ∀ (f : JFrame) (acts : List Action), f.method = m → f.locked = none → f.entered = [] → (doReturn e (T.setTop f) acts (some (.int z))).1 = T.setFrames fs) : Steps p.tables e below (T.setTop (mkF m pc Ls (.int z :: rest))) (T.setFrames fs) := by
  have hm' : T.vm.method? m = some meth := X.method'
  have hn : narrow .int (.int z) = .int z := rfl
  show Steps p.tables e below (T.setTop { method := m, pc := pc, locals := Ls, stack := _ :: rest, locked := none }) _
  jvm_step X.here [X.here.top, hx, hd, hm', hret, hn]
  first | (intro acts; rw [hl _ acts rfl rfl rfl]) | rw [hl _ _ rfl rfl rfl]
  exact Steps.refl _
end New
end Jvm.RoadKit
namespace Jvm.Pilot.@@N@@
open Jvm Jvm.ClassFile Sem Op Lib Jvm.Free Jvm.Stand Jvm.LawKit Jvm.RoadKit Bundle Jvm.Pilot.@@N@@.Jvm.D
/-- the run from here ends well -/
def own_Go (tb : Tables) (e : Env) (below : List Frame) (P : Outcome → State → Prop) (T : State) (f : JFrame) : Prop := ∃ s₂ o, Steps tb e below (T.setTop f) s₂ ∧ s₂.status = .running ∧ Ended s₂ below o ∧ P o s₂
theorem own_go {tb : Tables} {e : Env} {below : List Frame} {P : Outcome → State → Prop} {T T' : State} {f f' : JFrame} (k : ∀ t, Steps tb e below (T'.setTop f') t → Steps tb e below (T.setTop f) t) (h : own_Go tb e below P T' f') : own_Go tb e below P T f := by
  obtain ⟨s₂, o, h1, h2⟩ := h
  exact ⟨s₂, o, k _ h1, h2⟩
theorem own_keep1 {h0 h h' : Heap} {ws : List Addr} {b : Addr} (K : Keep h0 h ws) (K' : Keep h h' [b]) (q : h0.size ≤ b) : Keep h0 h' ws := K.trans K' fun x hx => Or.inr (by cases List.mem_singleton.mp hx; exact q)
theorem own_eqi {a b : Term} {args : Array Value} {first s : State} {o : Option Outcome} {idx : List Nat} {y : Int32} (h : (Jvm.Cond.eq a b).value args first o s idx = some true) (hb : b.eval args first o idx s = some (.int y)) : a.eval args first o idx s = some (.int y) := by
  cases ha : a.eval args first o idx s with
  | none => simp [Cond.value, ha] at h
  | some x => cases x <;> simp [Cond.value, ha, hb] at h; subst h; rfl
theorem own_not1 {a b : Addr} (q : a ≠ b) : a ∉ [b] := fun h => q (List.mem_singleton.mp h)
def own_PW (s : State) (Q : Option Value → Heap → List Loc → Prop) (k n : Nat) (o : Outcome) (U : State) : Prop := ∃ v L, o = .returned v ∧ Q v U.heap L ∧ ReturnedEndW s o U L k n
def own_P (s : State) (Q : Option Value → Heap → List Loc → Prop) (k n : Nat) (o : Outcome) (U : State) : Prop := ∃ v L, o = .returned v ∧ Q v U.heap L ∧ FrameEnd s o U L k n
theorem own_low (x : Int32) : ∃ j, j < 16 ∧ x &&& 15 = Int32.ofNat j := by
  refine ⟨(x &&& 15).toBitVec.toNat, ?_, ?_⟩
  · rw [Int32.toBitVec_and, BitVec.toNat_and]
    exact Nat.lt_of_le_of_lt Nat.and_le_right (by decide)
  · apply Int32.toBitVec_inj.mp
    show _ = BitVec.ofNat 32 _
    rw [BitVec.ofNat_toNat, BitVec.setWidth_eq]
theorem own_sh : ∀ t, t < 16 → ((Int32.ofNat t * 4).toInt64 &&& 63).toBitVec.smod 64 = BitVec.ofNat 64 (4 * t) := by decide +kernel
theorem own_us : ∀ t, t < 16 → ((Int32.ofNat t * 4).toInt64.toUInt64 &&& Int64.toUInt64 63).toBitVec % 64 = BitVec.ofNat 64 (4 * t) := by decide +kernel
theorem own_cn : ∀ j, j < 16 → (Int32.ofNat j).toInt64.toBitVec = BitVec.ofNat 64 j := by decide +kernel
theorem own_c1 : ∀ j, j < 16 → 0 < j → (Int32.ofNat j - 1).toInt64.toBitVec = BitVec.ofNat 64 (j - 1) := by decide +kernel
theorem own_c0 : ∀ j, j < 16 → (Int32.ofNat j = 0 ↔ j = 0) := by decide +kernel
theorem own_c15 : ∀ j, j < 16 → (Int32.ofNat j = 15 ↔ j = 15) := by decide +kernel
theorem own_shl (x : Int64) {t : Nat} (ht : t < 16) : (x <<< ((Int32.ofNat t * 4).toInt64 &&& 63)).toBitVec = x.toBitVec <<< (4 * t) := by
  show x.toBitVec <<< (((Int32.ofNat t * 4).toInt64 &&& 63).toBitVec.smod 64) = _
  rw [own_sh t ht, BitVec.shiftLeft_eq']
  rw [BitVec.toNat_ofNat, Nat.mod_eq_of_lt (by omega)]
theorem own_shr (x : Int64) {t : Nat} (ht : t < 16) : (XT.ushrL x (Int32.ofNat t * 4)).toBitVec = x.toBitVec >>> (4 * t) := by
  unfold XT.ushrL
  show (x.toUInt64 >>> _).toBitVec = _
  rw [UInt64.toBitVec_shiftRight, own_us t ht, BitVec.ushiftRight_eq', BitVec.toNat_ofNat, Nat.mod_eq_of_lt (by omega)]
  rfl
/-- the rest: c without the nibble at n -/
def own_R (c : BitVec 64) (n : Nat) : BitVec 64 := c &&& ((15#64 <<< n) ^^^ -1#64)
theorem own_m1bit (i : Nat) (h : i < 64) : (-1#64).getLsbD i = true := by
  rw [BitVec.neg_one_eq_allOnes, BitVec.getLsbD_allOnes]; simpa using h
theorem own_f15 : ∀ i, i < 64 → (15#64).getLsbD i = decide (i < 4) := by decide +kernel
theorem own_kbit {j i : Nat} (hj : j < 16) (hi : 4 ≤ i) : (BitVec.ofNat 64 j).getLsbD i = false := by
  rw [BitVec.getLsbD_ofNat]
  have : j.testBit i = false := Nat.testBit_lt_two_pow (Nat.lt_of_lt_of_le hj (Nat.pow_le_pow_right (by decide) hi : 2 ^ 4 ≤ 2 ^ i))
  simp [this]
theorem own_Rbit (c : BitVec 64) {n i : Nat} (hi : i < 64) (h : n ≤ i) (h' : i < n + 4) : (own_R c n).getLsbD i = false := by
  unfold own_R
  rw [BitVec.getLsbD_and, BitVec.getLsbD_xor, own_m1bit i hi, BitVec.getLsbD_shiftLeft, own_f15 _ (by omega)]
  have h1 : i - n < 4 := by omega
  simp [hi, h1, Nat.not_lt.mpr h]
theorem own_get (c : BitVec 64) {n j : Nat} (hn : n ≤ 60) (hj : j < 16) : ((own_R c n ||| (BitVec.ofNat 64 j) <<< n) >>> n) &&& 15#64 = BitVec.ofNat 64 j := by
  apply BitVec.eq_of_getLsbD_eq
  intro i hi
  rw [BitVec.getLsbD_and, BitVec.getLsbD_ushiftRight, BitVec.getLsbD_or, own_f15 i hi]
  by_cases h : i < 4
  · rw [own_Rbit c (by omega) (by omega) (by omega), BitVec.getLsbD_shiftLeft]
    have : n + i < 64 := by omega
    simp [h, this]
  · rw [own_kbit hj (by omega)]; simp [h]
theorem own_dis (c : BitVec 64) {n j : Nat} (hn : n ≤ 60) (hj : j < 16) : own_R c n &&& (BitVec.ofNat 64 j) <<< n = 0#64 := by
  apply BitVec.eq_of_getLsbD_eq
  intro i hi
  rw [BitVec.getLsbD_and, BitVec.getLsbD_shiftLeft, BitVec.getLsbD_zero]
  by_cases h : i < n
  · simp [h]
  · by_cases h4 : i < n + 4
    · rw [own_Rbit c hi (by omega) h4, Bool.false_and]
    · rw [own_kbit hj (by omega)]; simp
theorem own_minus (c : BitVec 64) {n j : Nat} (hn : n ≤ 60) (hj : j < 16) (h0 : 0 < j) : (own_R c n ||| (BitVec.ofNat 64 j) <<< n) - 1#64 <<< n = own_R c n ||| (BitVec.ofNat 64 (j - 1)) <<< n := by
  rw [← BitVec.add_eq_or_of_and_eq_zero _ _ (own_dis c hn hj), ← BitVec.add_eq_or_of_and_eq_zero _ _ (own_dis c hn (by omega : j - 1 < 16))]
  have e : (BitVec.ofNat 64 j) <<< n = (BitVec.ofNat 64 (j - 1)) <<< n + 1#64 <<< n := by
    have : BitVec.ofNat 64 j = BitVec.ofNat 64 (j - 1) + 1#64 := by
      rw [show (1#64) = BitVec.ofNat 64 1 from rfl, BitVec.ofNat_add_ofNat]; congr 1; omega
    rw [this, BitVec.shiftLeft_add_distrib]
  rw [e, ← BitVec.add_assoc, BitVec.add_sub_cancel]
def own_dec (c : Int64) (sh : Int32) : Int64 := if (XT.ushrL c sh &&& 15) = 0 then c else if (XT.ushrL c sh &&& 15) = 15 then c else c - (1 <<< (sh.toInt64 &&& 63))
def own_rest (c : Int64) (t : Nat) : Int64 := c &&& ((15 <<< ((Int32.ofNat t * 4).toInt64 &&& 63)) ^^^ -1)
def own_ctr (c : Int64) (t j : Nat) : Int64 := own_rest c t ||| ((Int32.ofNat j).toInt64 <<< ((Int32.ofNat t * 4).toInt64 &&& 63))
theorem own_rest_bv (c : Int64) {t : Nat} (ht : t < 16) : (own_rest c t).toBitVec = own_R c.toBitVec (4 * t) := by
  unfold own_rest own_R
  rw [Int64.toBitVec_and, Int64.toBitVec_xor, own_shl _ ht]; rfl
theorem own_ctr_bv (c : Int64) {t j : Nat} (ht : t < 16) (hj : j < 16) : (own_ctr c t j).toBitVec = own_R c.toBitVec (4 * t) ||| (BitVec.ofNat 64 j) <<< (4 * t) := by
  unfold own_ctr
  rw [Int64.toBitVec_or, own_rest_bv c ht, own_shl _ ht, own_cn j hj]
theorem own_cnt (c : Int64) {t j : Nat} (ht : t < 16) (hj : j < 16) : (XT.ushrL (own_ctr c t j) (Int32.ofNat t * 4) &&& 15) = Int64.ofNat j := by
  apply Int64.toBitVec_inj.mp
  rw [Int64.toBitVec_and, own_shr _ ht, own_ctr_bv c ht hj]
  exact own_get _ (by omega) hj
theorem own_j0 : ∀ j, j < 16 → (Int64.ofNat j = 0 ↔ j = 0) := by decide +kernel
theorem own_j15 : ∀ j, j < 16 → (Int64.ofNat j = 15 ↔ j = 15) := by decide +kernel
theorem own_dec0 (c : Int64) {t j : Nat} (ht : t < 16) (hj : j < 16) (h : Int32.ofNat j = 0) : own_dec (own_ctr c t j) (Int32.ofNat t * 4) = own_ctr c t j := by
  unfold own_dec; rw [own_cnt c ht hj, if_pos ((own_j0 j hj).mpr ((own_c0 j hj).mp h))]
theorem own_dec15 (c : Int64) {t j : Nat} (ht : t < 16) (hj : j < 16) (h : Int32.ofNat j = 15) : own_dec (own_ctr c t j) (Int32.ofNat t * 4) = own_ctr c t j := by
  unfold own_dec; rw [own_cnt c ht hj, if_pos ((own_j15 j hj).mpr ((own_c15 j hj).mp h))]; split <;> rfl
theorem own_decm (c : Int64) {t j : Nat} (ht : t < 16) (hj : j < 16) (h0 : ¬ Int32.ofNat j = 0) (h : ¬ Int32.ofNat j = 15) : own_dec (own_ctr c t j) (Int32.ofNat t * 4) = own_rest c t ||| ((Int32.ofNat j - 1).toInt64 <<< ((Int32.ofNat t * 4).toInt64 &&& 63)) := by
  unfold own_dec
  have h0' : ¬ j = 0 := fun q => h0 ((own_c0 j hj).mpr q)
  rw [own_cnt c ht hj, if_neg (fun q => h0' ((own_j0 j hj).mp q)), if_neg (fun q => h ((own_c15 j hj).mpr ((own_j15 j hj).mp q)))]
  apply Int64.toBitVec_inj.mp
  rw [Int64.toBitVec_sub, Int64.toBitVec_or, own_ctr_bv c ht hj, own_rest_bv c ht, own_shl _ ht, own_shl _ ht, own_c1 j hj (by omega)]
  exact own_minus _ (by omega) hj (by omega)
theorem d1_0 : decode prog_19_method_9_code 0 = .ok (.lload_n 0, 1) := by decide +kernel
theorem d1_1 : decode prog_19_method_9_code 1 = .ok (.iload_n 2, 1) := by decide +kernel
theorem d1_2 : decode prog_19_method_9_code 2 = .ok (.lushr, 1) := by decide +kernel
theorem d1_3 : decode prog_19_method_9_code 3 = .ok (.ldc2_w 22, 3) := by decide +kernel
theorem d1_6 : decode prog_19_method_9_code 6 = .ok (.land, 1) := by decide +kernel
theorem d1_7 : decode prog_19_method_9_code 7 = .ok (.lstore_n 3, 1) := by decide +kernel
theorem d1_8 : decode prog_19_method_9_code 8 = .ok (.lload_n 3, 1) := by decide +kernel
theorem d1_9 : decode prog_19_method_9_code 9 = .ok (.lconst 0, 1) := by decide +kernel
theorem d1_10 : decode prog_19_method_9_code 10 = .ok (.lcmp, 1) := by decide +kernel
theorem d1_11 : decode prog_19_method_9_code 11 = .ok (.ifCond .eq 11, 3) := by decide +kernel
theorem d1_14 : decode prog_19_method_9_code 14 = .ok (.lload_n 3, 1) := by decide +kernel
theorem d1_15 : decode prog_19_method_9_code 15 = .ok (.ldc2_w 22, 3) := by decide +kernel
theorem d1_18 : decode prog_19_method_9_code 18 = .ok (.lcmp, 1) := by decide +kernel
theorem d1_19 : decode prog_19_method_9_code 19 = .ok (.ifCond .ne 7, 3) := by decide +kernel
theorem d1_22 : decode prog_19_method_9_code 22 = .ok (.lload_n 0, 1) := by decide +kernel
theorem d1_23 : decode prog_19_method_9_code 23 = .ok (.goto 8, 3) := by decide +kernel
theorem d1_26 : decode prog_19_method_9_code 26 = .ok (.lload_n 0, 1) := by decide +kernel
theorem d1_27 : decode prog_19_method_9_code 27 = .ok (.lconst 1, 1) := by decide +kernel
theorem d1_28 : decode prog_19_method_9_code 28 = .ok (.iload_n 2, 1) := by decide +kernel
theorem d1_29 : decode prog_19_method_9_code 29 = .ok (.lshl, 1) := by decide +kernel
theorem d1_30 : decode prog_19_method_9_code 30 = .ok (.lsub, 1) := by decide +kernel
theorem d1_31 : decode prog_19_method_9_code 31 = .ok (.lreturn, 1) := by decide +kernel
theorem pn_0 : plainName "com/example/bit_sieve/bitsieve/CounterStore" = true := by first | (simp [plainName, overriddenIn]; done) | decide +kernel
theorem ef_1 (m : MethodId) {q1 : Int64} {p2 : Int32} : entryFrame m #[(.long q1), (.int p2)] 5 = mkF m 0 #[.val (.long q1), .second, .val (.int p2), .unset, .unset] [] := by first | (simp [entryFrame, mkF, argsToLocals, Value.category]; done) | rfl
def Q1 (Z : State) (q1 : Int64) (p2 : Int32) (h0 : Heap) (n0 : Nat) (v : Option Value) (h : Heap) (L : List Loc) : Prop := v = some (.long (own_dec q1 p2)) ∧ Fr n0 L ∧ h = h0
set_option maxRecDepth 65536 in
set_option maxHeartbeats 40000000 in
theorem rm1 (l : Launch) (Z : State) (a0 : Array Value) (hw : ∀ d ∈ tables_1, d.before a0 Z = true) (ws : List Jvm.Cond) (q1 : Int64) (p2 : Int32) (h0 : Heap) (n0 : Nat) (Z0 : n0 ≤ h0.size) :
    MetFree l (⟨"com/example/bit_sieve/bitsieve/CounterStore", "decremented", "(JI)J"⟩ : MethodName) (head1 (Jvm.Cond.code (⟨"com/example/bit_sieve/bitsieve/CounterStore", "decremented", "(JI)J"⟩ : MethodName) prog_19_method_9_code 5 (some .long) :: ws) ({ frames := 0, cells := 0, slots := 0, locals := 0 } : Room)) (fun a U => a = #[(.long q1), (.int p2)] ∧ Z.Warmed39 U.vm ∧ U.heap = h0) (fun _ _ _ _ _ => True) (fun _ U o U' => ∃ v L, o = .returned v ∧ Q1 Z q1 p2 h0 n0 v U'.heap L ∧ FrameEnd U o U' L (({ frames := 0, cells := 0, slots := 0, locals := 0 } : Room)).cells (({ frames := 0, cells := 0, slots := 0, locals := 0 } : Room)).slots) := by
  refine MetFree.of_bodySF (plainFor_of_name pn_0) hisR ?_
  intro p e s m args below meth c s₁ Bd hml0 hP hK
  obtain ⟨rfl, hZ, hh⟩ := hP
  have hx := Bd.exec
  have hby := Bd.bytes
  have hml : c.maxLocals = 5 := hml0
  have hown : s.vm.findClass "com/example/bit_sieve/bitsieve/CounterStore" = some m.cls := findClass_of_methodNamed Bd.named
  have hnm := (name_of_methodNamed Bd.named Bd.method).1
  have X0 : Stand p l e ({ frames := 0, cells := 0, slots := 0, locals := 0 } : Room) s m #[(.long q1), (.int p2)] below meth c s₁ [] 0 0 := Stand.of_body Bd
  have e0 : s₁.heap = h0 := by rw [← hh, Bd.state]; rfl
  have N0 := Fr.nil n0
  show own_Go p.tables e below (own_P s (Q1 Z q1 p2 h0 n0) ({ frames := 0, cells := 0, slots := 0, locals := 0 } : Room).cells ({ frames := 0, cells := 0, slots := 0, locals := 0 } : Room).slots) s₁ _
  rw [ef_1]
  show own_Go p.tables e below _ s₁ (mkF m 0 #[.val (.long q1), .second, .val (.int p2), .unset, .unset] [])
  refine own_go (fun tz kz => XT.lloadN X0.here hx rfl (hb hby d1_0) rfl kz) ?_
  show own_Go p.tables e below _ s₁ (mkF m 1 #[.val (.long q1), .second, .val (.int p2), .unset, .unset] [(.long q1)])
  refine own_go (fun tz kz => XS.iloadN X0.here hx rfl (hb hby d1_1) rfl kz) ?_
  show own_Go p.tables e below _ s₁ (mkF m 2 #[.val (.long q1), .second, .val (.int p2), .unset, .unset] [(.int p2), (.long q1)])
  refine own_go (fun tz kz => XT.lushr X0.here hx rfl (hb hby d1_2) rfl kz) ?_
  show own_Go p.tables e below _ s₁ (mkF m 3 #[.val (.long q1), .second, .val (.int p2), .unset, .unset] [(.long (XT.ushrL q1 p2))])
  refine own_go (fun tz kz => X0.ldc2J hx hown (mvT hZ (hw _ (List.mem_of_getElem? (i := 6) rfl))) rfl (hb hby d1_3) kz) ?_
  show own_Go p.tables e below _ s₁ (mkF m 6 #[.val (.long q1), .second, .val (.int p2), .unset, .unset] [(.long (15 : Int64)), (.long (XT.ushrL q1 p2))])
  refine own_go (fun tz kz => XT.land X0.here hx rfl (hb hby d1_6) rfl kz) ?_
  show own_Go p.tables e below _ s₁ (mkF m 7 #[.val (.long q1), .second, .val (.int p2), .unset, .unset] [(.long ((XT.ushrL q1 p2) &&& (15 : Int64)))])
  refine own_go (fun tz kz => XT.lstoreN X0.here hx rfl (hb hby d1_7) rfl (l' := #[.val (.long q1), .second, .val (.int p2), .val (.long ((XT.ushrL q1 p2) &&& (15 : Int64))), .second]) rfl kz) ?_
  show own_Go p.tables e below _ s₁ (mkF m 8 #[.val (.long q1), .second, .val (.int p2), .val (.long ((XT.ushrL q1 p2) &&& (15 : Int64))), .second] [])
  refine own_go (fun tz kz => XT.lloadN X0.here hx rfl (hb hby d1_8) rfl kz) ?_
  show own_Go p.tables e below _ s₁ (mkF m 9 #[.val (.long q1), .second, .val (.int p2), .val (.long ((XT.ushrL q1 p2) &&& (15 : Int64))), .second] [(.long ((XT.ushrL q1 p2) &&& (15 : Int64)))])
  refine own_go (fun tz kz => XT.lconst X0.here hx rfl (hb hby d1_9) kz) ?_
  show own_Go p.tables e below _ s₁ (mkF m 10 #[.val (.long q1), .second, .val (.int p2), .val (.long ((XT.ushrL q1 p2) &&& (15 : Int64))), .second] [(.long (0 : Int64)), (.long ((XT.ushrL q1 p2) &&& (15 : Int64)))])
  refine own_go (fun tz kz => XT.lcmp X0.here hx rfl (hb hby d1_10) rfl kz) ?_
  show own_Go p.tables e below _ s₁ (mkF m 11 #[.val (.long q1), .second, .val (.int p2), .val (.long ((XT.ushrL q1 p2) &&& (15 : Int64))), .second] [(.int (XT.cmpL ((XT.ushrL q1 p2) &&& (15 : Int64)) (0 : Int64)))])
  by_cases hc : ((XT.ushrL q1 p2) &&& (15 : Int64)) = (0 : Int64)
  ·
    refine own_go (fun tz kz => XS.ifYes X0.here hx rfl (pc0 := 11) (pc' := 22) rfl (hb hby d1_11) rfl (XT.ll_eq_t hc) (by decide) (by decide) kz) ?_
    show own_Go p.tables e below _ s₁ (mkF m 22 #[.val (.long q1), .second, .val (.int p2), .val (.long ((XT.ushrL q1 p2) &&& (15 : Int64))), .second] [])
    refine own_go (fun tz kz => XT.lloadN X0.here hx rfl (hb hby d1_22) rfl kz) ?_
    show own_Go p.tables e below _ s₁ (mkF m 23 #[.val (.long q1), .second, .val (.int p2), .val (.long ((XT.ushrL q1 p2) &&& (15 : Int64))), .second] [(.long q1)])
    refine own_go (fun tz kz => XS.goto X0.here hx rfl (pc0 := 23) (pc' := 31) rfl (hb hby d1_23) (by decide) (by decide) kz) ?_
    show own_Go p.tables e below _ s₁ (mkF m 31 #[.val (.long q1), .second, .val (.int p2), .val (.long ((XT.ushrL q1 p2) &&& (15 : Int64))), .second] [(.long q1)])
    obtain ⟨fs, hr, hrun, hended, hW, hsame⟩ := X0.leave (v := some (.long q1)) (fun h => by rw [Bd.returns] at h; cases h)
    refine ⟨_, _, ?_, hrun, hended, _, _, rfl, ?_, ⟨_, rfl⟩, hW, hsame.mono (by decide) (by decide)⟩
    · exact X0.lreturnOut hx Bd.returns (hb hby d1_31) hr
    · show Q1 Z q1 p2 h0 n0 _ s₁.heap _
      rw [e0]
      exact ⟨congrArg (fun z => some (Value.long z)) (if_pos hc).symm, N0, rfl⟩
  ·
    refine own_go (fun tz kz => XS.ifNo X0.here hx rfl (hb hby d1_11) rfl (XT.ll_eq_f hc) kz) ?_
    show own_Go p.tables e below _ s₁ (mkF m 14 #[.val (.long q1), .second, .val (.int p2), .val (.long ((XT.ushrL q1 p2) &&& (15 : Int64))), .second] [])
    refine own_go (fun tz kz => XT.lloadN X0.here hx rfl (hb hby d1_14) rfl kz) ?_
    show own_Go p.tables e below _ s₁ (mkF m 15 #[.val (.long q1), .second, .val (.int p2), .val (.long ((XT.ushrL q1 p2) &&& (15 : Int64))), .second] [(.long ((XT.ushrL q1 p2) &&& (15 : Int64)))])
    refine own_go (fun tz kz => X0.ldc2J hx hown (mvT hZ (hw _ (List.mem_of_getElem? (i := 6) rfl))) rfl (hb hby d1_15) kz) ?_
    show own_Go p.tables e below _ s₁ (mkF m 18 #[.val (.long q1), .second, .val (.int p2), .val (.long ((XT.ushrL q1 p2) &&& (15 : Int64))), .second] [(.long (15 : Int64)), (.long ((XT.ushrL q1 p2) &&& (15 : Int64)))])
    refine own_go (fun tz kz => XT.lcmp X0.here hx rfl (hb hby d1_18) rfl kz) ?_
    show own_Go p.tables e below _ s₁ (mkF m 19 #[.val (.long q1), .second, .val (.int p2), .val (.long ((XT.ushrL q1 p2) &&& (15 : Int64))), .second] [(.int (XT.cmpL ((XT.ushrL q1 p2) &&& (15 : Int64)) (15 : Int64)))])
    by_cases hd : ((XT.ushrL q1 p2) &&& (15 : Int64)) = (15 : Int64)
    ·
      refine own_go (fun tz kz => XS.ifNo X0.here hx rfl (hb hby d1_19) rfl (XT.ll_ne_f hd) kz) ?_
      show own_Go p.tables e below _ s₁ (mkF m 22 #[.val (.long q1), .second, .val (.int p2), .val (.long ((XT.ushrL q1 p2) &&& (15 : Int64))), .second] [])
      refine own_go (fun tz kz => XT.lloadN X0.here hx rfl (hb hby d1_22) rfl kz) ?_
      show own_Go p.tables e below _ s₁ (mkF m 23 #[.val (.long q1), .second, .val (.int p2), .val (.long ((XT.ushrL q1 p2) &&& (15 : Int64))), .second] [(.long q1)])
      refine own_go (fun tz kz => XS.goto X0.here hx rfl (pc0 := 23) (pc' := 31) rfl (hb hby d1_23) (by decide) (by decide) kz) ?_
      show own_Go p.tables e below _ s₁ (mkF m 31 #[.val (.long q1), .second, .val (.int p2), .val (.long ((XT.ushrL q1 p2) &&& (15 : Int64))), .second] [(.long q1)])
      obtain ⟨fs, hr, hrun, hended, hW, hsame⟩ := X0.leave (v := some (.long q1)) (fun h => by rw [Bd.returns] at h; cases h)
      refine ⟨_, _, ?_, hrun, hended, _, _, rfl, ?_, ⟨_, rfl⟩, hW, hsame.mono (by decide) (by decide)⟩
      · exact X0.lreturnOut hx Bd.returns (hb hby d1_31) hr
      · show Q1 Z q1 p2 h0 n0 _ s₁.heap _
        rw [e0]
        exact ⟨congrArg (fun z => some (Value.long z)) ((if_neg hc).trans (if_pos hd)).symm, N0, rfl⟩
    ·
      refine own_go (fun tz kz => XS.ifYes X0.here hx rfl (pc0 := 19) (pc' := 26) rfl (hb hby d1_19) rfl (XT.ll_ne_t hd) (by decide) (by decide) kz) ?_
      show own_Go p.tables e below _ s₁ (mkF m 26 #[.val (.long q1), .second, .val (.int p2), .val (.long ((XT.ushrL q1 p2) &&& (15 : Int64))), .second] [])
      refine own_go (fun tz kz => XT.lloadN X0.here hx rfl (hb hby d1_26) rfl kz) ?_
      show own_Go p.tables e below _ s₁ (mkF m 27 #[.val (.long q1), .second, .val (.int p2), .val (.long ((XT.ushrL q1 p2) &&& (15 : Int64))), .second] [(.long q1)])
      refine own_go (fun tz kz => XT.lconst X0.here hx rfl (hb hby d1_27) kz) ?_
      show own_Go p.tables e below _ s₁ (mkF m 28 #[.val (.long q1), .second, .val (.int p2), .val (.long ((XT.ushrL q1 p2) &&& (15 : Int64))), .second] [(.long (1 : Int64)), (.long q1)])
      refine own_go (fun tz kz => XS.iloadN X0.here hx rfl (hb hby d1_28) rfl kz) ?_
      show own_Go p.tables e below _ s₁ (mkF m 29 #[.val (.long q1), .second, .val (.int p2), .val (.long ((XT.ushrL q1 p2) &&& (15 : Int64))), .second] [(.int p2), (.long (1 : Int64)), (.long q1)])
      refine own_go (fun tz kz => XT.lshl X0.here hx rfl (hb hby d1_29) rfl kz) ?_
      show own_Go p.tables e below _ s₁ (mkF m 30 #[.val (.long q1), .second, .val (.int p2), .val (.long ((XT.ushrL q1 p2) &&& (15 : Int64))), .second] [(.long ((1 : Int64) <<< (p2.toInt64 &&& 63))), (.long q1)])
      refine own_go (fun tz kz => XT.lsub X0.here hx rfl (hb hby d1_30) rfl kz) ?_
      show own_Go p.tables e below _ s₁ (mkF m 31 #[.val (.long q1), .second, .val (.int p2), .val (.long ((XT.ushrL q1 p2) &&& (15 : Int64))), .second] [(.long (q1 - ((1 : Int64) <<< (p2.toInt64 &&& 63))))])
      obtain ⟨fs, hr, hrun, hended, hW, hsame⟩ := X0.leave (v := some (.long (q1 - ((1 : Int64) <<< (p2.toInt64 &&& 63))))) (fun h => by rw [Bd.returns] at h; cases h)
      refine ⟨_, _, ?_, hrun, hended, _, _, rfl, ?_, ⟨_, rfl⟩, hW, hsame.mono (by decide) (by decide)⟩
      · exact X0.lreturnOut hx Bd.returns (hb hby d1_31) hr
      · show Q1 Z q1 p2 h0 n0 _ s₁.heap _
        rw [e0]
        exact ⟨congrArg (fun z => some (Value.long z)) ((if_neg hc).trans (if_neg hd)).symm, N0, rfl⟩
theorem pd_0 : parseMethodDescriptor "(JI)J" = some ⟨[.long, .int], some .long⟩ := by decide +kernel
theorem pn_1 : plainName "com/example/bit_sieve/bitsieve/CounterStoreDecrementedPinLaw" = true := by first | (simp [plainName, overriddenIn]; done) | decide +kernel
theorem ef_0 (m : MethodId) {q1 : Int64} {p2 : Int32} {p3 : Int32} : entryFrame m #[(.long q1), (.int p2), (.int p3)] maxLocals = mkF m 0 #[.val (.long q1), .second, .val (.int p2), .val (.int p3), .unset, .unset, .unset, .unset, .unset, .unset, .unset, .unset, .unset, .unset, .unset, .unset] [] := by first | (simp [entryFrame, mkF, argsToLocals, Value.category, maxLocals]; done) | rfl
def Q0 (Z : State) (q1 : Int64) (p2 : Int32) (p3 : Int32) (h0 : Heap) (n0 : Nat) (v : Option Value) (h : Heap) (L : List Loc) : Prop := v = some (.int 1) ∧ Fr n0 L
set_option maxRecDepth 65536 in
set_option maxHeartbeats 40000000 in
theorem rm0 (l : Launch) (Z : State) (a0 : Array Value) (hw : ∀ d ∈ tables_1, d.before a0 Z = true) (ws : List Jvm.Cond) (q1 : Int64) (p2 : Int32) (p3 : Int32) (h0 : Heap) (n0 : Nat) (Z0 : n0 ≤ h0.size) :
    MetFree l x (head1 (Jvm.Cond.code x code maxLocals ret :: ws) room_1) (fun a U => a = #[(.long q1), (.int p2), (.int p3)] ∧ Z.Warmed39 U.vm ∧ U.heap = h0) (fun _ _ _ _ _ => True) (fun _ U o U' => ∃ v L, o = .returned v ∧ Q0 Z q1 p2 p3 h0 n0 v U'.heap L ∧ FrameEnd U o U' L (room_1).cells (room_1).slots) := by
  refine MetFree.of_bodySF (plainFor_of_name pn_1) hisR ?_
  intro p e s m args below meth c s₁ Bd hml0 hP hK
  obtain ⟨rfl, hZ, hh⟩ := hP
  have hx := Bd.exec
  have hby := Bd.bytes
  have hml : c.maxLocals = 16 := hml0
  have hown : s.vm.findClass "com/example/bit_sieve/bitsieve/CounterStoreDecrementedPinLaw" = some m.cls := findClass_of_methodNamed Bd.named
  have hnm := (name_of_methodNamed Bd.named Bd.method).1
  have X0 : Stand p l e room_1 s m #[(.long q1), (.int p2), (.int p3)] below meth c s₁ [] 0 0 := Stand.of_body Bd
  have e0 : s₁.heap = h0 := by rw [← hh, Bd.state]; rfl
  have N0 := Fr.nil n0
  show own_Go p.tables e below (own_P s (Q0 Z q1 p2 p3 h0 n0) room_1.cells room_1.slots) s₁ _
  rw [ef_0]
  show own_Go p.tables e below _ s₁ (mkF m 0 #[.val (.long q1), .second, .val (.int p2), .val (.int p3), .unset, .unset, .unset, .unset, .unset, .unset, .unset, .unset, .unset, .unset, .unset, .unset] [])
  obtain ⟨t, ht, et⟩ := own_low p2
  obtain ⟨j, hj, ej⟩ := own_low p3
  refine own_go (fun tz kz => XS.iloadN X0.here hx rfl (hb hby at_0) rfl kz) ?_
  show own_Go p.tables e below _ s₁ (mkF m 1 #[.val (.long q1), .second, .val (.int p2), .val (.int p3), .unset, .unset, .unset, .unset, .unset, .unset, .unset, .unset, .unset, .unset, .unset, .unset] [(.int p2)])
  refine own_go (fun tz kz => XS.bipush X0.here hx rfl (hb hby at_1) kz) ?_
  show own_Go p.tables e below _ s₁ (mkF m 3 #[.val (.long q1), .second, .val (.int p2), .val (.int p3), .unset, .unset, .unset, .unset, .unset, .unset, .unset, .unset, .unset, .unset, .unset, .unset] [(.int (15 : Int32)), (.int p2)])
  refine own_go (fun tz kz => XS.iand X0.here hx rfl (hb hby at_3) rfl kz) ?_
  show own_Go p.tables e below _ s₁ (mkF m 4 #[.val (.long q1), .second, .val (.int p2), .val (.int p3), .unset, .unset, .unset, .unset, .unset, .unset, .unset, .unset, .unset, .unset, .unset, .unset] [(.int (p2 &&& (15 : Int32)))])
  rw [show (p2 &&& (15 : Int32)) = (Int32.ofNat t) from et]
  show own_Go p.tables e below _ s₁ (mkF m 4 #[.val (.long q1), .second, .val (.int p2), .val (.int p3), .unset, .unset, .unset, .unset, .unset, .unset, .unset, .unset, .unset, .unset, .unset, .unset] [(.int (Int32.ofNat t))])
  refine own_go (fun tz kz => XS.iconst X0.here hx rfl (hb hby at_4) kz) ?_
  show own_Go p.tables e below _ s₁ (mkF m 5 #[.val (.long q1), .second, .val (.int p2), .val (.int p3), .unset, .unset, .unset, .unset, .unset, .unset, .unset, .unset, .unset, .unset, .unset, .unset] [(.int (4 : Int32)), (.int (Int32.ofNat t))])
  refine own_go (fun tz kz => XS.imul X0.here hx rfl (hb hby at_5) rfl kz) ?_
  show own_Go p.tables e below _ s₁ (mkF m 6 #[.val (.long q1), .second, .val (.int p2), .val (.int p3), .unset, .unset, .unset, .unset, .unset, .unset, .unset, .unset, .unset, .unset, .unset, .unset] [(.int ((Int32.ofNat t) * (4 : Int32)))])
  refine own_go (fun tz kz => XS.istore X0.here hx rfl (hb hby at_6) rfl (l' := #[.val (.long q1), .second, .val (.int p2), .val (.int p3), .val (.int ((Int32.ofNat t) * (4 : Int32))), .unset, .unset, .unset, .unset, .unset, .unset, .unset, .unset, .unset, .unset, .unset]) rfl kz) ?_
  show own_Go p.tables e below _ s₁ (mkF m 8 #[.val (.long q1), .second, .val (.int p2), .val (.int p3), .val (.int ((Int32.ofNat t) * (4 : Int32))), .unset, .unset, .unset, .unset, .unset, .unset, .unset, .unset, .unset, .unset, .unset] [])
  refine own_go (fun tz kz => X0.ldc2J hx hown (mvT hZ (hw _ (List.mem_of_getElem? (i := 0) rfl))) rfl (hb hby at_8) kz) ?_
  show own_Go p.tables e below _ s₁ (mkF m 11 #[.val (.long q1), .second, .val (.int p2), .val (.int p3), .val (.int ((Int32.ofNat t) * (4 : Int32))), .unset, .unset, .unset, .unset, .unset, .unset, .unset, .unset, .unset, .unset, .unset] [(.long (15 : Int64))])
  refine own_go (fun tz kz => XS.iload X0.here hx rfl (hb hby at_11) rfl kz) ?_
  show own_Go p.tables e below _ s₁ (mkF m 13 #[.val (.long q1), .second, .val (.int p2), .val (.int p3), .val (.int ((Int32.ofNat t) * (4 : Int32))), .unset, .unset, .unset, .unset, .unset, .unset, .unset, .unset, .unset, .unset, .unset] [(.int ((Int32.ofNat t) * (4 : Int32))), (.long (15 : Int64))])
  refine own_go (fun tz kz => XT.lshl X0.here hx rfl (hb hby at_13) rfl kz) ?_
  show own_Go p.tables e below _ s₁ (mkF m 14 #[.val (.long q1), .second, .val (.int p2), .val (.int p3), .val (.int ((Int32.ofNat t) * (4 : Int32))), .unset, .unset, .unset, .unset, .unset, .unset, .unset, .unset, .unset, .unset, .unset] [(.long ((15 : Int64) <<< (((Int32.ofNat t) * (4 : Int32)).toInt64 &&& 63)))])
  refine own_go (fun tz kz => XT.lstore X0.here hx rfl (hb hby at_14) rfl (l' := #[.val (.long q1), .second, .val (.int p2), .val (.int p3), .val (.int ((Int32.ofNat t) * (4 : Int32))), .val (.long ((15 : Int64) <<< (((Int32.ofNat t) * (4 : Int32)).toInt64 &&& 63))), .second, .unset, .unset, .unset, .unset, .unset, .unset, .unset, .unset, .unset]) rfl kz) ?_
  show own_Go p.tables e below _ s₁ (mkF m 16 #[.val (.long q1), .second, .val (.int p2), .val (.int p3), .val (.int ((Int32.ofNat t) * (4 : Int32))), .val (.long ((15 : Int64) <<< (((Int32.ofNat t) * (4 : Int32)).toInt64 &&& 63))), .second, .unset, .unset, .unset, .unset, .unset, .unset, .unset, .unset, .unset] [])
  refine own_go (fun tz kz => XS.iloadN X0.here hx rfl (hb hby at_16) rfl kz) ?_
  show own_Go p.tables e below _ s₁ (mkF m 17 #[.val (.long q1), .second, .val (.int p2), .val (.int p3), .val (.int ((Int32.ofNat t) * (4 : Int32))), .val (.long ((15 : Int64) <<< (((Int32.ofNat t) * (4 : Int32)).toInt64 &&& 63))), .second, .unset, .unset, .unset, .unset, .unset, .unset, .unset, .unset, .unset] [(.int p3)])
  refine own_go (fun tz kz => XS.bipush X0.here hx rfl (hb hby at_17) kz) ?_
  show own_Go p.tables e below _ s₁ (mkF m 19 #[.val (.long q1), .second, .val (.int p2), .val (.int p3), .val (.int ((Int32.ofNat t) * (4 : Int32))), .val (.long ((15 : Int64) <<< (((Int32.ofNat t) * (4 : Int32)).toInt64 &&& 63))), .second, .unset, .unset, .unset, .unset, .unset, .unset, .unset, .unset, .unset] [(.int (15 : Int32)), (.int p3)])
  refine own_go (fun tz kz => XS.iand X0.here hx rfl (hb hby at_19) rfl kz) ?_
  show own_Go p.tables e below _ s₁ (mkF m 20 #[.val (.long q1), .second, .val (.int p2), .val (.int p3), .val (.int ((Int32.ofNat t) * (4 : Int32))), .val (.long ((15 : Int64) <<< (((Int32.ofNat t) * (4 : Int32)).toInt64 &&& 63))), .second, .unset, .unset, .unset, .unset, .unset, .unset, .unset, .unset, .unset] [(.int (p3 &&& (15 : Int32)))])
  rw [show (p3 &&& (15 : Int32)) = (Int32.ofNat j) from ej]
  show own_Go p.tables e below _ s₁ (mkF m 20 #[.val (.long q1), .second, .val (.int p2), .val (.int p3), .val (.int ((Int32.ofNat t) * (4 : Int32))), .val (.long ((15 : Int64) <<< (((Int32.ofNat t) * (4 : Int32)).toInt64 &&& 63))), .second, .unset, .unset, .unset, .unset, .unset, .unset, .unset, .unset, .unset] [(.int (Int32.ofNat j))])
  refine own_go (fun tz kz => XS.istore X0.here hx rfl (hb hby at_20) rfl (l' := #[.val (.long q1), .second, .val (.int p2), .val (.int p3), .val (.int ((Int32.ofNat t) * (4 : Int32))), .val (.long ((15 : Int64) <<< (((Int32.ofNat t) * (4 : Int32)).toInt64 &&& 63))), .second, .val (.int (Int32.ofNat j)), .unset, .unset, .unset, .unset, .unset, .unset, .unset, .unset]) rfl kz) ?_
  show own_Go p.tables e below _ s₁ (mkF m 22 #[.val (.long q1), .second, .val (.int p2), .val (.int p3), .val (.int ((Int32.ofNat t) * (4 : Int32))), .val (.long ((15 : Int64) <<< (((Int32.ofNat t) * (4 : Int32)).toInt64 &&& 63))), .second, .val (.int (Int32.ofNat j)), .unset, .unset, .unset, .unset, .unset, .unset, .unset, .unset] [])
  refine own_go (fun tz kz => XT.lloadN X0.here hx rfl (hb hby at_22) rfl kz) ?_
  show own_Go p.tables e below _ s₁ (mkF m 23 #[.val (.long q1), .second, .val (.int p2), .val (.int p3), .val (.int ((Int32.ofNat t) * (4 : Int32))), .val (.long ((15 : Int64) <<< (((Int32.ofNat t) * (4 : Int32)).toInt64 &&& 63))), .second, .val (.int (Int32.ofNat j)), .unset, .unset, .unset, .unset, .unset, .unset, .unset, .unset] [(.long q1)])
  refine own_go (fun tz kz => XT.lload X0.here hx rfl (hb hby at_23) rfl kz) ?_
  show own_Go p.tables e below _ s₁ (mkF m 25 #[.val (.long q1), .second, .val (.int p2), .val (.int p3), .val (.int ((Int32.ofNat t) * (4 : Int32))), .val (.long ((15 : Int64) <<< (((Int32.ofNat t) * (4 : Int32)).toInt64 &&& 63))), .second, .val (.int (Int32.ofNat j)), .unset, .unset, .unset, .unset, .unset, .unset, .unset, .unset] [(.long ((15 : Int64) <<< (((Int32.ofNat t) * (4 : Int32)).toInt64 &&& 63))), (.long q1)])
  refine own_go (fun tz kz => X0.ldc2J hx hown (mvT hZ (hw _ (List.mem_of_getElem? (i := 1) rfl))) rfl (hb hby at_25) kz) ?_
  show own_Go p.tables e below _ s₁ (mkF m 28 #[.val (.long q1), .second, .val (.int p2), .val (.int p3), .val (.int ((Int32.ofNat t) * (4 : Int32))), .val (.long ((15 : Int64) <<< (((Int32.ofNat t) * (4 : Int32)).toInt64 &&& 63))), .second, .val (.int (Int32.ofNat j)), .unset, .unset, .unset, .unset, .unset, .unset, .unset, .unset] [(.long (-1 : Int64)), (.long ((15 : Int64) <<< (((Int32.ofNat t) * (4 : Int32)).toInt64 &&& 63))), (.long q1)])
  refine own_go (fun tz kz => XT.lxor X0.here hx rfl (hb hby at_28) rfl kz) ?_
  show own_Go p.tables e below _ s₁ (mkF m 29 #[.val (.long q1), .second, .val (.int p2), .val (.int p3), .val (.int ((Int32.ofNat t) * (4 : Int32))), .val (.long ((15 : Int64) <<< (((Int32.ofNat t) * (4 : Int32)).toInt64 &&& 63))), .second, .val (.int (Int32.ofNat j)), .unset, .unset, .unset, .unset, .unset, .unset, .unset, .unset] [(.long (((15 : Int64) <<< (((Int32.ofNat t) * (4 : Int32)).toInt64 &&& 63)) ^^^ (-1 : Int64))), (.long q1)])
  refine own_go (fun tz kz => XT.land X0.here hx rfl (hb hby at_29) rfl kz) ?_
  show own_Go p.tables e below _ s₁ (mkF m 30 #[.val (.long q1), .second, .val (.int p2), .val (.int p3), .val (.int ((Int32.ofNat t) * (4 : Int32))), .val (.long ((15 : Int64) <<< (((Int32.ofNat t) * (4 : Int32)).toInt64 &&& 63))), .second, .val (.int (Int32.ofNat j)), .unset, .unset, .unset, .unset, .unset, .unset, .unset, .unset] [(.long (q1 &&& (((15 : Int64) <<< (((Int32.ofNat t) * (4 : Int32)).toInt64 &&& 63)) ^^^ (-1 : Int64))))])
  refine own_go (fun tz kz => XT.lstore X0.here hx rfl (hb hby at_30) rfl (l' := #[.val (.long q1), .second, .val (.int p2), .val (.int p3), .val (.int ((Int32.ofNat t) * (4 : Int32))), .val (.long ((15 : Int64) <<< (((Int32.ofNat t) * (4 : Int32)).toInt64 &&& 63))), .second, .val (.int (Int32.ofNat j)), .val (.long (q1 &&& (((15 : Int64) <<< (((Int32.ofNat t) * (4 : Int32)).toInt64 &&& 63)) ^^^ (-1 : Int64)))), .second, .unset, .unset, .unset, .unset, .unset, .unset]) rfl kz) ?_
  show own_Go p.tables e below _ s₁ (mkF m 32 #[.val (.long q1), .second, .val (.int p2), .val (.int p3), .val (.int ((Int32.ofNat t) * (4 : Int32))), .val (.long ((15 : Int64) <<< (((Int32.ofNat t) * (4 : Int32)).toInt64 &&& 63))), .second, .val (.int (Int32.ofNat j)), .val (.long (q1 &&& (((15 : Int64) <<< (((Int32.ofNat t) * (4 : Int32)).toInt64 &&& 63)) ^^^ (-1 : Int64)))), .second, .unset, .unset, .unset, .unset, .unset, .unset] [])
  show own_Go p.tables e below _ s₁ (mkF m 32 #[.val (.long q1), .second, .val (.int p2), .val (.int p3), .val (.int ((Int32.ofNat t) * (4 : Int32))), .val (.long ((15 : Int64) <<< (((Int32.ofNat t) * (4 : Int32)).toInt64 &&& 63))), .second, .val (.int (Int32.ofNat j)), .val (.long (own_rest q1 t)), .second, .unset, .unset, .unset, .unset, .unset, .unset] [])
  refine own_go (fun tz kz => XT.lload X0.here hx rfl (hb hby at_32) rfl kz) ?_
  show own_Go p.tables e below _ s₁ (mkF m 34 #[.val (.long q1), .second, .val (.int p2), .val (.int p3), .val (.int ((Int32.ofNat t) * (4 : Int32))), .val (.long ((15 : Int64) <<< (((Int32.ofNat t) * (4 : Int32)).toInt64 &&& 63))), .second, .val (.int (Int32.ofNat j)), .val (.long (own_rest q1 t)), .second, .unset, .unset, .unset, .unset, .unset, .unset] [(.long (own_rest q1 t))])
  refine own_go (fun tz kz => XS.iload X0.here hx rfl (hb hby at_34) rfl kz) ?_
  show own_Go p.tables e below _ s₁ (mkF m 36 #[.val (.long q1), .second, .val (.int p2), .val (.int p3), .val (.int ((Int32.ofNat t) * (4 : Int32))), .val (.long ((15 : Int64) <<< (((Int32.ofNat t) * (4 : Int32)).toInt64 &&& 63))), .second, .val (.int (Int32.ofNat j)), .val (.long (own_rest q1 t)), .second, .unset, .unset, .unset, .unset, .unset, .unset] [(.int (Int32.ofNat j)), (.long (own_rest q1 t))])
  refine own_go (fun tz kz => XT.i2l X0.here hx rfl (hb hby at_36) rfl kz) ?_
  show own_Go p.tables e below _ s₁ (mkF m 37 #[.val (.long q1), .second, .val (.int p2), .val (.int p3), .val (.int ((Int32.ofNat t) * (4 : Int32))), .val (.long ((15 : Int64) <<< (((Int32.ofNat t) * (4 : Int32)).toInt64 &&& 63))), .second, .val (.int (Int32.ofNat j)), .val (.long (own_rest q1 t)), .second, .unset, .unset, .unset, .unset, .unset, .unset] [(.long (Int32.ofNat j).toInt64), (.long (own_rest q1 t))])
  refine own_go (fun tz kz => XS.iload X0.here hx rfl (hb hby at_37) rfl kz) ?_
  show own_Go p.tables e below _ s₁ (mkF m 39 #[.val (.long q1), .second, .val (.int p2), .val (.int p3), .val (.int ((Int32.ofNat t) * (4 : Int32))), .val (.long ((15 : Int64) <<< (((Int32.ofNat t) * (4 : Int32)).toInt64 &&& 63))), .second, .val (.int (Int32.ofNat j)), .val (.long (own_rest q1 t)), .second, .unset, .unset, .unset, .unset, .unset, .unset] [(.int ((Int32.ofNat t) * (4 : Int32))), (.long (Int32.ofNat j).toInt64), (.long (own_rest q1 t))])
  refine own_go (fun tz kz => XT.lshl X0.here hx rfl (hb hby at_39) rfl kz) ?_
  show own_Go p.tables e below _ s₁ (mkF m 40 #[.val (.long q1), .second, .val (.int p2), .val (.int p3), .val (.int ((Int32.ofNat t) * (4 : Int32))), .val (.long ((15 : Int64) <<< (((Int32.ofNat t) * (4 : Int32)).toInt64 &&& 63))), .second, .val (.int (Int32.ofNat j)), .val (.long (own_rest q1 t)), .second, .unset, .unset, .unset, .unset, .unset, .unset] [(.long ((Int32.ofNat j).toInt64 <<< (((Int32.ofNat t) * (4 : Int32)).toInt64 &&& 63))), (.long (own_rest q1 t))])
  refine own_go (fun tz kz => XT.lor X0.here hx rfl (hb hby at_40) rfl kz) ?_
  show own_Go p.tables e below _ s₁ (mkF m 41 #[.val (.long q1), .second, .val (.int p2), .val (.int p3), .val (.int ((Int32.ofNat t) * (4 : Int32))), .val (.long ((15 : Int64) <<< (((Int32.ofNat t) * (4 : Int32)).toInt64 &&& 63))), .second, .val (.int (Int32.ofNat j)), .val (.long (own_rest q1 t)), .second, .unset, .unset, .unset, .unset, .unset, .unset] [(.long ((own_rest q1 t) ||| ((Int32.ofNat j).toInt64 <<< (((Int32.ofNat t) * (4 : Int32)).toInt64 &&& 63))))])
  refine own_go (fun tz kz => XT.lstore X0.here hx rfl (hb hby at_41) rfl (l' := #[.val (.long q1), .second, .val (.int p2), .val (.int p3), .val (.int ((Int32.ofNat t) * (4 : Int32))), .val (.long ((15 : Int64) <<< (((Int32.ofNat t) * (4 : Int32)).toInt64 &&& 63))), .second, .val (.int (Int32.ofNat j)), .val (.long (own_rest q1 t)), .second, .val (.long ((own_rest q1 t) ||| ((Int32.ofNat j).toInt64 <<< (((Int32.ofNat t) * (4 : Int32)).toInt64 &&& 63)))), .second, .unset, .unset, .unset, .unset]) rfl kz) ?_
  show own_Go p.tables e below _ s₁ (mkF m 43 #[.val (.long q1), .second, .val (.int p2), .val (.int p3), .val (.int ((Int32.ofNat t) * (4 : Int32))), .val (.long ((15 : Int64) <<< (((Int32.ofNat t) * (4 : Int32)).toInt64 &&& 63))), .second, .val (.int (Int32.ofNat j)), .val (.long (own_rest q1 t)), .second, .val (.long ((own_rest q1 t) ||| ((Int32.ofNat j).toInt64 <<< (((Int32.ofNat t) * (4 : Int32)).toInt64 &&& 63)))), .second, .unset, .unset, .unset, .unset] [])
  show own_Go p.tables e below _ s₁ (mkF m 43 #[.val (.long q1), .second, .val (.int p2), .val (.int p3), .val (.int ((Int32.ofNat t) * (4 : Int32))), .val (.long ((15 : Int64) <<< (((Int32.ofNat t) * (4 : Int32)).toInt64 &&& 63))), .second, .val (.int (Int32.ofNat j)), .val (.long (own_rest q1 t)), .second, .val (.long (own_ctr q1 t j)), .second, .unset, .unset, .unset, .unset] [])
  refine own_go (fun tz kz => XT.lload X0.here hx rfl (hb hby at_43) rfl kz) ?_
  show own_Go p.tables e below _ s₁ (mkF m 45 #[.val (.long q1), .second, .val (.int p2), .val (.int p3), .val (.int ((Int32.ofNat t) * (4 : Int32))), .val (.long ((15 : Int64) <<< (((Int32.ofNat t) * (4 : Int32)).toInt64 &&& 63))), .second, .val (.int (Int32.ofNat j)), .val (.long (own_rest q1 t)), .second, .val (.long (own_ctr q1 t j)), .second, .unset, .unset, .unset, .unset] [(.long (own_ctr q1 t j))])
  refine own_go (fun tz kz => XS.iload X0.here hx rfl (hb hby at_45) rfl kz) ?_
  show own_Go p.tables e below _ s₁ (mkF m 47 #[.val (.long q1), .second, .val (.int p2), .val (.int p3), .val (.int ((Int32.ofNat t) * (4 : Int32))), .val (.long ((15 : Int64) <<< (((Int32.ofNat t) * (4 : Int32)).toInt64 &&& 63))), .second, .val (.int (Int32.ofNat j)), .val (.long (own_rest q1 t)), .second, .val (.long (own_ctr q1 t j)), .second, .unset, .unset, .unset, .unset] [(.int ((Int32.ofNat t) * (4 : Int32))), (.long (own_ctr q1 t j))])
  obtain ⟨_, _, ⟨T1, L1, k1, n1⟩, -, X1, ⟨Lc1, hQ1, l1, y1, z1⟩, st1⟩ := Jvm.LawKit.callS X0 hx (y := (⟨"com/example/bit_sieve/bitsieve/CounterStore", "decremented", "(JI)J"⟩ : MethodName)) hown (mvT hZ (hw _ (List.mem_of_getElem? (i := 2) rfl))) (mvT hZ (hw _ (List.mem_of_getElem? (i := 3) rfl))) (mvT hZ (hw _ (List.mem_of_getElem? (i := 4) rfl))) (mvT hZ (hw _ (List.mem_of_getElem? (i := 5) rfl))) (by decide) (backOf (W := 0) (rm1 l Z a0 hw [] (own_ctr q1 t j) (Int32.ofNat t * 4) h0 n0 Z0) hZ (hw _ (List.mem_of_getElem? (i := 5) rfl)) (hw _ (List.mem_of_getElem? (i := 4) rfl)) (by decide) (by decide)) (g := (mkF m 47 #[.val (.long q1), .second, .val (.int p2), .val (.int p3), .val (.int ((Int32.ofNat t) * (4 : Int32))), .val (.long ((15 : Int64) <<< (((Int32.ofNat t) * (4 : Int32)).toInt64 &&& 63))), .second, .val (.int (Int32.ofNat j)), .val (.long (own_rest q1 t)), .second, .val (.long (own_ctr q1 t j)), .second, .unset, .unset, .unset, .unset] [(.int ((Int32.ofNat t) * (4 : Int32))), (.long (own_ctr q1 t j))])) rfl (by rw [hml]; rfl) (argsL := [(.long (own_ctr q1 t j)), (.int ((Int32.ofNat t) * (4 : Int32)))]) (rest := []) (lenOf pd_0 rfl) rfl (by show 2 * 0 + _ ≤ _; exact Nat.le_of_eq rfl) (hb hby at_47) (fun _ _ => ⟨rfl, e0, (by decide : 0 + 0 ≤ _), (by decide : 0 + 0 ≤ _)⟩)
  dsimp only [Pt.U, Pt.locs, Pt.cells, Pt.slots] at X1 l1 y1 z1 st1 hQ1
  subst l1 y1 z1
  obtain ⟨rfl, N1q, e1⟩ := hQ1
  have N1 := Fr.app N0 N1q
  refine own_go (fun tz kz => st1 tz kz) ?_
  show own_Go p.tables e below _ T1 (mkF m 50 #[.val (.long q1), .second, .val (.int p2), .val (.int p3), .val (.int ((Int32.ofNat t) * (4 : Int32))), .val (.long ((15 : Int64) <<< (((Int32.ofNat t) * (4 : Int32)).toInt64 &&& 63))), .second, .val (.int (Int32.ofNat j)), .val (.long (own_rest q1 t)), .second, .val (.long (own_ctr q1 t j)), .second, .unset, .unset, .unset, .unset] [(.long (own_dec (own_ctr q1 t j) (Int32.ofNat t * 4)))])
  refine own_go (fun tz kz => XT.lstore X1.here hx rfl (hb hby at_50) rfl (l' := #[.val (.long q1), .second, .val (.int p2), .val (.int p3), .val (.int ((Int32.ofNat t) * (4 : Int32))), .val (.long ((15 : Int64) <<< (((Int32.ofNat t) * (4 : Int32)).toInt64 &&& 63))), .second, .val (.int (Int32.ofNat j)), .val (.long (own_rest q1 t)), .second, .val (.long (own_ctr q1 t j)), .second, .val (.long (own_dec (own_ctr q1 t j) (Int32.ofNat t * 4))), .second, .unset, .unset]) rfl kz) ?_
  show own_Go p.tables e below _ T1 (mkF m 52 #[.val (.long q1), .second, .val (.int p2), .val (.int p3), .val (.int ((Int32.ofNat t) * (4 : Int32))), .val (.long ((15 : Int64) <<< (((Int32.ofNat t) * (4 : Int32)).toInt64 &&& 63))), .second, .val (.int (Int32.ofNat j)), .val (.long (own_rest q1 t)), .second, .val (.long (own_ctr q1 t j)), .second, .val (.long (own_dec (own_ctr q1 t j) (Int32.ofNat t * 4))), .second, .unset, .unset] [])
  refine own_go (fun tz kz => XS.iload X1.here hx rfl (hb hby at_52) rfl kz) ?_
  show own_Go p.tables e below _ T1 (mkF m 54 #[.val (.long q1), .second, .val (.int p2), .val (.int p3), .val (.int ((Int32.ofNat t) * (4 : Int32))), .val (.long ((15 : Int64) <<< (((Int32.ofNat t) * (4 : Int32)).toInt64 &&& 63))), .second, .val (.int (Int32.ofNat j)), .val (.long (own_rest q1 t)), .second, .val (.long (own_ctr q1 t j)), .second, .val (.long (own_dec (own_ctr q1 t j) (Int32.ofNat t * 4))), .second, .unset, .unset] [(.int (Int32.ofNat j))])
  by_cases hc : (Int32.ofNat j) = (0 : Int32)
  ·
    refine own_go (fun tz kz => XS.ifNo X1.here hx rfl (hb hby at_54) rfl (XT.i0_ne_f hc) kz) ?_
    show own_Go p.tables e below _ T1 (mkF m 57 #[.val (.long q1), .second, .val (.int p2), .val (.int p3), .val (.int ((Int32.ofNat t) * (4 : Int32))), .val (.long ((15 : Int64) <<< (((Int32.ofNat t) * (4 : Int32)).toInt64 &&& 63))), .second, .val (.int (Int32.ofNat j)), .val (.long (own_rest q1 t)), .second, .val (.long (own_ctr q1 t j)), .second, .val (.long (own_dec (own_ctr q1 t j) (Int32.ofNat t * 4))), .second, .unset, .unset] [])
    refine own_go (fun tz kz => XT.lload X1.here hx rfl (hb hby at_57) rfl kz) ?_
    show own_Go p.tables e below _ T1 (mkF m 59 #[.val (.long q1), .second, .val (.int p2), .val (.int p3), .val (.int ((Int32.ofNat t) * (4 : Int32))), .val (.long ((15 : Int64) <<< (((Int32.ofNat t) * (4 : Int32)).toInt64 &&& 63))), .second, .val (.int (Int32.ofNat j)), .val (.long (own_rest q1 t)), .second, .val (.long (own_ctr q1 t j)), .second, .val (.long (own_dec (own_ctr q1 t j) (Int32.ofNat t * 4))), .second, .unset, .unset] [(.long (own_ctr q1 t j))])
    refine own_go (fun tz kz => XT.lstore X1.here hx rfl (hb hby at_59) rfl (l' := #[.val (.long q1), .second, .val (.int p2), .val (.int p3), .val (.int ((Int32.ofNat t) * (4 : Int32))), .val (.long ((15 : Int64) <<< (((Int32.ofNat t) * (4 : Int32)).toInt64 &&& 63))), .second, .val (.int (Int32.ofNat j)), .val (.long (own_rest q1 t)), .second, .val (.long (own_ctr q1 t j)), .second, .val (.long (own_dec (own_ctr q1 t j) (Int32.ofNat t * 4))), .second, .val (.long (own_ctr q1 t j)), .second]) rfl kz) ?_
    show own_Go p.tables e below _ T1 (mkF m 61 #[.val (.long q1), .second, .val (.int p2), .val (.int p3), .val (.int ((Int32.ofNat t) * (4 : Int32))), .val (.long ((15 : Int64) <<< (((Int32.ofNat t) * (4 : Int32)).toInt64 &&& 63))), .second, .val (.int (Int32.ofNat j)), .val (.long (own_rest q1 t)), .second, .val (.long (own_ctr q1 t j)), .second, .val (.long (own_dec (own_ctr q1 t j) (Int32.ofNat t * 4))), .second, .val (.long (own_ctr q1 t j)), .second] [])
    refine own_go (fun tz kz => XS.goto X1.here hx rfl (pc0 := 61) (pc' := 91) rfl (hb hby at_61) (by decide) (by decide) kz) ?_
    show own_Go p.tables e below _ T1 (mkF m 91 #[.val (.long q1), .second, .val (.int p2), .val (.int p3), .val (.int ((Int32.ofNat t) * (4 : Int32))), .val (.long ((15 : Int64) <<< (((Int32.ofNat t) * (4 : Int32)).toInt64 &&& 63))), .second, .val (.int (Int32.ofNat j)), .val (.long (own_rest q1 t)), .second, .val (.long (own_ctr q1 t j)), .second, .val (.long (own_dec (own_ctr q1 t j) (Int32.ofNat t * 4))), .second, .val (.long (own_ctr q1 t j)), .second] [])
    refine own_go (fun tz kz => XT.lload X1.here hx rfl (hb hby at_91) rfl kz) ?_
    show own_Go p.tables e below _ T1 (mkF m 93 #[.val (.long q1), .second, .val (.int p2), .val (.int p3), .val (.int ((Int32.ofNat t) * (4 : Int32))), .val (.long ((15 : Int64) <<< (((Int32.ofNat t) * (4 : Int32)).toInt64 &&& 63))), .second, .val (.int (Int32.ofNat j)), .val (.long (own_rest q1 t)), .second, .val (.long (own_ctr q1 t j)), .second, .val (.long (own_dec (own_ctr q1 t j) (Int32.ofNat t * 4))), .second, .val (.long (own_ctr q1 t j)), .second] [(.long (own_dec (own_ctr q1 t j) (Int32.ofNat t * 4)))])
    refine own_go (fun tz kz => XT.lload X1.here hx rfl (hb hby at_93) rfl kz) ?_
    show own_Go p.tables e below _ T1 (mkF m 95 #[.val (.long q1), .second, .val (.int p2), .val (.int p3), .val (.int ((Int32.ofNat t) * (4 : Int32))), .val (.long ((15 : Int64) <<< (((Int32.ofNat t) * (4 : Int32)).toInt64 &&& 63))), .second, .val (.int (Int32.ofNat j)), .val (.long (own_rest q1 t)), .second, .val (.long (own_ctr q1 t j)), .second, .val (.long (own_dec (own_ctr q1 t j) (Int32.ofNat t * 4))), .second, .val (.long (own_ctr q1 t j)), .second] [(.long (own_ctr q1 t j)), (.long (own_dec (own_ctr q1 t j) (Int32.ofNat t * 4)))])
    refine own_go (fun tz kz => XT.lcmp X1.here hx rfl (hb hby at_95) rfl kz) ?_
    show own_Go p.tables e below _ T1 (mkF m 96 #[.val (.long q1), .second, .val (.int p2), .val (.int p3), .val (.int ((Int32.ofNat t) * (4 : Int32))), .val (.long ((15 : Int64) <<< (((Int32.ofNat t) * (4 : Int32)).toInt64 &&& 63))), .second, .val (.int (Int32.ofNat j)), .val (.long (own_rest q1 t)), .second, .val (.long (own_ctr q1 t j)), .second, .val (.long (own_dec (own_ctr q1 t j) (Int32.ofNat t * 4))), .second, .val (.long (own_ctr q1 t j)), .second] [(.int (XT.cmpL (own_dec (own_ctr q1 t j) (Int32.ofNat t * 4)) (own_ctr q1 t j)))])
    refine own_go (fun tz kz => XS.ifNo X1.here hx rfl (hb hby at_96) rfl (XT.ll_ne_f (own_dec0 q1 ht hj hc)) kz) ?_
    show own_Go p.tables e below _ T1 (mkF m 99 #[.val (.long q1), .second, .val (.int p2), .val (.int p3), .val (.int ((Int32.ofNat t) * (4 : Int32))), .val (.long ((15 : Int64) <<< (((Int32.ofNat t) * (4 : Int32)).toInt64 &&& 63))), .second, .val (.int (Int32.ofNat j)), .val (.long (own_rest q1 t)), .second, .val (.long (own_ctr q1 t j)), .second, .val (.long (own_dec (own_ctr q1 t j) (Int32.ofNat t * 4))), .second, .val (.long (own_ctr q1 t j)), .second] [])
    refine own_go (fun tz kz => XS.iconst X1.here hx rfl (hb hby at_99) kz) ?_
    show own_Go p.tables e below _ T1 (mkF m 100 #[.val (.long q1), .second, .val (.int p2), .val (.int p3), .val (.int ((Int32.ofNat t) * (4 : Int32))), .val (.long ((15 : Int64) <<< (((Int32.ofNat t) * (4 : Int32)).toInt64 &&& 63))), .second, .val (.int (Int32.ofNat j)), .val (.long (own_rest q1 t)), .second, .val (.long (own_ctr q1 t j)), .second, .val (.long (own_dec (own_ctr q1 t j) (Int32.ofNat t * 4))), .second, .val (.long (own_ctr q1 t j)), .second] [(.int (1 : Int32))])
    refine own_go (fun tz kz => XS.goto X1.here hx rfl (pc0 := 100) (pc' := 104) rfl (hb hby at_100) (by decide) (by decide) kz) ?_
    show own_Go p.tables e below _ T1 (mkF m 104 #[.val (.long q1), .second, .val (.int p2), .val (.int p3), .val (.int ((Int32.ofNat t) * (4 : Int32))), .val (.long ((15 : Int64) <<< (((Int32.ofNat t) * (4 : Int32)).toInt64 &&& 63))), .second, .val (.int (Int32.ofNat j)), .val (.long (own_rest q1 t)), .second, .val (.long (own_ctr q1 t j)), .second, .val (.long (own_dec (own_ctr q1 t j) (Int32.ofNat t * 4))), .second, .val (.long (own_ctr q1 t j)), .second] [(.int (1 : Int32))])
    obtain ⟨fs, hr, hrun, hended, hW, hsame⟩ := X1.leave (v := some (.int (1 : Int32))) (fun h => by rw [Bd.returns] at h; cases h)
    refine ⟨_, _, ?_, hrun, hended, _, _, rfl, ?_, ⟨_, rfl⟩, hW, hsame.mono (by decide) (by decide)⟩
    · exact retN X1 hx (t := .boolean) Bd.returns (by simp) (hb hby at_104) hr
    · show Q0 Z q1 p2 p3 h0 n0 _ T1.heap _
      rw [e1]
      exact ⟨rfl, N1⟩
  ·
    refine own_go (fun tz kz => XS.ifYes X1.here hx rfl (pc0 := 54) (pc' := 64) rfl (hb hby at_54) rfl (XT.i0_ne_t hc) (by decide) (by decide) kz) ?_
    show own_Go p.tables e below _ T1 (mkF m 64 #[.val (.long q1), .second, .val (.int p2), .val (.int p3), .val (.int ((Int32.ofNat t) * (4 : Int32))), .val (.long ((15 : Int64) <<< (((Int32.ofNat t) * (4 : Int32)).toInt64 &&& 63))), .second, .val (.int (Int32.ofNat j)), .val (.long (own_rest q1 t)), .second, .val (.long (own_ctr q1 t j)), .second, .val (.long (own_dec (own_ctr q1 t j) (Int32.ofNat t * 4))), .second, .unset, .unset] [])
    refine own_go (fun tz kz => XS.iload X1.here hx rfl (hb hby at_64) rfl kz) ?_
    show own_Go p.tables e below _ T1 (mkF m 66 #[.val (.long q1), .second, .val (.int p2), .val (.int p3), .val (.int ((Int32.ofNat t) * (4 : Int32))), .val (.long ((15 : Int64) <<< (((Int32.ofNat t) * (4 : Int32)).toInt64 &&& 63))), .second, .val (.int (Int32.ofNat j)), .val (.long (own_rest q1 t)), .second, .val (.long (own_ctr q1 t j)), .second, .val (.long (own_dec (own_ctr q1 t j) (Int32.ofNat t * 4))), .second, .unset, .unset] [(.int (Int32.ofNat j))])
    refine own_go (fun tz kz => XS.bipush X1.here hx rfl (hb hby at_66) kz) ?_
    show own_Go p.tables e below _ T1 (mkF m 68 #[.val (.long q1), .second, .val (.int p2), .val (.int p3), .val (.int ((Int32.ofNat t) * (4 : Int32))), .val (.long ((15 : Int64) <<< (((Int32.ofNat t) * (4 : Int32)).toInt64 &&& 63))), .second, .val (.int (Int32.ofNat j)), .val (.long (own_rest q1 t)), .second, .val (.long (own_ctr q1 t j)), .second, .val (.long (own_dec (own_ctr q1 t j) (Int32.ofNat t * 4))), .second, .unset, .unset] [(.int (15 : Int32)), (.int (Int32.ofNat j))])
    by_cases hd : (Int32.ofNat j) = (15 : Int32)
    ·
      refine own_go (fun tz kz => XS.icmpNo X1.here hx rfl (hb hby at_68) rfl (XT.ii_ne_f hd) kz) ?_
      show own_Go p.tables e below _ T1 (mkF m 71 #[.val (.long q1), .second, .val (.int p2), .val (.int p3), .val (.int ((Int32.ofNat t) * (4 : Int32))), .val (.long ((15 : Int64) <<< (((Int32.ofNat t) * (4 : Int32)).toInt64 &&& 63))), .second, .val (.int (Int32.ofNat j)), .val (.long (own_rest q1 t)), .second, .val (.long (own_ctr q1 t j)), .second, .val (.long (own_dec (own_ctr q1 t j) (Int32.ofNat t * 4))), .second, .unset, .unset] [])
      refine own_go (fun tz kz => XT.lload X1.here hx rfl (hb hby at_71) rfl kz) ?_
      show own_Go p.tables e below _ T1 (mkF m 73 #[.val (.long q1), .second, .val (.int p2), .val (.int p3), .val (.int ((Int32.ofNat t) * (4 : Int32))), .val (.long ((15 : Int64) <<< (((Int32.ofNat t) * (4 : Int32)).toInt64 &&& 63))), .second, .val (.int (Int32.ofNat j)), .val (.long (own_rest q1 t)), .second, .val (.long (own_ctr q1 t j)), .second, .val (.long (own_dec (own_ctr q1 t j) (Int32.ofNat t * 4))), .second, .unset, .unset] [(.long (own_ctr q1 t j))])
      refine own_go (fun tz kz => XT.lstore X1.here hx rfl (hb hby at_73) rfl (l' := #[.val (.long q1), .second, .val (.int p2), .val (.int p3), .val (.int ((Int32.ofNat t) * (4 : Int32))), .val (.long ((15 : Int64) <<< (((Int32.ofNat t) * (4 : Int32)).toInt64 &&& 63))), .second, .val (.int (Int32.ofNat j)), .val (.long (own_rest q1 t)), .second, .val (.long (own_ctr q1 t j)), .second, .val (.long (own_dec (own_ctr q1 t j) (Int32.ofNat t * 4))), .second, .val (.long (own_ctr q1 t j)), .second]) rfl kz) ?_
      show own_Go p.tables e below _ T1 (mkF m 75 #[.val (.long q1), .second, .val (.int p2), .val (.int p3), .val (.int ((Int32.ofNat t) * (4 : Int32))), .val (.long ((15 : Int64) <<< (((Int32.ofNat t) * (4 : Int32)).toInt64 &&& 63))), .second, .val (.int (Int32.ofNat j)), .val (.long (own_rest q1 t)), .second, .val (.long (own_ctr q1 t j)), .second, .val (.long (own_dec (own_ctr q1 t j) (Int32.ofNat t * 4))), .second, .val (.long (own_ctr q1 t j)), .second] [])
      refine own_go (fun tz kz => XS.goto X1.here hx rfl (pc0 := 75) (pc' := 91) rfl (hb hby at_75) (by decide) (by decide) kz) ?_
      show own_Go p.tables e below _ T1 (mkF m 91 #[.val (.long q1), .second, .val (.int p2), .val (.int p3), .val (.int ((Int32.ofNat t) * (4 : Int32))), .val (.long ((15 : Int64) <<< (((Int32.ofNat t) * (4 : Int32)).toInt64 &&& 63))), .second, .val (.int (Int32.ofNat j)), .val (.long (own_rest q1 t)), .second, .val (.long (own_ctr q1 t j)), .second, .val (.long (own_dec (own_ctr q1 t j) (Int32.ofNat t * 4))), .second, .val (.long (own_ctr q1 t j)), .second] [])
      refine own_go (fun tz kz => XT.lload X1.here hx rfl (hb hby at_91) rfl kz) ?_
      show own_Go p.tables e below _ T1 (mkF m 93 #[.val (.long q1), .second, .val (.int p2), .val (.int p3), .val (.int ((Int32.ofNat t) * (4 : Int32))), .val (.long ((15 : Int64) <<< (((Int32.ofNat t) * (4 : Int32)).toInt64 &&& 63))), .second, .val (.int (Int32.ofNat j)), .val (.long (own_rest q1 t)), .second, .val (.long (own_ctr q1 t j)), .second, .val (.long (own_dec (own_ctr q1 t j) (Int32.ofNat t * 4))), .second, .val (.long (own_ctr q1 t j)), .second] [(.long (own_dec (own_ctr q1 t j) (Int32.ofNat t * 4)))])
      refine own_go (fun tz kz => XT.lload X1.here hx rfl (hb hby at_93) rfl kz) ?_
      show own_Go p.tables e below _ T1 (mkF m 95 #[.val (.long q1), .second, .val (.int p2), .val (.int p3), .val (.int ((Int32.ofNat t) * (4 : Int32))), .val (.long ((15 : Int64) <<< (((Int32.ofNat t) * (4 : Int32)).toInt64 &&& 63))), .second, .val (.int (Int32.ofNat j)), .val (.long (own_rest q1 t)), .second, .val (.long (own_ctr q1 t j)), .second, .val (.long (own_dec (own_ctr q1 t j) (Int32.ofNat t * 4))), .second, .val (.long (own_ctr q1 t j)), .second] [(.long (own_ctr q1 t j)), (.long (own_dec (own_ctr q1 t j) (Int32.ofNat t * 4)))])
      refine own_go (fun tz kz => XT.lcmp X1.here hx rfl (hb hby at_95) rfl kz) ?_
      show own_Go p.tables e below _ T1 (mkF m 96 #[.val (.long q1), .second, .val (.int p2), .val (.int p3), .val (.int ((Int32.ofNat t) * (4 : Int32))), .val (.long ((15 : Int64) <<< (((Int32.ofNat t) * (4 : Int32)).toInt64 &&& 63))), .second, .val (.int (Int32.ofNat j)), .val (.long (own_rest q1 t)), .second, .val (.long (own_ctr q1 t j)), .second, .val (.long (own_dec (own_ctr q1 t j) (Int32.ofNat t * 4))), .second, .val (.long (own_ctr q1 t j)), .second] [(.int (XT.cmpL (own_dec (own_ctr q1 t j) (Int32.ofNat t * 4)) (own_ctr q1 t j)))])
      refine own_go (fun tz kz => XS.ifNo X1.here hx rfl (hb hby at_96) rfl (XT.ll_ne_f (own_dec15 q1 ht hj hd)) kz) ?_
      show own_Go p.tables e below _ T1 (mkF m 99 #[.val (.long q1), .second, .val (.int p2), .val (.int p3), .val (.int ((Int32.ofNat t) * (4 : Int32))), .val (.long ((15 : Int64) <<< (((Int32.ofNat t) * (4 : Int32)).toInt64 &&& 63))), .second, .val (.int (Int32.ofNat j)), .val (.long (own_rest q1 t)), .second, .val (.long (own_ctr q1 t j)), .second, .val (.long (own_dec (own_ctr q1 t j) (Int32.ofNat t * 4))), .second, .val (.long (own_ctr q1 t j)), .second] [])
      refine own_go (fun tz kz => XS.iconst X1.here hx rfl (hb hby at_99) kz) ?_
      show own_Go p.tables e below _ T1 (mkF m 100 #[.val (.long q1), .second, .val (.int p2), .val (.int p3), .val (.int ((Int32.ofNat t) * (4 : Int32))), .val (.long ((15 : Int64) <<< (((Int32.ofNat t) * (4 : Int32)).toInt64 &&& 63))), .second, .val (.int (Int32.ofNat j)), .val (.long (own_rest q1 t)), .second, .val (.long (own_ctr q1 t j)), .second, .val (.long (own_dec (own_ctr q1 t j) (Int32.ofNat t * 4))), .second, .val (.long (own_ctr q1 t j)), .second] [(.int (1 : Int32))])
      refine own_go (fun tz kz => XS.goto X1.here hx rfl (pc0 := 100) (pc' := 104) rfl (hb hby at_100) (by decide) (by decide) kz) ?_
      show own_Go p.tables e below _ T1 (mkF m 104 #[.val (.long q1), .second, .val (.int p2), .val (.int p3), .val (.int ((Int32.ofNat t) * (4 : Int32))), .val (.long ((15 : Int64) <<< (((Int32.ofNat t) * (4 : Int32)).toInt64 &&& 63))), .second, .val (.int (Int32.ofNat j)), .val (.long (own_rest q1 t)), .second, .val (.long (own_ctr q1 t j)), .second, .val (.long (own_dec (own_ctr q1 t j) (Int32.ofNat t * 4))), .second, .val (.long (own_ctr q1 t j)), .second] [(.int (1 : Int32))])
      obtain ⟨fs, hr, hrun, hended, hW, hsame⟩ := X1.leave (v := some (.int (1 : Int32))) (fun h => by rw [Bd.returns] at h; cases h)
      refine ⟨_, _, ?_, hrun, hended, _, _, rfl, ?_, ⟨_, rfl⟩, hW, hsame.mono (by decide) (by decide)⟩
      · exact retN X1 hx (t := .boolean) Bd.returns (by simp) (hb hby at_104) hr
      · show Q0 Z q1 p2 p3 h0 n0 _ T1.heap _
        rw [e1]
        exact ⟨rfl, N1⟩
    ·
      refine own_go (fun tz kz => XS.icmpYes X1.here hx rfl (pc0 := 68) (pc' := 78) rfl (hb hby at_68) rfl (XT.ii_ne_t hd) (by decide) (by decide) kz) ?_
      show own_Go p.tables e below _ T1 (mkF m 78 #[.val (.long q1), .second, .val (.int p2), .val (.int p3), .val (.int ((Int32.ofNat t) * (4 : Int32))), .val (.long ((15 : Int64) <<< (((Int32.ofNat t) * (4 : Int32)).toInt64 &&& 63))), .second, .val (.int (Int32.ofNat j)), .val (.long (own_rest q1 t)), .second, .val (.long (own_ctr q1 t j)), .second, .val (.long (own_dec (own_ctr q1 t j) (Int32.ofNat t * 4))), .second, .unset, .unset] [])
      refine own_go (fun tz kz => XT.lload X1.here hx rfl (hb hby at_78) rfl kz) ?_
      show own_Go p.tables e below _ T1 (mkF m 80 #[.val (.long q1), .second, .val (.int p2), .val (.int p3), .val (.int ((Int32.ofNat t) * (4 : Int32))), .val (.long ((15 : Int64) <<< (((Int32.ofNat t) * (4 : Int32)).toInt64 &&& 63))), .second, .val (.int (Int32.ofNat j)), .val (.long (own_rest q1 t)), .second, .val (.long (own_ctr q1 t j)), .second, .val (.long (own_dec (own_ctr q1 t j) (Int32.ofNat t * 4))), .second, .unset, .unset] [(.long (own_rest q1 t))])
      refine own_go (fun tz kz => XS.iload X1.here hx rfl (hb hby at_80) rfl kz) ?_
      show own_Go p.tables e below _ T1 (mkF m 82 #[.val (.long q1), .second, .val (.int p2), .val (.int p3), .val (.int ((Int32.ofNat t) * (4 : Int32))), .val (.long ((15 : Int64) <<< (((Int32.ofNat t) * (4 : Int32)).toInt64 &&& 63))), .second, .val (.int (Int32.ofNat j)), .val (.long (own_rest q1 t)), .second, .val (.long (own_ctr q1 t j)), .second, .val (.long (own_dec (own_ctr q1 t j) (Int32.ofNat t * 4))), .second, .unset, .unset] [(.int (Int32.ofNat j)), (.long (own_rest q1 t))])
      refine own_go (fun tz kz => XS.iconst X1.here hx rfl (hb hby at_82) kz) ?_
      show own_Go p.tables e below _ T1 (mkF m 83 #[.val (.long q1), .second, .val (.int p2), .val (.int p3), .val (.int ((Int32.ofNat t) * (4 : Int32))), .val (.long ((15 : Int64) <<< (((Int32.ofNat t) * (4 : Int32)).toInt64 &&& 63))), .second, .val (.int (Int32.ofNat j)), .val (.long (own_rest q1 t)), .second, .val (.long (own_ctr q1 t j)), .second, .val (.long (own_dec (own_ctr q1 t j) (Int32.ofNat t * 4))), .second, .unset, .unset] [(.int (1 : Int32)), (.int (Int32.ofNat j)), (.long (own_rest q1 t))])
      refine own_go (fun tz kz => XS.isub X1.here hx rfl (hb hby at_83) rfl kz) ?_
      show own_Go p.tables e below _ T1 (mkF m 84 #[.val (.long q1), .second, .val (.int p2), .val (.int p3), .val (.int ((Int32.ofNat t) * (4 : Int32))), .val (.long ((15 : Int64) <<< (((Int32.ofNat t) * (4 : Int32)).toInt64 &&& 63))), .second, .val (.int (Int32.ofNat j)), .val (.long (own_rest q1 t)), .second, .val (.long (own_ctr q1 t j)), .second, .val (.long (own_dec (own_ctr q1 t j) (Int32.ofNat t * 4))), .second, .unset, .unset] [(.int ((Int32.ofNat j) - (1 : Int32))), (.long (own_rest q1 t))])
      refine own_go (fun tz kz => XT.i2l X1.here hx rfl (hb hby at_84) rfl kz) ?_
      show own_Go p.tables e below _ T1 (mkF m 85 #[.val (.long q1), .second, .val (.int p2), .val (.int p3), .val (.int ((Int32.ofNat t) * (4 : Int32))), .val (.long ((15 : Int64) <<< (((Int32.ofNat t) * (4 : Int32)).toInt64 &&& 63))), .second, .val (.int (Int32.ofNat j)), .val (.long (own_rest q1 t)), .second, .val (.long (own_ctr q1 t j)), .second, .val (.long (own_dec (own_ctr q1 t j) (Int32.ofNat t * 4))), .second, .unset, .unset] [(.long ((Int32.ofNat j) - (1 : Int32)).toInt64), (.long (own_rest q1 t))])
      refine own_go (fun tz kz => XS.iload X1.here hx rfl (hb hby at_85) rfl kz) ?_
      show own_Go p.tables e below _ T1 (mkF m 87 #[.val (.long q1), .second, .val (.int p2), .val (.int p3), .val (.int ((Int32.ofNat t) * (4 : Int32))), .val (.long ((15 : Int64) <<< (((Int32.ofNat t) * (4 : Int32)).toInt64 &&& 63))), .second, .val (.int (Int32.ofNat j)), .val (.long (own_rest q1 t)), .second, .val (.long (own_ctr q1 t j)), .second, .val (.long (own_dec (own_ctr q1 t j) (Int32.ofNat t * 4))), .second, .unset, .unset] [(.int ((Int32.ofNat t) * (4 : Int32))), (.long ((Int32.ofNat j) - (1 : Int32)).toInt64), (.long (own_rest q1 t))])
      refine own_go (fun tz kz => XT.lshl X1.here hx rfl (hb hby at_87) rfl kz) ?_
      show own_Go p.tables e below _ T1 (mkF m 88 #[.val (.long q1), .second, .val (.int p2), .val (.int p3), .val (.int ((Int32.ofNat t) * (4 : Int32))), .val (.long ((15 : Int64) <<< (((Int32.ofNat t) * (4 : Int32)).toInt64 &&& 63))), .second, .val (.int (Int32.ofNat j)), .val (.long (own_rest q1 t)), .second, .val (.long (own_ctr q1 t j)), .second, .val (.long (own_dec (own_ctr q1 t j) (Int32.ofNat t * 4))), .second, .unset, .unset] [(.long (((Int32.ofNat j) - (1 : Int32)).toInt64 <<< (((Int32.ofNat t) * (4 : Int32)).toInt64 &&& 63))), (.long (own_rest q1 t))])
      refine own_go (fun tz kz => XT.lor X1.here hx rfl (hb hby at_88) rfl kz) ?_
      show own_Go p.tables e below _ T1 (mkF m 89 #[.val (.long q1), .second, .val (.int p2), .val (.int p3), .val (.int ((Int32.ofNat t) * (4 : Int32))), .val (.long ((15 : Int64) <<< (((Int32.ofNat t) * (4 : Int32)).toInt64 &&& 63))), .second, .val (.int (Int32.ofNat j)), .val (.long (own_rest q1 t)), .second, .val (.long (own_ctr q1 t j)), .second, .val (.long (own_dec (own_ctr q1 t j) (Int32.ofNat t * 4))), .second, .unset, .unset] [(.long ((own_rest q1 t) ||| (((Int32.ofNat j) - (1 : Int32)).toInt64 <<< (((Int32.ofNat t) * (4 : Int32)).toInt64 &&& 63))))])
      refine own_go (fun tz kz => XT.lstore X1.here hx rfl (hb hby at_89) rfl (l' := #[.val (.long q1), .second, .val (.int p2), .val (.int p3), .val (.int ((Int32.ofNat t) * (4 : Int32))), .val (.long ((15 : Int64) <<< (((Int32.ofNat t) * (4 : Int32)).toInt64 &&& 63))), .second, .val (.int (Int32.ofNat j)), .val (.long (own_rest q1 t)), .second, .val (.long (own_ctr q1 t j)), .second, .val (.long (own_dec (own_ctr q1 t j) (Int32.ofNat t * 4))), .second, .val (.long ((own_rest q1 t) ||| (((Int32.ofNat j) - (1 : Int32)).toInt64 <<< (((Int32.ofNat t) * (4 : Int32)).toInt64 &&& 63)))), .second]) rfl kz) ?_
      show own_Go p.tables e below _ T1 (mkF m 91 #[.val (.long q1), .second, .val (.int p2), .val (.int p3), .val (.int ((Int32.ofNat t) * (4 : Int32))), .val (.long ((15 : Int64) <<< (((Int32.ofNat t) * (4 : Int32)).toInt64 &&& 63))), .second, .val (.int (Int32.ofNat j)), .val (.long (own_rest q1 t)), .second, .val (.long (own_ctr q1 t j)), .second, .val (.long (own_dec (own_ctr q1 t j) (Int32.ofNat t * 4))), .second, .val (.long ((own_rest q1 t) ||| (((Int32.ofNat j) - (1 : Int32)).toInt64 <<< (((Int32.ofNat t) * (4 : Int32)).toInt64 &&& 63)))), .second] [])
      refine own_go (fun tz kz => XT.lload X1.here hx rfl (hb hby at_91) rfl kz) ?_
      show own_Go p.tables e below _ T1 (mkF m 93 #[.val (.long q1), .second, .val (.int p2), .val (.int p3), .val (.int ((Int32.ofNat t) * (4 : Int32))), .val (.long ((15 : Int64) <<< (((Int32.ofNat t) * (4 : Int32)).toInt64 &&& 63))), .second, .val (.int (Int32.ofNat j)), .val (.long (own_rest q1 t)), .second, .val (.long (own_ctr q1 t j)), .second, .val (.long (own_dec (own_ctr q1 t j) (Int32.ofNat t * 4))), .second, .val (.long ((own_rest q1 t) ||| (((Int32.ofNat j) - (1 : Int32)).toInt64 <<< (((Int32.ofNat t) * (4 : Int32)).toInt64 &&& 63)))), .second] [(.long (own_dec (own_ctr q1 t j) (Int32.ofNat t * 4)))])
      refine own_go (fun tz kz => XT.lload X1.here hx rfl (hb hby at_93) rfl kz) ?_
      show own_Go p.tables e below _ T1 (mkF m 95 #[.val (.long q1), .second, .val (.int p2), .val (.int p3), .val (.int ((Int32.ofNat t) * (4 : Int32))), .val (.long ((15 : Int64) <<< (((Int32.ofNat t) * (4 : Int32)).toInt64 &&& 63))), .second, .val (.int (Int32.ofNat j)), .val (.long (own_rest q1 t)), .second, .val (.long (own_ctr q1 t j)), .second, .val (.long (own_dec (own_ctr q1 t j) (Int32.ofNat t * 4))), .second, .val (.long ((own_rest q1 t) ||| (((Int32.ofNat j) - (1 : Int32)).toInt64 <<< (((Int32.ofNat t) * (4 : Int32)).toInt64 &&& 63)))), .second] [(.long ((own_rest q1 t) ||| (((Int32.ofNat j) - (1 : Int32)).toInt64 <<< (((Int32.ofNat t) * (4 : Int32)).toInt64 &&& 63)))), (.long (own_dec (own_ctr q1 t j) (Int32.ofNat t * 4)))])
      refine own_go (fun tz kz => XT.lcmp X1.here hx rfl (hb hby at_95) rfl kz) ?_
      show own_Go p.tables e below _ T1 (mkF m 96 #[.val (.long q1), .second, .val (.int p2), .val (.int p3), .val (.int ((Int32.ofNat t) * (4 : Int32))), .val (.long ((15 : Int64) <<< (((Int32.ofNat t) * (4 : Int32)).toInt64 &&& 63))), .second, .val (.int (Int32.ofNat j)), .val (.long (own_rest q1 t)), .second, .val (.long (own_ctr q1 t j)), .second, .val (.long (own_dec (own_ctr q1 t j) (Int32.ofNat t * 4))), .second, .val (.long ((own_rest q1 t) ||| (((Int32.ofNat j) - (1 : Int32)).toInt64 <<< (((Int32.ofNat t) * (4 : Int32)).toInt64 &&& 63)))), .second] [(.int (XT.cmpL (own_dec (own_ctr q1 t j) (Int32.ofNat t * 4)) ((own_rest q1 t) ||| (((Int32.ofNat j) - (1 : Int32)).toInt64 <<< (((Int32.ofNat t) * (4 : Int32)).toInt64 &&& 63)))))])
      refine own_go (fun tz kz => XS.ifNo X1.here hx rfl (hb hby at_96) rfl (XT.ll_ne_f (own_decm q1 ht hj hc hd)) kz) ?_
      show own_Go p.tables e below _ T1 (mkF m 99 #[.val (.long q1), .second, .val (.int p2), .val (.int p3), .val (.int ((Int32.ofNat t) * (4 : Int32))), .val (.long ((15 : Int64) <<< (((Int32.ofNat t) * (4 : Int32)).toInt64 &&& 63))), .second, .val (.int (Int32.ofNat j)), .val (.long (own_rest q1 t)), .second, .val (.long (own_ctr q1 t j)), .second, .val (.long (own_dec (own_ctr q1 t j) (Int32.ofNat t * 4))), .second, .val (.long ((own_rest q1 t) ||| (((Int32.ofNat j) - (1 : Int32)).toInt64 <<< (((Int32.ofNat t) * (4 : Int32)).toInt64 &&& 63)))), .second] [])
      refine own_go (fun tz kz => XS.iconst X1.here hx rfl (hb hby at_99) kz) ?_
      show own_Go p.tables e below _ T1 (mkF m 100 #[.val (.long q1), .second, .val (.int p2), .val (.int p3), .val (.int ((Int32.ofNat t) * (4 : Int32))), .val (.long ((15 : Int64) <<< (((Int32.ofNat t) * (4 : Int32)).toInt64 &&& 63))), .second, .val (.int (Int32.ofNat j)), .val (.long (own_rest q1 t)), .second, .val (.long (own_ctr q1 t j)), .second, .val (.long (own_dec (own_ctr q1 t j) (Int32.ofNat t * 4))), .second, .val (.long ((own_rest q1 t) ||| (((Int32.ofNat j) - (1 : Int32)).toInt64 <<< (((Int32.ofNat t) * (4 : Int32)).toInt64 &&& 63)))), .second] [(.int (1 : Int32))])
      refine own_go (fun tz kz => XS.goto X1.here hx rfl (pc0 := 100) (pc' := 104) rfl (hb hby at_100) (by decide) (by decide) kz) ?_
      show own_Go p.tables e below _ T1 (mkF m 104 #[.val (.long q1), .second, .val (.int p2), .val (.int p3), .val (.int ((Int32.ofNat t) * (4 : Int32))), .val (.long ((15 : Int64) <<< (((Int32.ofNat t) * (4 : Int32)).toInt64 &&& 63))), .second, .val (.int (Int32.ofNat j)), .val (.long (own_rest q1 t)), .second, .val (.long (own_ctr q1 t j)), .second, .val (.long (own_dec (own_ctr q1 t j) (Int32.ofNat t * 4))), .second, .val (.long ((own_rest q1 t) ||| (((Int32.ofNat j) - (1 : Int32)).toInt64 <<< (((Int32.ofNat t) * (4 : Int32)).toInt64 &&& 63)))), .second] [(.int (1 : Int32))])
      obtain ⟨fs, hr, hrun, hended, hW, hsame⟩ := X1.leave (v := some (.int (1 : Int32))) (fun h => by rw [Bd.returns] at h; cases h)
      refine ⟨_, _, ?_, hrun, hended, _, _, rfl, ?_, ⟨_, rfl⟩, hW, hsame.mono (by decide) (by decide)⟩
      · exact retN X1 hx (t := .boolean) Bd.returns (by simp) (hb hby at_104) hr
      · show Q0 Z q1 p2 p3 h0 n0 _ T1.heap _
        rw [e1]
        exact ⟨rfl, N1⟩
set_option maxRecDepth 65536 in
set_option maxHeartbeats 40000000 in
theorem comes_1 {Post : Tables → Env → Array Value → State → Outcome → State → Prop} (hpost : ∀ tb e args s v u, (limb_1_1.after args s (.returned v) u = true ∧ limb_1_2.after args s (.returned v) u = true ∧ True) → FrameEnd s (.returned v) u (Jvm.fieldLocs frame_1_writes args s ++ Jvm.arrayLocs frame_1_arrays args s ++ Jvm.staticLocs frame_1_statics s) 0 0 → Post tb e args s (.returned v) u) :
    ArmFor flags0 classFile x code maxLocals ret World_1 tables_1 room_1 Calls_1 rest_1 Pre_1 Post := by
  intro l hfl _ _ p e ha hc hk s m args below hf hA hF happ hP
  obtain ⟨hcalls, hrest, hpre⟩ := hP
  obtain ⟨-, -, -, hnamed, -, -, -, hat⟩ := (Spec.applies_iff hf).mp happ
  obtain ⟨hg, hn⟩ := and_e (Cond.before_iff.mp (show (Jvm.Cond.and given_1 narrow_1).before args s = true from hpre))
  obtain ⟨gc, ga0⟩ := and_e hg
  obtain ⟨gv0, ga1⟩ := and_e ga0
  obtain ⟨gv1, ga2⟩ := and_e ga1
  have gv2 := ga2
  obtain ⟨w0, w1, w2, rfl⟩ : ∃ w0 w1 w2 : Value, args = #[w0, w1, w2] := by
    have hs : args.size = 3 := by simpa [Cond.value, given_1] using gc
    obtain ⟨L⟩ := args
    match L, hs with
    | [w0, w1, w2], _ => exact ⟨w0, w1, w2, rfl⟩
  have hw := fun d (hd : d ∈ tables_1) => atoms_spec (ws := Jvm.Cond.code x code maxLocals ret :: tables_1) hat d (List.mem_cons_of_mem _ hd)
  have hfit : Fit s := fun {y c} hc i hi => by
    obtain ⟨ha, rfl⟩ := Array.getElem?_eq_some_iff.mp hc
    have q := List.all_eq_true.mp ((Array.all_eq_true_iff_forall_mem.mp hF) _ (Array.getElem_mem ha)) i (List.mem_range.mpr hi)
    simpa [Array.getElem?_eq_getElem hi] using q
  obtain ⟨i0, ei0⟩ := isL_v gv0
  obtain rfl : w0 = (.long i0) := Option.some.inj ei0
  obtain ⟨i1, ei1⟩ := is_v gv1
  obtain rfl : w1 = (.int i1) := Option.some.inj ei1
  obtain ⟨i2, ei2⟩ := is_v gv2
  obtain rfl : w2 = (.int i2) := Option.some.inj ei2
  obtain ⟨n, o, h1, h2, h3, _, L, rfl, ⟨rfl, N⟩, hq⟩ := rm0 l s _ hw tables_1 i0 i1 i2  s.heap s.heap.size (Nat.le_refl _)  p e ha hc hk s m _ below hf ((Spec.applies_iff_loose hf).mp happ).1 ⟨rfl, State.Warmed39.refl s, rfl⟩ trivial
  exact ⟨n, _, h1, h2, h3, hpost _ _ _ _ _ _ ⟨Cond.after_iff.mpr rfl, Cond.after_iff.mpr (eq_i res_at (Term.int_eval (1)) rfl), trivial⟩ ⟨hq.1, hq.2.1, (hq.2.2.sift fun y hy => Or.inr (N y hy)).mono (by decide) (by decide)⟩⟩
theorem main_1_1 : Claimed_1_1 := comes_1 fun _ _ _ _ _ _ h hF => ⟨h.1, hF⟩
theorem main_1_2 : Claimed_1_2 := comes_1 fun _ _ _ _ _ _ h hF => ⟨h.2.1, hF⟩
end Jvm.Pilot.@@N@@
namespace Jvm.Pilot.@@N@@
open Jvm Jvm.ClassFile Sem Op Lib Jvm.Free Jvm.Stand Jvm.Pilot.@@N@@.Jvm.D
/-! MADE BY PROGRAM (witnessworld.py) out of the Statement's table words and the real class files: 11 classes; the members and pool entries that the words name. The judged class is class 1, her method 1. -/
namespace start1
open Jvm.ClassFile
def u (s : String) : CpInfo := .utf8 (stringToUtf16 s)
/-- a pool by its gaps: so many unusable entries, then the entry; so many at the end -/
def gap : Nat → List CpInfo → List CpInfo
  | 0, r => r
  | n + 1, r => .unusable :: gap n r
def poolList (es : List (Nat × CpInfo)) (last : Nat) : List CpInfo := es.foldr (fun e r => gap e.1 (e.2 :: r)) (gap last [])
def pool (es : List (Nat × CpInfo)) (last : Nat) : Array CpInfo := ⟨poolList es last⟩
def fileOf (pool : Array CpInfo) (this : Nat) (attrs : Array Attribute := #[]) (ms : Array MethodInfo := #[]) (fl : Nat := 33) (sup : Nat := 0) (ifs : Array Nat := #[]) (fds : Array FieldInfo := #[]) : ClassFile where
  minorVersion := 0
  majorVersion := 65
  constantPool := pool
  accessFlags := fl
  thisClass := this
  superClass := sup
  interfaces := ifs
  fields := fds
  methods := ms
  attributes := attrs
def plain (name : String) (sup : Option ClassId) : Class where
  name := name
  kind := .ordinary
  loader := none
  accessFlags := 33
  super := sup
  interfaces := #[]
  cf := none
  fields := #[]
  methods := #[]
  instanceTypes := #[]
  staticTypes := #[]
  resolved := #[]
  callSites := []
  init := .initialized
  statics := none
  mirror := none

def pool0 : Array CpInfo := pool [(5, u "<init>"), (0, u "()V"), (1, .class_ 10), (1, u "java/lang/Object")] 113

def k0m0 : Method := { name := "<init>", desc := "()V", sig := { parameters := [], returnType := none }, accessFlags := 1, code := none }
/-- java/lang/Object -/
def k0 : Class := { plain "java/lang/Object" none with
  accessFlags := 33
  interfaces := #[]
  cf := some (fileOf pool0 8 #[] #[{ accessFlags := 1, nameIndex := 5, descriptorIndex := 6, attributes := #[] }] 33 0 #[] #[])
  fields := #[]
  methods := #[k0m0]
  instanceTypes := #[]
  staticTypes := #[]
  resolved := Array.replicate 124 none
  statics := none }

def pool1 : Array CpInfo := pool [(2, .class_ 4), (1, u "java/lang/Object"), (0, u "<init>"), (0, u "()V"), (0, .long 15), (1, .long 18446744073709551615), (1, .interfaceMethodref 12 13), (0, .class_ 14), (0, .nameAndType 15 16), (0, u "com/example/bit_sieve/bitsieve/CounterStore"), (0, u "decremented"), (0, u "(JI)J"), (0, .class_ 18), (0, u "com/example/bit_sieve/bitsieve/CounterStoreDecrementedPinLaw"), (2, u "law"), (0, u "(JII)Z")] 3

def k1m0 : Method := { name := "<init>", desc := "()V", sig := { parameters := [], returnType := none }, accessFlags := 1, code := none }
def k1c1 : Code := { maxStack := 6, maxLocals := 16, code := code, exceptionTable := #[], attributes := #[] }
def k1m1 : Method := { name := "law", desc := "(JII)Z", sig := { parameters := [.long, .int, .int], returnType := some .boolean }, accessFlags := 9, code := some k1c1 }
/-- com/example/bit_sieve/bitsieve/CounterStoreDecrementedPinLaw -/
def k1 : Class := { plain "com/example/bit_sieve/bitsieve/CounterStoreDecrementedPinLaw" (some 0) with
  accessFlags := 49
  interfaces := #[]
  cf := some (fileOf pool1 17 #[] #[{ accessFlags := 1, nameIndex := 5, descriptorIndex := 6, attributes := #[] }, { accessFlags := 9, nameIndex := 21, descriptorIndex := 22, attributes := #[] }] 49 2 #[] #[])
  fields := #[]
  methods := #[k1m0, k1m1]
  instanceTypes := #[]
  staticTypes := #[]
  resolved := Array.replicate 26 none
  statics := none }

def pool2 : Array CpInfo := pool [(2, .class_ 4), (1, u "com/example/bit_sieve/bitsieve/BitWords"), (2, .class_ 8), (0, u "java/lang/Object")] 9

/-- com/example/bit_sieve/bitsieve/BitWords -/
def k2 : Class := { plain "com/example/bit_sieve/bitsieve/BitWords" (some 0) with
  accessFlags := 1536
  interfaces := #[]
  cf := some (fileOf pool2 2 #[] #[] 1536 7 #[] #[])
  fields := #[]
  methods := #[]
  instanceTypes := #[]
  staticTypes := #[]
  resolved := Array.replicate 18 none
  statics := none }

def pool3 : Array CpInfo := pool [(1, .class_ 2), (0, u "com/example/bit_sieve/bitsieve/Positions"), (0, .class_ 4), (0, u "java/lang/Object"), (0, .class_ 6), (0, u "com/example/bit_sieve/bitsieve/BitWords")] 11

/-- com/example/bit_sieve/bitsieve/Positions -/
def k3 : Class := { plain "com/example/bit_sieve/bitsieve/Positions" (some 0) with
  accessFlags := 1536
  interfaces := #[2]
  cf := some (fileOf pool3 1 #[] #[] 1536 3 #[5] #[])
  fields := #[]
  methods := #[]
  instanceTypes := #[]
  staticTypes := #[]
  resolved := Array.replicate 18 none
  statics := none }

def pool4 : Array CpInfo := pool [(1, .class_ 2), (0, u "com/example/bit_sieve/bitsieve/CounterStore"), (19, .long 15), (19, .class_ 43), (0, u "java/lang/Object"), (0, .class_ 45), (0, u "com/example/bit_sieve/bitsieve/Positions"), (0, u "COUNTER_BITS"), (0, u "I"), (2, u "SATURATED"), (1, u "LOW_BIT_OF_EACH"), (0, u "J"), (5, u "(JI)J"), (3, u "decremented"), (8, .class_ 73), (0, u "com/example/bit_sieve/bitsieve/CounterStore$CounterFunction")] 2

def k4c0 : Code := { maxStack := 5, maxLocals := 5, code := prog_19_method_9_code, exceptionTable := #[], attributes := #[] }
def k4m0 : Method := { name := "decremented", desc := "(JI)J", sig := { parameters := [.long, .int], returnType := some .long }, accessFlags := 9, code := some k4c0 }
/-- com/example/bit_sieve/bitsieve/CounterStore -/
def k4 : Class := { plain "com/example/bit_sieve/bitsieve/CounterStore" (some 0) with
  accessFlags := 1536
  interfaces := #[3]
  cf := some (fileOf pool4 1 #[.nestMembers #[72]] #[{ accessFlags := 9, nameIndex := 63, descriptorIndex := 59, attributes := #[] }] 1536 42 #[44] #[{ accessFlags := 25, nameIndex := 46, descriptorIndex := 47, attributes := #[] }, { accessFlags := 25, nameIndex := 50, descriptorIndex := 47, attributes := #[] }, { accessFlags := 25, nameIndex := 52, descriptorIndex := 53, attributes := #[] }])
  fields := #[{ name := "COUNTER_BITS", type := .int, accessFlags := 25, slot := 0, constantValue := 0 }, { name := "SATURATED", type := .int, accessFlags := 25, slot := 1, constantValue := 0 }, { name := "LOW_BIT_OF_EACH", type := .long, accessFlags := 25, slot := 2, constantValue := 0 }]
  methods := #[k4m0]
  instanceTypes := #[]
  staticTypes := #[.int, .int, .long]
  resolved := Array.replicate 76 none
  statics := none }

def pool5 : Array CpInfo := pool [(1, u "java/lang/Cloneable"), (0, .class_ 1), (0, u "java/lang/Object"), (0, .class_ 3)] 3

/-- java/lang/Cloneable -/
def k5 : Class := { plain "java/lang/Cloneable" (some 0) with
  accessFlags := 1537
  interfaces := #[]
  cf := some (fileOf pool5 2 #[] #[] 1537 4 #[] #[])
  fields := #[]
  methods := #[]
  instanceTypes := #[]
  staticTypes := #[]
  resolved := Array.replicate 8 none
  statics := none }

def pool6 : Array CpInfo := pool [(1, u "java/io/Serializable"), (0, .class_ 1), (0, u "java/lang/Object"), (0, .class_ 3)] 3

/-- java/io/Serializable -/
def k6 : Class := { plain "java/io/Serializable" (some 0) with
  accessFlags := 1537
  interfaces := #[]
  cf := some (fileOf pool6 2 #[] #[] 1537 4 #[] #[])
  fields := #[]
  methods := #[]
  instanceTypes := #[]
  staticTypes := #[]
  resolved := Array.replicate 8 none
  statics := none }

/-- the primitive byte -/
def k7 : Class := { plain "byte" none with kind := .primitive 'B', accessFlags := 0x411 }
/-- [B -/
def k8 : Class := { plain "[B" (some 0) with kind := .array 7 .byte, interfaces := #[5, 6], accessFlags := 1041 }

/-- the primitive int -/
def k9 : Class := { plain "int" none with kind := .primitive 'I', accessFlags := 0x411 }
/-- [I -/
def k10 : Class := { plain "[I" (some 0) with kind := .array 9 .int, interfaces := #[5, 6], accessFlags := 1041 }

def heap : Heap := #[]
def classes : Array Class := #[k0, k1, k2, k3, k4, k5, k6, k7, k8, k9, k10]
def interned : List (Array UInt16 × Addr) := []
def slotsUsed : Nat := 0
def theMethod : MethodId := ⟨1, 1⟩
def args0 : Array Value := #[.long 5, .int 300, .int 7]
def aboutOver (below : List Frame) : State where
  vm := { classes := classes, interned := interned.toArray }
  heap := heap
  slotsUsed := slotsUsed
  threads := #[{ frames := .invoking theMethod args0 :: below }]
def below0 : List Frame := [.native { method := ⟨0, 0⟩, args := #[] }]
def about1 : State := aboutOver below0
def p0 : Program := .bare "" "" ""
def e0 : Env := launch0.env 0 0 0
theorem w_frames : about1.frames = Frame.invoking theMethod args0 :: below0 := rfl
set_option maxRecDepth 65536 in
theorem w_args : argsFit about1.vm theMethod args0 = true := by decide +kernel
set_option maxRecDepth 65536 in
theorem w_heap : heapFits about1 = true := by decide +kernel
set_option maxRecDepth 65536 in
theorem w_runnable : about1.curStatus? = some .runnable := by decide +kernel
set_option maxRecDepth 65536 in
theorem w_alone : about1.alone = true := by decide +kernel
set_option maxRecDepth 65536 in
theorem w_named : about1.methodNamed? x = some theMethod := by decide +kernel
set_option maxRecDepth 65536 in
theorem w_hears : about1.hears theMethod below0 = true := by decide +kernel
set_option maxRecDepth 65536 in
theorem w_ripe : about1.ripe theMethod args0 below0 = true := by decide +kernel
theorem w_running : about1.status = .running := rfl
set_option maxRecDepth 65536 in
theorem w_room : about1.hasRoom e0.platform room_1 = true :=
  launch0.hasRoom_least _ room_1 (by decide +kernel) (by decide +kernel) (by decide +kernel) (by decide +kernel) (by decide +kernel) (by decide +kernel)
theorem allAtoms_all (ts : List Jvm.Cond) (a : Array Jvm.Value) (st : Jvm.State) : (allAtoms ts).before a st = ts.all (fun c => c.before a st) := by
  induction ts with
  | nil => rfl
  | cons c t ih =>
    show (Jvm.Cond.and c (allAtoms t)).before a st = _
    rw [Jvm.Cond.before_and, ih, List.all_cons]
def words1 : List Jvm.Cond := Jvm.Cond.code x code maxLocals ret :: tables_1
/-- a 'code' word, met by the world's own term for the bytes: nothing is compared byte by byte -/
theorem code_word {y : MethodName} {bytes : ByteArray} {mx : Nat} {rt : Option FieldType} {a : Array Value} {s : State} {m : MethodId} {meth : Method} {c : Code} (h1 : s.methodNamed? y = some m) (h2 : s.vm.method? m = some meth) (h3 : meth.code = some c) (h4 : c.code = bytes)
    (h5 : (c.maxLocals == mx && c.exceptionTable.isEmpty && decide (c.maxStack ≤ mostOperands) && decide (meth.sig.returnType = rt) && !meth.locks && decide (parseMethodDescriptor y.desc = some meth.sig)) = true) : (Jvm.Cond.code y bytes mx rt).before a s = true := by
  simp only [Bool.and_eq_true, beq_iff_eq, Bool.not_eq_true', decide_eq_true_eq] at h5
  obtain ⟨⟨⟨⟨⟨g1, g2⟩, g3⟩, g4⟩, g5⟩, g6⟩ := h5
  simp [Cond.before, Cond.holds, Cond.value, h1, h2, h3, h4, g1, g2, g3, g4, g5, g6]
def isCode : Jvm.Cond → Bool
  | .code _ _ _ _ => true
  | _ => false
theorem all_split {L : List Jvm.Cond} {P : Jvm.Cond → Bool} (h1 : L.all (fun c => isCode c || P c) = true) (h2 : ∀ c ∈ L.filter isCode, P c = true) : L.all P = true := by
  refine List.all_eq_true.mpr fun c hc => ?_
  have h := List.all_eq_true.mp h1 c hc
  rcases Bool.eq_false_or_eq_true (isCode c) with hi | hi
  · exact h2 c (List.mem_filter.mpr ⟨hc, hi⟩)
  · simpa [hi] using h
set_option maxRecDepth 65536 in
theorem w_c0 : (Jvm.Cond.code x code maxLocals ret).before args0 about1 = true := code_word (m := ⟨1, 1⟩) (meth := k1m1) (c := k1c1) (by decide +kernel) rfl rfl rfl (by decide +kernel)
set_option maxRecDepth 65536 in
theorem w_c1 : (Jvm.Cond.code ({ cls := "com/example/bit_sieve/bitsieve/CounterStore", name := "decremented", desc := "(JI)J" } : Jvm.MethodName) prog_19_method_9_code (5 : Nat) (Option.some Jvm.ClassFile.FieldType.long)).before args0 about1 = true := code_word (m := ⟨4, 0⟩) (meth := k4m0) (c := k4c0) (by decide +kernel) rfl rfl rfl (by decide +kernel)
def codes1 : List Jvm.Cond := [Jvm.Cond.code x code maxLocals ret, Jvm.Cond.code ({ cls := "com/example/bit_sieve/bitsieve/CounterStore", name := "decremented", desc := "(JI)J" } : Jvm.MethodName) prog_19_method_9_code (5 : Nat) (Option.some Jvm.ClassFile.FieldType.long)]
set_option maxRecDepth 65536 in
theorem codes_eq : words1.filter isCode = codes1 := rfl
theorem w_codes : ∀ c ∈ words1.filter isCode, c.before args0 about1 = true := by
  rw [codes_eq]
  intro c hc
  simp only [codes1, List.mem_cons, List.not_mem_nil, or_false] at hc
  rcases hc with rfl | rfl
  · exact w_c0
  · exact w_c1
set_option maxRecDepth 65536 in
theorem w_t1 : words1.all (fun c => isCode c || c.before args0 about1) = true := by decide +kernel
theorem w_tables : (allAtoms (Jvm.Cond.code x code maxLocals ret :: tables_1)).before args0 about1 = true := by
  rw [allAtoms_all]
  show words1.all (fun c => c.before args0 about1) = true
  refine all_split ?_ w_codes
  rw [w_t1]
set_option maxRecDepth 65536 in
theorem w_case : (Jvm.Cond.and given_1 narrow_1).before args0 about1 = true := by decide +kernel
theorem w_applies : (headSpec (Jvm.Cond.code x code maxLocals ret :: tables_1) room_1).applies x e0.platform about1 = true :=
  (Spec.applies_iff w_frames).mpr ⟨w_running, w_runnable, w_alone, w_named, w_hears, w_ripe, w_room, w_tables⟩
theorem atStart : AtStart classFile x code maxLocals ret World_1 tables_1 room_1 Calls_1 rest_1 Pre_1 launch0 p0 e0 about1 theMethod args0 below0 :=
  ⟨lists_1, trivial, launch0.admits_env _ _ _, launch0.least_env, fairChoices_fair.cas, fairChoices_fair.clock, w_frames, w_args, w_heap, w_applies, trivial, trivial, w_case⟩
end start1
theorem witness_1 : WitnessClaimed_1 := ⟨start1.p0, start1.e0, start1.about1, start1.theMethod, start1.args0, start1.below0, start1.atStart⟩
end Jvm.Pilot.@@N@@
