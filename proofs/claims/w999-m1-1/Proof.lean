import JvmDerived
import JvmDerived.Pilot.@@N@@Statement
import JvmDerived.Pilot.@@N@@Code
set_option linter.unusedVariables false
set_option linter.unusedSimpArgs false
namespace Jvm.RoadKit
open Sem ClassFile Op Lib Jvm.Stand Jvm.Free Jvm.LawKit
section New
variable {p : Program} {l : Launch} {e : Env} {R : Room} {s : State} {m : MethodId} {args : Array Value} {below : List Frame} {meth : Method} {c : Code} {T : State} {locs : List Loc} {cells slots : Nat}
theorem retI (X : Stand p l e R s m args below meth c T locs cells slots) (hx : p.tables.exec = Jvm.exec) {pc : Nat} {Ls : Array Slot} {z : Int32} {rest : List Value} (hret : meth.sig.returnType = some .int) (hd : decode c.code pc = .ok (.ireturn, 1)) {fs : List Frame}
    (hl : ∀ (f : JFrame) (acts : List Action), f.method = m → f.locked = none → f.entered = [] → (doReturn e (T.setTop f) acts (some (.int z))).1 = T.setFrames fs) : Steps p.tables e below (T.setTop (mkF m pc Ls (.int z :: rest))) (T.setFrames fs) := by
  have hm' : T.vm.method? m = some meth := X.method'
  have hn : narrow .int (.int z) = .int z := rfl
  show Steps p.tables e below (T.setTop { method := m, pc := pc, locals := Ls, stack := _ :: rest, locked := none }) _
  jvm_step X.here [X.here.top, hx, hd, hm', hret, hn]
  first | (intro acts; rw [hl _ acts rfl rfl rfl]) | rw [hl _ _ rfl rfl rfl]
  exact Steps.refl _
end New
end Jvm.RoadKit
namespace Jvm.Pilot.@@N@@
open Jvm Jvm.ClassFile Sem Op Lib Jvm.Free Jvm.Stand Jvm.LawKit Jvm.RoadKit Bundle Jvm.Pilot.@@N@@.Jvm.D
/-- the run from here ends well -/
def own_Go (tb : Tables) (e : Env) (below : List Frame) (P : Outcome → State → Prop) (T : State) (f : JFrame) : Prop := ∃ s₂ o, Steps tb e below (T.setTop f) s₂ ∧ s₂.status = .running ∧ Ended s₂ below o ∧ P o s₂
theorem own_go {tb : Tables} {e : Env} {below : List Frame} {P : Outcome → State → Prop} {T T' : State} {f f' : JFrame} (k : ∀ t, Steps tb e below (T'.setTop f') t → Steps tb e below (T.setTop f) t) (h : own_Go tb e below P T' f') : own_Go tb e below P T f := by
  obtain ⟨s₂, o, h1, h2⟩ := h
  exact ⟨s₂, o, k _ h1, h2⟩
theorem own_keep1 {h0 h h' : Heap} {ws : List Addr} {b : Addr} (K : Keep h0 h ws) (K' : Keep h h' [b]) (q : h0.size ≤ b) : Keep h0 h' ws := K.trans K' fun x hx => Or.inr (by cases List.mem_singleton.mp hx; exact q)
theorem own_eqi {a b : Term} {args : Array Value} {first s : State} {o : Option Outcome} {idx : List Nat} {y : Int32} (h : (Jvm.Cond.eq a b).value args first o s idx = some true) (hb : b.eval args first o idx s = some (.int y)) : a.eval args first o idx s = some (.int y) := by
  cases ha : a.eval args first o idx s with
  | none => simp [Cond.value, ha] at h
  | some x => cases x <;> simp [Cond.value, ha, hb] at h; subst h; rfl
theorem own_not1 {a b : Addr} (q : a ≠ b) : a ∉ [b] := fun h => q (List.mem_singleton.mp h)
def own_PW (s : State) (Q : Option Value → Heap → List Loc → Prop) (k n : Nat) (o : Outcome) (U : State) : Prop := ∃ v L, o = .returned v ∧ Q v U.heap L ∧ ReturnedEndW s o U L k n
def own_P (s : State) (Q : Option Value → Heap → List Loc → Prop) (k n : Nat) (o : Outcome) (U : State) : Prop := ∃ v L, o = .returned v ∧ Q v U.heap L ∧ FrameEnd s o U L k n
def own_bitf (w : Int64) (j : Int32) : Int64 := if (XT.ushrL w (4 * j) &&& 15) = 0 then 0 else 1 <<< (j.toInt64 &&& 63)
def own_b1 (w : Int64) : Int64 := (((w ||| XT.ushrL w 1) ||| XT.ushrL w 2) ||| XT.ushrL w 3) &&& 1229782938247303441
def own_b2 (w : Int64) : Int64 := (w ||| XT.ushrL w 3) &&& 217020518514230019
def own_b3 (w : Int64) : Int64 := (w ||| XT.ushrL w 6) &&& 4222189076152335
def own_b4 (w : Int64) : Int64 := (w ||| XT.ushrL w 12) &&& 1095216660735
def own_b5 (w : Int64) : Int64 := (w ||| XT.ushrL w 24) &&& 65535
def own_biu (w : Int64) : Int64 := own_b5 (own_b4 (own_b3 (own_b2 (own_b1 w))))
def own_ors (w : Int64) : Nat → Int64
  | 0 => own_bitf w 0
  | n + 1 => own_ors w n ||| own_bitf w (Int32.ofNat (n + 1))
def own_nib (w : Int64) (k : Nat) : Bool := w.toBitVec.getLsbD (4 * k) || w.toBitVec.getLsbD (4 * k + 1) || w.toBitVec.getLsbD (4 * k + 2) || w.toBitVec.getLsbD (4 * k + 3)
theorem own_ushrL (x : Int64) (k : Int32) (n : Nat) (hk : (k.toInt64.toUInt64 &&& Int64.toUInt64 63).toBitVec % 64 = BitVec.ofNat 64 n) (hn : n < 64) : (XT.ushrL x k).toBitVec = x.toBitVec >>> n := by
  unfold XT.ushrL
  show (x.toUInt64 >>> (k.toInt64.toUInt64 &&& Int64.toUInt64 63)).toBitVec = _
  rw [UInt64.toBitVec_shiftRight, hk]
  have e : (BitVec.ofNat 64 n).toNat = n := by rw [BitVec.toNat_ofNat]; exact Nat.mod_eq_of_lt (by omega)
  rw [BitVec.ushiftRight_eq', e]
  rfl
theorem own_k1 : ∀ i, i < 64 → (1229782938247303441 : Int64).toBitVec.getLsbD i = decide (i % 4 = 0) := by decide +kernel
theorem own_k2 : ∀ i, i < 64 → (217020518514230019 : Int64).toBitVec.getLsbD i = decide (i % 8 < 2) := by decide +kernel
theorem own_k3 : ∀ i, i < 64 → (4222189076152335 : Int64).toBitVec.getLsbD i = decide (i % 16 < 4) := by decide +kernel
theorem own_k4 : ∀ i, i < 64 → (1095216660735 : Int64).toBitVec.getLsbD i = decide (i % 32 < 8) := by decide +kernel
theorem own_k5 : ∀ i, i < 64 → (65535 : Int64).toBitVec.getLsbD i = decide (i < 16) := by decide +kernel
theorem own_k15 : ∀ i, i < 64 → (15 : Int64).toBitVec.getLsbD i = decide (i < 4) := by decide +kernel
theorem own_l1 (w : Int64) (i : Nat) (hi : i < 64) : (own_b1 w).toBitVec.getLsbD i = (decide (i % 4 = 0) && own_nib w (i / 4)) := by
  unfold own_b1 own_nib
  simp only [Int64.toBitVec_and, Int64.toBitVec_or, own_ushrL w 1 1 (by decide) (by decide), own_ushrL w 2 2 (by decide) (by decide), own_ushrL w 3 3 (by decide) (by decide), BitVec.getLsbD_and, BitVec.getLsbD_or, BitVec.getLsbD_ushiftRight, own_k1 i hi]
  by_cases h : i % 4 = 0
  · have e : 4 * (i / 4) = i := by omega
    rw [e, Nat.add_comm 1 i, Nat.add_comm 2 i, Nat.add_comm 3 i, Bool.and_comm]
  · simp [h]
theorem own_ge (t : Int64) {i : Nat} (h : 64 ≤ i) : t.toBitVec.getLsbD i = false := BitVec.getLsbD_of_ge _ _ h
theorem own_l2 (t : Int64) (f : Nat → Bool) (h : ∀ i, i < 64 → t.toBitVec.getLsbD i = (decide (i % 4 = 0) && f (i / 4))) (i : Nat) (hi : i < 64) : (own_b2 t).toBitVec.getLsbD i = (decide (i % 8 < 2) && f (2 * (i / 8) + i % 8)) := by
  unfold own_b2
  simp only [Int64.toBitVec_and, Int64.toBitVec_or, own_ushrL t 3 3 (by decide) (by decide), BitVec.getLsbD_and, BitVec.getLsbD_or, BitVec.getLsbD_ushiftRight, own_k2 i hi, h i hi]
  by_cases h8 : i % 8 < 2
  · rw [h (3 + i) (by omega)]
    rcases (by omega : i % 8 = 0 ∨ i % 8 = 1) with q | q
    · rw [show i / 4 = 2 * (i / 8) + i % 8 from by omega]
      simp [h8, show i % 4 = 0 from by omega, show ¬ (3 + i) % 4 = 0 from by omega]
    · rw [show (3 + i) / 4 = 2 * (i / 8) + i % 8 from by omega]
      simp [h8, show ¬ i % 4 = 0 from by omega, show (3 + i) % 4 = 0 from by omega]
  · simp [h8]
theorem own_l3 (t : Int64) (f : Nat → Bool) (h : ∀ i, i < 64 → t.toBitVec.getLsbD i = (decide (i % 8 < 2) && f (2 * (i / 8) + i % 8))) (i : Nat) (hi : i < 64) : (own_b3 t).toBitVec.getLsbD i = (decide (i % 16 < 4) && f (4 * (i / 16) + i % 16)) := by
  unfold own_b3
  simp only [Int64.toBitVec_and, Int64.toBitVec_or, own_ushrL t 6 6 (by decide) (by decide), BitVec.getLsbD_and, BitVec.getLsbD_or, BitVec.getLsbD_ushiftRight, own_k3 i hi, h i hi]
  by_cases h8 : i % 16 < 4
  · rw [h (6 + i) (by omega)]
    by_cases q : i % 16 < 2
    · rw [show 2 * (i / 8) + i % 8 = 4 * (i / 16) + i % 16 from by omega]
      simp [h8, show i % 8 < 2 from by omega, show ¬ (6 + i) % 8 < 2 from by omega]
    · rw [show 2 * ((6 + i) / 8) + (6 + i) % 8 = 4 * (i / 16) + i % 16 from by omega]
      simp [h8, show ¬ i % 8 < 2 from by omega, show (6 + i) % 8 < 2 from by omega]
  · simp [h8]
theorem own_l4 (t : Int64) (f : Nat → Bool) (h : ∀ i, i < 64 → t.toBitVec.getLsbD i = (decide (i % 16 < 4) && f (4 * (i / 16) + i % 16))) (i : Nat) (hi : i < 64) : (own_b4 t).toBitVec.getLsbD i = (decide (i % 32 < 8) && f (8 * (i / 32) + i % 32)) := by
  unfold own_b4
  simp only [Int64.toBitVec_and, Int64.toBitVec_or, own_ushrL t 12 12 (by decide) (by decide), BitVec.getLsbD_and, BitVec.getLsbD_or, BitVec.getLsbD_ushiftRight, own_k4 i hi, h i hi]
  by_cases h8 : i % 32 < 8
  · rw [h (12 + i) (by omega)]
    by_cases q : i % 32 < 4
    · rw [show 4 * (i / 16) + i % 16 = 8 * (i / 32) + i % 32 from by omega]
      simp [h8, show i % 16 < 4 from by omega, show ¬ (12 + i) % 16 < 4 from by omega]
    · rw [show 4 * ((12 + i) / 16) + (12 + i) % 16 = 8 * (i / 32) + i % 32 from by omega]
      simp [h8, show ¬ i % 16 < 4 from by omega, show (12 + i) % 16 < 4 from by omega]
  · simp [h8]
theorem own_l5 (t : Int64) (f : Nat → Bool) (h : ∀ i, i < 64 → t.toBitVec.getLsbD i = (decide (i % 32 < 8) && f (8 * (i / 32) + i % 32))) (i : Nat) (hi : i < 64) : (own_b5 t).toBitVec.getLsbD i = (decide (i < 16) && f i) := by
  unfold own_b5
  simp only [Int64.toBitVec_and, Int64.toBitVec_or, own_ushrL t 24 24 (by decide) (by decide), BitVec.getLsbD_and, BitVec.getLsbD_or, BitVec.getLsbD_ushiftRight, own_k5 i hi, h i hi]
  by_cases h8 : i < 16
  · rw [h (24 + i) (by omega)]
    by_cases q : i < 8
    · rw [show 8 * (i / 32) + i % 32 = i from by omega]
      simp [h8, show i % 32 < 8 from by omega, show ¬ (24 + i) % 32 < 8 from by omega]
    · rw [show 8 * ((24 + i) / 32) + (24 + i) % 32 = i from by omega]
      simp [h8, show ¬ i % 32 < 8 from by omega, show (24 + i) % 32 < 8 from by omega]
  · simp [h8]
theorem own_biu_bit (w : Int64) (i : Nat) (hi : i < 64) : (own_biu w).toBitVec.getLsbD i = (decide (i < 16) && own_nib w i) :=
  own_l5 _ (own_nib w) (own_l4 _ _ (own_l3 _ _ (own_l2 _ _ (own_l1 w)))) i hi
theorem own_us : ∀ t, t < 16 → ((4 * Int32.ofNat t).toInt64.toUInt64 &&& Int64.toUInt64 63).toBitVec % 64 = BitVec.ofNat 64 (4 * t) := by decide +kernel
theorem own_one : ∀ t, t < 16 → ∀ i, i < 64 → ((1 : Int64) <<< ((Int32.ofNat t).toInt64 &&& 63)).toBitVec.getLsbD i = decide (i = t) := by decide +kernel
theorem own_nib0 (w : Int64) {t : Nat} (ht : t < 16) : (XT.ushrL w (4 * Int32.ofNat t) &&& 15) = 0 ↔ own_nib w t = false := by
  have e : (XT.ushrL w (4 * Int32.ofNat t) &&& 15).toBitVec = (w.toBitVec >>> (4 * t)) &&& (15 : Int64).toBitVec := by
    rw [Int64.toBitVec_and, own_ushrL w _ _ (own_us t ht) (by omega)]
  unfold own_nib
  constructor
  · intro h
    have q := congrArg Int64.toBitVec h
    rw [e] at q
    have b : ∀ d, d < 4 → w.toBitVec.getLsbD (4 * t + d) = false := fun d hd => by
      have := congrArg (fun z => z.getLsbD d) q
      simp only [BitVec.getLsbD_and, BitVec.getLsbD_ushiftRight, own_k15 d (by omega), decide_eq_true hd, Bool.and_true] at this
      rw [this]; exact BitVec.getLsbD_zero
    have b0 := b 0 (by decide); have b1 := b 1 (by decide); have b2 := b 2 (by decide); have b3 := b 3 (by decide)
    rw [Nat.add_zero] at b0
    rw [b0, b1, b2, b3]; rfl
  · intro h
    simp only [Bool.or_eq_false_iff] at h
    apply Int64.toBitVec_inj.mp
    rw [e]
    apply BitVec.eq_of_getLsbD_eq
    intro i hi
    rw [BitVec.getLsbD_and, BitVec.getLsbD_ushiftRight, own_k15 i hi]
    have hz : (0 : Int64).toBitVec.getLsbD i = false := BitVec.getLsbD_zero
    rw [hz]
    by_cases q : i < 4
    · rcases (by omega : i = 0 ∨ i = 1 ∨ i = 2 ∨ i = 3) with rfl | rfl | rfl | rfl
      · rw [Nat.add_zero, h.1.1.1]; rfl
      · rw [h.1.1.2]; rfl
      · rw [h.1.2]; rfl
      · rw [h.2]; rfl
    · simp [q]
theorem own_bitf_bit (w : Int64) {t : Nat} (ht : t < 16) (i : Nat) (hi : i < 64) : (own_bitf w (Int32.ofNat t)).toBitVec.getLsbD i = (decide (i = t) && own_nib w t) := by
  unfold own_bitf
  by_cases h : (XT.ushrL w (4 * Int32.ofNat t) &&& 15) = 0
  · rw [if_pos h, (own_nib0 w ht).mp h, Bool.and_false]; exact BitVec.getLsbD_zero
  · rw [if_neg h, own_one t ht i hi]
    have : own_nib w t = true := by
      cases q : own_nib w t
      · exact absurd ((own_nib0 w ht).mpr q) h
      · rfl
    rw [this, Bool.and_true]
theorem own_ors_bit (w : Int64) : ∀ n, n < 16 → ∀ i, i < 64 → (own_ors w n).toBitVec.getLsbD i = (decide (i ≤ n) && own_nib w i)
  | 0, _, i, hi => by
    show (own_bitf w (Int32.ofNat 0)).toBitVec.getLsbD i = _
    rw [own_bitf_bit w (by decide) i hi]
    by_cases q : i = 0
    · subst q; rfl
    · simp [q]
  | n + 1, hn, i, hi => by
    show (own_ors w n ||| own_bitf w (Int32.ofNat (n + 1))).toBitVec.getLsbD i = _
    rw [Int64.toBitVec_or, BitVec.getLsbD_or, own_ors_bit w n (by omega) i hi, own_bitf_bit w hn i hi]
    by_cases q : i = n + 1
    · subst q; simp
    · rw [show decide (i ≤ n + 1) = decide (i ≤ n) from by congr 1; simp; omega]
      simp [q]
theorem own_biu_eq (w : Int64) : own_biu w = own_ors w 15 := by
  apply Int64.toBitVec_inj.mp
  apply BitVec.eq_of_getLsbD_eq
  intro i hi
  rw [own_biu_bit w i hi, own_ors_bit w 15 (by decide) i hi]
  congr 1; simp; omega
theorem d1_0 : decode method_2_code 0 = .ok (.lload_n 0, 1) := by decide +kernel
theorem d1_1 : decode method_2_code 1 = .ok (.iconst 4, 1) := by decide +kernel
theorem d1_2 : decode method_2_code 2 = .ok (.iload_n 2, 1) := by decide +kernel
theorem d1_3 : decode method_2_code 3 = .ok (.imul, 1) := by decide +kernel
theorem d1_4 : decode method_2_code 4 = .ok (.lushr, 1) := by decide +kernel
theorem d1_5 : decode method_2_code 5 = .ok (.ldc2_w 7, 3) := by decide +kernel
theorem d1_8 : decode method_2_code 8 = .ok (.land, 1) := by decide +kernel
theorem d1_9 : decode method_2_code 9 = .ok (.lconst 0, 1) := by decide +kernel
theorem d1_10 : decode method_2_code 10 = .ok (.lcmp, 1) := by decide +kernel
theorem d1_11 : decode method_2_code 11 = .ok (.ifCond .eq 9, 3) := by decide +kernel
theorem d1_14 : decode method_2_code 14 = .ok (.lconst 1, 1) := by decide +kernel
theorem d1_15 : decode method_2_code 15 = .ok (.iload_n 2, 1) := by decide +kernel
theorem d1_16 : decode method_2_code 16 = .ok (.lshl, 1) := by decide +kernel
theorem d1_17 : decode method_2_code 17 = .ok (.goto 4, 3) := by decide +kernel
theorem d1_20 : decode method_2_code 20 = .ok (.lconst 0, 1) := by decide +kernel
theorem d1_21 : decode method_2_code 21 = .ok (.lreturn, 1) := by decide +kernel
theorem pn_0 : plainName "com/example/bit_sieve/bitsieve/CounterStoreBitsInUsePinLaw" = true := by first | (simp [plainName, overriddenIn]; done) | decide +kernel
theorem ef_1 (m : MethodId) {q1 : Int64} {p2 : Int32} : entryFrame m #[(.long q1), (.int p2)] 3 = mkF m 0 #[.val (.long q1), .second, .val (.int p2)] [] := by first | (simp [entryFrame, mkF, argsToLocals, Value.category]; done) | rfl
def Q1 (Z : State) (q1 : Int64) (p2 : Int32) (h0 : Heap) (n0 : Nat) (v : Option Value) (h : Heap) (L : List Loc) : Prop := v = some (.long (own_bitf q1 p2)) ∧ Fr n0 L ∧ h = h0
set_option maxRecDepth 65536 in
set_option maxHeartbeats 40000000 in
theorem rm1 (l : Launch) (Z : State) (a0 : Array Value) (hw : ∀ d ∈ tables_1, d.before a0 Z = true) (ws : List Jvm.Cond) (q1 : Int64) (p2 : Int32) (h0 : Heap) (n0 : Nat) (Z0 : n0 ≤ h0.size) :
    MetFree l (⟨"com/example/bit_sieve/bitsieve/CounterStoreBitsInUsePinLaw", "bit", "(JI)J"⟩ : MethodName) (head1 (Jvm.Cond.code (⟨"com/example/bit_sieve/bitsieve/CounterStoreBitsInUsePinLaw", "bit", "(JI)J"⟩ : MethodName) method_2_code 3 (some .long) :: ws) ({ frames := 0, cells := 0, slots := 0, locals := 0 } : Room)) (fun a U => a = #[(.long q1), (.int p2)] ∧ Z.Warmed39 U.vm ∧ U.heap = h0) (fun _ _ _ _ _ => True) (fun _ U o U' => ∃ v L, o = .returned v ∧ Q1 Z q1 p2 h0 n0 v U'.heap L ∧ FrameEnd U o U' L (({ frames := 0, cells := 0, slots := 0, locals := 0 } : Room)).cells (({ frames := 0, cells := 0, slots := 0, locals := 0 } : Room)).slots) := by
  refine MetFree.of_bodySF (plainFor_of_name pn_0) hisR ?_
  intro p e s m args below meth c s₁ Bd hml0 hP hK
  obtain ⟨rfl, hZ, hh⟩ := hP
  have hx := Bd.exec
  have hby := Bd.bytes
  have hml : c.maxLocals = 3 := hml0
  have hown : s.vm.findClass "com/example/bit_sieve/bitsieve/CounterStoreBitsInUsePinLaw" = some m.cls := findClass_of_methodNamed Bd.named
  have hnm := (name_of_methodNamed Bd.named Bd.method).1
  have X0 : Stand p l e ({ frames := 0, cells := 0, slots := 0, locals := 0 } : Room) s m #[(.long q1), (.int p2)] below meth c s₁ [] 0 0 := Stand.of_body Bd
  have e0 : s₁.heap = h0 := by rw [← hh, Bd.state]; rfl
  have N0 := Fr.nil n0
  show own_Go p.tables e below (own_P s (Q1 Z q1 p2 h0 n0) ({ frames := 0, cells := 0, slots := 0, locals := 0 } : Room).cells ({ frames := 0, cells := 0, slots := 0, locals := 0 } : Room).slots) s₁ _
  rw [ef_1]
  show own_Go p.tables e below _ s₁ (mkF m 0 #[.val (.long q1), .second, .val (.int p2)] [])
  refine own_go (fun t k => XT.lloadN X0.here hx rfl (hb hby d1_0) rfl k) ?_
  show own_Go p.tables e below _ s₁ (mkF m 1 #[.val (.long q1), .second, .val (.int p2)] [(.long q1)])
  refine own_go (fun t k => XS.iconst X0.here hx rfl (hb hby d1_1) k) ?_
  show own_Go p.tables e below _ s₁ (mkF m 2 #[.val (.long q1), .second, .val (.int p2)] [(.int (4 : Int32)), (.long q1)])
  refine own_go (fun t k => XS.iloadN X0.here hx rfl (hb hby d1_2) rfl k) ?_
  show own_Go p.tables e below _ s₁ (mkF m 3 #[.val (.long q1), .second, .val (.int p2)] [(.int p2), (.int (4 : Int32)), (.long q1)])
  refine own_go (fun t k => XS.imul X0.here hx rfl (hb hby d1_3) rfl k) ?_
  show own_Go p.tables e below _ s₁ (mkF m 4 #[.val (.long q1), .second, .val (.int p2)] [(.int ((4 : Int32) * p2)), (.long q1)])
  refine own_go (fun t k => XT.lushr X0.here hx rfl (hb hby d1_4) rfl k) ?_
  show own_Go p.tables e below _ s₁ (mkF m 5 #[.val (.long q1), .second, .val (.int p2)] [(.long (XT.ushrL q1 ((4 : Int32) * p2)))])
  refine own_go (fun t k => X0.ldc2J hx hown (mvT hZ (hw _ (List.mem_of_getElem? (i := 4) rfl))) rfl (hb hby d1_5) k) ?_
  show own_Go p.tables e below _ s₁ (mkF m 8 #[.val (.long q1), .second, .val (.int p2)] [(.long (15 : Int64)), (.long (XT.ushrL q1 ((4 : Int32) * p2)))])
  refine own_go (fun t k => XT.land X0.here hx rfl (hb hby d1_8) rfl k) ?_
  show own_Go p.tables e below _ s₁ (mkF m 9 #[.val (.long q1), .second, .val (.int p2)] [(.long ((XT.ushrL q1 ((4 : Int32) * p2)) &&& (15 : Int64)))])
  refine own_go (fun t k => XT.lconst X0.here hx rfl (hb hby d1_9) k) ?_
  show own_Go p.tables e below _ s₁ (mkF m 10 #[.val (.long q1), .second, .val (.int p2)] [(.long (0 : Int64)), (.long ((XT.ushrL q1 ((4 : Int32) * p2)) &&& (15 : Int64)))])
  refine own_go (fun t k => XT.lcmp X0.here hx rfl (hb hby d1_10) rfl k) ?_
  show own_Go p.tables e below _ s₁ (mkF m 11 #[.val (.long q1), .second, .val (.int p2)] [(.int (XT.cmpL ((XT.ushrL q1 ((4 : Int32) * p2)) &&& (15 : Int64)) (0 : Int64)))])
  by_cases hc : ((XT.ushrL q1 ((4 : Int32) * p2)) &&& (15 : Int64)) = (0 : Int64)
  ·
    refine own_go (fun t k => XS.ifYes X0.here hx rfl (pc0 := 11) (pc' := 20) rfl (hb hby d1_11) rfl (XT.ll_eq_t hc) (by decide) (by decide) k) ?_
    show own_Go p.tables e below _ s₁ (mkF m 20 #[.val (.long q1), .second, .val (.int p2)] [])
    refine own_go (fun t k => XT.lconst X0.here hx rfl (hb hby d1_20) k) ?_
    show own_Go p.tables e below _ s₁ (mkF m 21 #[.val (.long q1), .second, .val (.int p2)] [(.long (0 : Int64))])
    obtain ⟨fs, hr, hrun, hended, hW, hsame⟩ := X0.leave (v := some (.long (0 : Int64))) (fun h => by rw [Bd.returns] at h; cases h)
    refine ⟨_, _, ?_, hrun, hended, _, _, rfl, ?_, ⟨_, rfl⟩, hW, hsame.mono (by decide) (by decide)⟩
    · exact X0.lreturnOut hx Bd.returns (hb hby d1_21) hr
    · show Q1 Z q1 p2 h0 n0 _ s₁.heap _
      rw [e0]
      exact ⟨congrArg (fun z => some (Value.long z)) (if_pos hc).symm, N0, rfl⟩
  ·
    refine own_go (fun t k => XS.ifNo X0.here hx rfl (hb hby d1_11) rfl (XT.ll_eq_f hc) k) ?_
    show own_Go p.tables e below _ s₁ (mkF m 14 #[.val (.long q1), .second, .val (.int p2)] [])
    refine own_go (fun t k => XT.lconst X0.here hx rfl (hb hby d1_14) k) ?_
    show own_Go p.tables e below _ s₁ (mkF m 15 #[.val (.long q1), .second, .val (.int p2)] [(.long (1 : Int64))])
    refine own_go (fun t k => XS.iloadN X0.here hx rfl (hb hby d1_15) rfl k) ?_
    show own_Go p.tables e below _ s₁ (mkF m 16 #[.val (.long q1), .second, .val (.int p2)] [(.int p2), (.long (1 : Int64))])
    refine own_go (fun t k => XT.lshl X0.here hx rfl (hb hby d1_16) rfl k) ?_
    show own_Go p.tables e below _ s₁ (mkF m 17 #[.val (.long q1), .second, .val (.int p2)] [(.long ((1 : Int64) <<< (p2.toInt64 &&& 63)))])
    refine own_go (fun t k => XS.goto X0.here hx rfl (pc0 := 17) (pc' := 21) rfl (hb hby d1_17) (by decide) (by decide) k) ?_
    show own_Go p.tables e below _ s₁ (mkF m 21 #[.val (.long q1), .second, .val (.int p2)] [(.long ((1 : Int64) <<< (p2.toInt64 &&& 63)))])
    obtain ⟨fs, hr, hrun, hended, hW, hsame⟩ := X0.leave (v := some (.long ((1 : Int64) <<< (p2.toInt64 &&& 63)))) (fun h => by rw [Bd.returns] at h; cases h)
    refine ⟨_, _, ?_, hrun, hended, _, _, rfl, ?_, ⟨_, rfl⟩, hW, hsame.mono (by decide) (by decide)⟩
    · exact X0.lreturnOut hx Bd.returns (hb hby d1_21) hr
    · show Q1 Z q1 p2 h0 n0 _ s₁.heap _
      rw [e0]
      exact ⟨congrArg (fun z => some (Value.long z)) (if_neg hc).symm, N0, rfl⟩
theorem d2_0 : decode prog_19_method_5_code 0 = .ok (.lload_n 0, 1) := by decide +kernel
theorem d2_1 : decode prog_19_method_5_code 1 = .ok (.lload_n 0, 1) := by decide +kernel
theorem d2_2 : decode prog_19_method_5_code 2 = .ok (.iconst 1, 1) := by decide +kernel
theorem d2_3 : decode prog_19_method_5_code 3 = .ok (.lushr, 1) := by decide +kernel
theorem d2_4 : decode prog_19_method_5_code 4 = .ok (.lor, 1) := by decide +kernel
theorem d2_5 : decode prog_19_method_5_code 5 = .ok (.lload_n 0, 1) := by decide +kernel
theorem d2_6 : decode prog_19_method_5_code 6 = .ok (.iconst 2, 1) := by decide +kernel
theorem d2_7 : decode prog_19_method_5_code 7 = .ok (.lushr, 1) := by decide +kernel
theorem d2_8 : decode prog_19_method_5_code 8 = .ok (.lor, 1) := by decide +kernel
theorem d2_9 : decode prog_19_method_5_code 9 = .ok (.lload_n 0, 1) := by decide +kernel
theorem d2_10 : decode prog_19_method_5_code 10 = .ok (.iconst 3, 1) := by decide +kernel
theorem d2_11 : decode prog_19_method_5_code 11 = .ok (.lushr, 1) := by decide +kernel
theorem d2_12 : decode prog_19_method_5_code 12 = .ok (.lor, 1) := by decide +kernel
theorem d2_13 : decode prog_19_method_5_code 13 = .ok (.ldc2_w 7, 3) := by decide +kernel
theorem d2_16 : decode prog_19_method_5_code 16 = .ok (.land, 1) := by decide +kernel
theorem d2_17 : decode prog_19_method_5_code 17 = .ok (.lstore_n 2, 1) := by decide +kernel
theorem d2_18 : decode prog_19_method_5_code 18 = .ok (.lload_n 2, 1) := by decide +kernel
theorem d2_19 : decode prog_19_method_5_code 19 = .ok (.lload_n 2, 1) := by decide +kernel
theorem d2_20 : decode prog_19_method_5_code 20 = .ok (.iconst 3, 1) := by decide +kernel
theorem d2_21 : decode prog_19_method_5_code 21 = .ok (.lushr, 1) := by decide +kernel
theorem d2_22 : decode prog_19_method_5_code 22 = .ok (.lor, 1) := by decide +kernel
theorem d2_23 : decode prog_19_method_5_code 23 = .ok (.ldc2_w 14, 3) := by decide +kernel
theorem d2_26 : decode prog_19_method_5_code 26 = .ok (.land, 1) := by decide +kernel
theorem d2_27 : decode prog_19_method_5_code 27 = .ok (.lstore_n 2, 1) := by decide +kernel
theorem d2_28 : decode prog_19_method_5_code 28 = .ok (.lload_n 2, 1) := by decide +kernel
theorem d2_29 : decode prog_19_method_5_code 29 = .ok (.lload_n 2, 1) := by decide +kernel
theorem d2_30 : decode prog_19_method_5_code 30 = .ok (.bipush 6, 2) := by decide +kernel
theorem d2_32 : decode prog_19_method_5_code 32 = .ok (.lushr, 1) := by decide +kernel
theorem d2_33 : decode prog_19_method_5_code 33 = .ok (.lor, 1) := by decide +kernel
theorem d2_34 : decode prog_19_method_5_code 34 = .ok (.ldc2_w 16, 3) := by decide +kernel
theorem d2_37 : decode prog_19_method_5_code 37 = .ok (.land, 1) := by decide +kernel
theorem d2_38 : decode prog_19_method_5_code 38 = .ok (.lstore_n 2, 1) := by decide +kernel
theorem d2_39 : decode prog_19_method_5_code 39 = .ok (.lload_n 2, 1) := by decide +kernel
theorem d2_40 : decode prog_19_method_5_code 40 = .ok (.lload_n 2, 1) := by decide +kernel
theorem d2_41 : decode prog_19_method_5_code 41 = .ok (.bipush 12, 2) := by decide +kernel
theorem d2_43 : decode prog_19_method_5_code 43 = .ok (.lushr, 1) := by decide +kernel
theorem d2_44 : decode prog_19_method_5_code 44 = .ok (.lor, 1) := by decide +kernel
theorem d2_45 : decode prog_19_method_5_code 45 = .ok (.ldc2_w 18, 3) := by decide +kernel
theorem d2_48 : decode prog_19_method_5_code 48 = .ok (.land, 1) := by decide +kernel
theorem d2_49 : decode prog_19_method_5_code 49 = .ok (.lstore_n 2, 1) := by decide +kernel
theorem d2_50 : decode prog_19_method_5_code 50 = .ok (.lload_n 2, 1) := by decide +kernel
theorem d2_51 : decode prog_19_method_5_code 51 = .ok (.lload_n 2, 1) := by decide +kernel
theorem d2_52 : decode prog_19_method_5_code 52 = .ok (.bipush 24, 2) := by decide +kernel
theorem d2_54 : decode prog_19_method_5_code 54 = .ok (.lushr, 1) := by decide +kernel
theorem d2_55 : decode prog_19_method_5_code 55 = .ok (.lor, 1) := by decide +kernel
theorem d2_56 : decode prog_19_method_5_code 56 = .ok (.ldc2_w 20, 3) := by decide +kernel
theorem d2_59 : decode prog_19_method_5_code 59 = .ok (.land, 1) := by decide +kernel
theorem d2_60 : decode prog_19_method_5_code 60 = .ok (.lreturn, 1) := by decide +kernel
theorem pn_1 : plainName "com/example/bit_sieve/bitsieve/CounterStore" = true := by first | (simp [plainName, overriddenIn]; done) | decide +kernel
theorem ef_2 (m : MethodId) {q1 : Int64} : entryFrame m #[(.long q1)] 4 = mkF m 0 #[.val (.long q1), .second, .unset, .unset] [] := by first | (simp [entryFrame, mkF, argsToLocals, Value.category]; done) | rfl
def Q2 (Z : State) (q1 : Int64) (h0 : Heap) (n0 : Nat) (v : Option Value) (h : Heap) (L : List Loc) : Prop := v = some (.long (own_biu q1)) ∧ Fr n0 L ∧ h = h0
set_option maxRecDepth 65536 in
set_option maxHeartbeats 40000000 in
theorem rm2 (l : Launch) (Z : State) (a0 : Array Value) (hw : ∀ d ∈ tables_1, d.before a0 Z = true) (ws : List Jvm.Cond) (q1 : Int64) (h0 : Heap) (n0 : Nat) (Z0 : n0 ≤ h0.size) :
    MetFree l (⟨"com/example/bit_sieve/bitsieve/CounterStore", "bitsInUse", "(J)J"⟩ : MethodName) (head1 (Jvm.Cond.code (⟨"com/example/bit_sieve/bitsieve/CounterStore", "bitsInUse", "(J)J"⟩ : MethodName) prog_19_method_5_code 4 (some .long) :: ws) ({ frames := 0, cells := 0, slots := 0, locals := 0 } : Room)) (fun a U => a = #[(.long q1)] ∧ Z.Warmed39 U.vm ∧ U.heap = h0) (fun _ _ _ _ _ => True) (fun _ U o U' => ∃ v L, o = .returned v ∧ Q2 Z q1 h0 n0 v U'.heap L ∧ FrameEnd U o U' L (({ frames := 0, cells := 0, slots := 0, locals := 0 } : Room)).cells (({ frames := 0, cells := 0, slots := 0, locals := 0 } : Room)).slots) := by
  refine MetFree.of_bodySF (plainFor_of_name pn_1) hisR ?_
  intro p e s m args below meth c s₁ Bd hml0 hP hK
  obtain ⟨rfl, hZ, hh⟩ := hP
  have hx := Bd.exec
  have hby := Bd.bytes
  have hml : c.maxLocals = 4 := hml0
  have hown : s.vm.findClass "com/example/bit_sieve/bitsieve/CounterStore" = some m.cls := findClass_of_methodNamed Bd.named
  have hnm := (name_of_methodNamed Bd.named Bd.method).1
  have X0 : Stand p l e ({ frames := 0, cells := 0, slots := 0, locals := 0 } : Room) s m #[(.long q1)] below meth c s₁ [] 0 0 := Stand.of_body Bd
  have e0 : s₁.heap = h0 := by rw [← hh, Bd.state]; rfl
  have N0 := Fr.nil n0
  show own_Go p.tables e below (own_P s (Q2 Z q1 h0 n0) ({ frames := 0, cells := 0, slots := 0, locals := 0 } : Room).cells ({ frames := 0, cells := 0, slots := 0, locals := 0 } : Room).slots) s₁ _
  rw [ef_2]
  show own_Go p.tables e below _ s₁ (mkF m 0 #[.val (.long q1), .second, .unset, .unset] [])
  refine own_go (fun t k => XT.lloadN X0.here hx rfl (hb hby d2_0) rfl k) ?_
  show own_Go p.tables e below _ s₁ (mkF m 1 #[.val (.long q1), .second, .unset, .unset] [(.long q1)])
  refine own_go (fun t k => XT.lloadN X0.here hx rfl (hb hby d2_1) rfl k) ?_
  show own_Go p.tables e below _ s₁ (mkF m 2 #[.val (.long q1), .second, .unset, .unset] [(.long q1), (.long q1)])
  refine own_go (fun t k => XS.iconst X0.here hx rfl (hb hby d2_2) k) ?_
  show own_Go p.tables e below _ s₁ (mkF m 3 #[.val (.long q1), .second, .unset, .unset] [(.int (1 : Int32)), (.long q1), (.long q1)])
  refine own_go (fun t k => XT.lushr X0.here hx rfl (hb hby d2_3) rfl k) ?_
  show own_Go p.tables e below _ s₁ (mkF m 4 #[.val (.long q1), .second, .unset, .unset] [(.long (XT.ushrL q1 (1 : Int32))), (.long q1)])
  refine own_go (fun t k => XT.lor X0.here hx rfl (hb hby d2_4) rfl k) ?_
  show own_Go p.tables e below _ s₁ (mkF m 5 #[.val (.long q1), .second, .unset, .unset] [(.long (q1 ||| (XT.ushrL q1 (1 : Int32))))])
  refine own_go (fun t k => XT.lloadN X0.here hx rfl (hb hby d2_5) rfl k) ?_
  show own_Go p.tables e below _ s₁ (mkF m 6 #[.val (.long q1), .second, .unset, .unset] [(.long q1), (.long (q1 ||| (XT.ushrL q1 (1 : Int32))))])
  refine own_go (fun t k => XS.iconst X0.here hx rfl (hb hby d2_6) k) ?_
  show own_Go p.tables e below _ s₁ (mkF m 7 #[.val (.long q1), .second, .unset, .unset] [(.int (2 : Int32)), (.long q1), (.long (q1 ||| (XT.ushrL q1 (1 : Int32))))])
  refine own_go (fun t k => XT.lushr X0.here hx rfl (hb hby d2_7) rfl k) ?_
  show own_Go p.tables e below _ s₁ (mkF m 8 #[.val (.long q1), .second, .unset, .unset] [(.long (XT.ushrL q1 (2 : Int32))), (.long (q1 ||| (XT.ushrL q1 (1 : Int32))))])
  refine own_go (fun t k => XT.lor X0.here hx rfl (hb hby d2_8) rfl k) ?_
  show own_Go p.tables e below _ s₁ (mkF m 9 #[.val (.long q1), .second, .unset, .unset] [(.long ((q1 ||| (XT.ushrL q1 (1 : Int32))) ||| (XT.ushrL q1 (2 : Int32))))])
  refine own_go (fun t k => XT.lloadN X0.here hx rfl (hb hby d2_9) rfl k) ?_
  show own_Go p.tables e below _ s₁ (mkF m 10 #[.val (.long q1), .second, .unset, .unset] [(.long q1), (.long ((q1 ||| (XT.ushrL q1 (1 : Int32))) ||| (XT.ushrL q1 (2 : Int32))))])
  refine own_go (fun t k => XS.iconst X0.here hx rfl (hb hby d2_10) k) ?_
  show own_Go p.tables e below _ s₁ (mkF m 11 #[.val (.long q1), .second, .unset, .unset] [(.int (3 : Int32)), (.long q1), (.long ((q1 ||| (XT.ushrL q1 (1 : Int32))) ||| (XT.ushrL q1 (2 : Int32))))])
  refine own_go (fun t k => XT.lushr X0.here hx rfl (hb hby d2_11) rfl k) ?_
  show own_Go p.tables e below _ s₁ (mkF m 12 #[.val (.long q1), .second, .unset, .unset] [(.long (XT.ushrL q1 (3 : Int32))), (.long ((q1 ||| (XT.ushrL q1 (1 : Int32))) ||| (XT.ushrL q1 (2 : Int32))))])
  refine own_go (fun t k => XT.lor X0.here hx rfl (hb hby d2_12) rfl k) ?_
  show own_Go p.tables e below _ s₁ (mkF m 13 #[.val (.long q1), .second, .unset, .unset] [(.long (((q1 ||| (XT.ushrL q1 (1 : Int32))) ||| (XT.ushrL q1 (2 : Int32))) ||| (XT.ushrL q1 (3 : Int32))))])
  refine own_go (fun t k => X0.ldc2J hx hown (mvT hZ (hw _ (List.mem_of_getElem? (i := 9) rfl))) rfl (hb hby d2_13) k) ?_
  show own_Go p.tables e below _ s₁ (mkF m 16 #[.val (.long q1), .second, .unset, .unset] [(.long (1229782938247303441 : Int64)), (.long (((q1 ||| (XT.ushrL q1 (1 : Int32))) ||| (XT.ushrL q1 (2 : Int32))) ||| (XT.ushrL q1 (3 : Int32))))])
  refine own_go (fun t k => XT.land X0.here hx rfl (hb hby d2_16) rfl k) ?_
  show own_Go p.tables e below _ s₁ (mkF m 17 #[.val (.long q1), .second, .unset, .unset] [(.long ((((q1 ||| (XT.ushrL q1 (1 : Int32))) ||| (XT.ushrL q1 (2 : Int32))) ||| (XT.ushrL q1 (3 : Int32))) &&& (1229782938247303441 : Int64)))])
  show own_Go p.tables e below _ s₁ (mkF m 17 #[.val (.long q1), .second, .unset, .unset] [(.long (own_b1 q1))])
  refine own_go (fun t k => XT.lstoreN X0.here hx rfl (hb hby d2_17) rfl (l' := #[.val (.long q1), .second, .val (.long (own_b1 q1)), .second]) rfl k) ?_
  show own_Go p.tables e below _ s₁ (mkF m 18 #[.val (.long q1), .second, .val (.long (own_b1 q1)), .second] [])
  refine own_go (fun t k => XT.lloadN X0.here hx rfl (hb hby d2_18) rfl k) ?_
  show own_Go p.tables e below _ s₁ (mkF m 19 #[.val (.long q1), .second, .val (.long (own_b1 q1)), .second] [(.long (own_b1 q1))])
  refine own_go (fun t k => XT.lloadN X0.here hx rfl (hb hby d2_19) rfl k) ?_
  show own_Go p.tables e below _ s₁ (mkF m 20 #[.val (.long q1), .second, .val (.long (own_b1 q1)), .second] [(.long (own_b1 q1)), (.long (own_b1 q1))])
  refine own_go (fun t k => XS.iconst X0.here hx rfl (hb hby d2_20) k) ?_
  show own_Go p.tables e below _ s₁ (mkF m 21 #[.val (.long q1), .second, .val (.long (own_b1 q1)), .second] [(.int (3 : Int32)), (.long (own_b1 q1)), (.long (own_b1 q1))])
  refine own_go (fun t k => XT.lushr X0.here hx rfl (hb hby d2_21) rfl k) ?_
  show own_Go p.tables e below _ s₁ (mkF m 22 #[.val (.long q1), .second, .val (.long (own_b1 q1)), .second] [(.long (XT.ushrL (own_b1 q1) (3 : Int32))), (.long (own_b1 q1))])
  refine own_go (fun t k => XT.lor X0.here hx rfl (hb hby d2_22) rfl k) ?_
  show own_Go p.tables e below _ s₁ (mkF m 23 #[.val (.long q1), .second, .val (.long (own_b1 q1)), .second] [(.long ((own_b1 q1) ||| (XT.ushrL (own_b1 q1) (3 : Int32))))])
  refine own_go (fun t k => X0.ldc2J hx hown (mvT hZ (hw _ (List.mem_of_getElem? (i := 10) rfl))) rfl (hb hby d2_23) k) ?_
  show own_Go p.tables e below _ s₁ (mkF m 26 #[.val (.long q1), .second, .val (.long (own_b1 q1)), .second] [(.long (217020518514230019 : Int64)), (.long ((own_b1 q1) ||| (XT.ushrL (own_b1 q1) (3 : Int32))))])
  refine own_go (fun t k => XT.land X0.here hx rfl (hb hby d2_26) rfl k) ?_
  show own_Go p.tables e below _ s₁ (mkF m 27 #[.val (.long q1), .second, .val (.long (own_b1 q1)), .second] [(.long (((own_b1 q1) ||| (XT.ushrL (own_b1 q1) (3 : Int32))) &&& (217020518514230019 : Int64)))])
  show own_Go p.tables e below _ s₁ (mkF m 27 #[.val (.long q1), .second, .val (.long (own_b1 q1)), .second] [(.long (own_b2 (own_b1 q1)))])
  refine own_go (fun t k => XT.lstoreN X0.here hx rfl (hb hby d2_27) rfl (l' := #[.val (.long q1), .second, .val (.long (own_b2 (own_b1 q1))), .second]) rfl k) ?_
  show own_Go p.tables e below _ s₁ (mkF m 28 #[.val (.long q1), .second, .val (.long (own_b2 (own_b1 q1))), .second] [])
  refine own_go (fun t k => XT.lloadN X0.here hx rfl (hb hby d2_28) rfl k) ?_
  show own_Go p.tables e below _ s₁ (mkF m 29 #[.val (.long q1), .second, .val (.long (own_b2 (own_b1 q1))), .second] [(.long (own_b2 (own_b1 q1)))])
  refine own_go (fun t k => XT.lloadN X0.here hx rfl (hb hby d2_29) rfl k) ?_
  show own_Go p.tables e below _ s₁ (mkF m 30 #[.val (.long q1), .second, .val (.long (own_b2 (own_b1 q1))), .second] [(.long (own_b2 (own_b1 q1))), (.long (own_b2 (own_b1 q1)))])
  refine own_go (fun t k => XS.bipush X0.here hx rfl (hb hby d2_30) k) ?_
  show own_Go p.tables e below _ s₁ (mkF m 32 #[.val (.long q1), .second, .val (.long (own_b2 (own_b1 q1))), .second] [(.int (6 : Int32)), (.long (own_b2 (own_b1 q1))), (.long (own_b2 (own_b1 q1)))])
  refine own_go (fun t k => XT.lushr X0.here hx rfl (hb hby d2_32) rfl k) ?_
  show own_Go p.tables e below _ s₁ (mkF m 33 #[.val (.long q1), .second, .val (.long (own_b2 (own_b1 q1))), .second] [(.long (XT.ushrL (own_b2 (own_b1 q1)) (6 : Int32))), (.long (own_b2 (own_b1 q1)))])
  refine own_go (fun t k => XT.lor X0.here hx rfl (hb hby d2_33) rfl k) ?_
  show own_Go p.tables e below _ s₁ (mkF m 34 #[.val (.long q1), .second, .val (.long (own_b2 (own_b1 q1))), .second] [(.long ((own_b2 (own_b1 q1)) ||| (XT.ushrL (own_b2 (own_b1 q1)) (6 : Int32))))])
  refine own_go (fun t k => X0.ldc2J hx hown (mvT hZ (hw _ (List.mem_of_getElem? (i := 11) rfl))) rfl (hb hby d2_34) k) ?_
  show own_Go p.tables e below _ s₁ (mkF m 37 #[.val (.long q1), .second, .val (.long (own_b2 (own_b1 q1))), .second] [(.long (4222189076152335 : Int64)), (.long ((own_b2 (own_b1 q1)) ||| (XT.ushrL (own_b2 (own_b1 q1)) (6 : Int32))))])
  refine own_go (fun t k => XT.land X0.here hx rfl (hb hby d2_37) rfl k) ?_
  show own_Go p.tables e below _ s₁ (mkF m 38 #[.val (.long q1), .second, .val (.long (own_b2 (own_b1 q1))), .second] [(.long (((own_b2 (own_b1 q1)) ||| (XT.ushrL (own_b2 (own_b1 q1)) (6 : Int32))) &&& (4222189076152335 : Int64)))])
  show own_Go p.tables e below _ s₁ (mkF m 38 #[.val (.long q1), .second, .val (.long (own_b2 (own_b1 q1))), .second] [(.long (own_b3 (own_b2 (own_b1 q1))))])
  refine own_go (fun t k => XT.lstoreN X0.here hx rfl (hb hby d2_38) rfl (l' := #[.val (.long q1), .second, .val (.long (own_b3 (own_b2 (own_b1 q1)))), .second]) rfl k) ?_
  show own_Go p.tables e below _ s₁ (mkF m 39 #[.val (.long q1), .second, .val (.long (own_b3 (own_b2 (own_b1 q1)))), .second] [])
  refine own_go (fun t k => XT.lloadN X0.here hx rfl (hb hby d2_39) rfl k) ?_
  show own_Go p.tables e below _ s₁ (mkF m 40 #[.val (.long q1), .second, .val (.long (own_b3 (own_b2 (own_b1 q1)))), .second] [(.long (own_b3 (own_b2 (own_b1 q1))))])
  refine own_go (fun t k => XT.lloadN X0.here hx rfl (hb hby d2_40) rfl k) ?_
  show own_Go p.tables e below _ s₁ (mkF m 41 #[.val (.long q1), .second, .val (.long (own_b3 (own_b2 (own_b1 q1)))), .second] [(.long (own_b3 (own_b2 (own_b1 q1)))), (.long (own_b3 (own_b2 (own_b1 q1))))])
  refine own_go (fun t k => XS.bipush X0.here hx rfl (hb hby d2_41) k) ?_
  show own_Go p.tables e below _ s₁ (mkF m 43 #[.val (.long q1), .second, .val (.long (own_b3 (own_b2 (own_b1 q1)))), .second] [(.int (12 : Int32)), (.long (own_b3 (own_b2 (own_b1 q1)))), (.long (own_b3 (own_b2 (own_b1 q1))))])
  refine own_go (fun t k => XT.lushr X0.here hx rfl (hb hby d2_43) rfl k) ?_
  show own_Go p.tables e below _ s₁ (mkF m 44 #[.val (.long q1), .second, .val (.long (own_b3 (own_b2 (own_b1 q1)))), .second] [(.long (XT.ushrL (own_b3 (own_b2 (own_b1 q1))) (12 : Int32))), (.long (own_b3 (own_b2 (own_b1 q1))))])
  refine own_go (fun t k => XT.lor X0.here hx rfl (hb hby d2_44) rfl k) ?_
  show own_Go p.tables e below _ s₁ (mkF m 45 #[.val (.long q1), .second, .val (.long (own_b3 (own_b2 (own_b1 q1)))), .second] [(.long ((own_b3 (own_b2 (own_b1 q1))) ||| (XT.ushrL (own_b3 (own_b2 (own_b1 q1))) (12 : Int32))))])
  refine own_go (fun t k => X0.ldc2J hx hown (mvT hZ (hw _ (List.mem_of_getElem? (i := 12) rfl))) rfl (hb hby d2_45) k) ?_
  show own_Go p.tables e below _ s₁ (mkF m 48 #[.val (.long q1), .second, .val (.long (own_b3 (own_b2 (own_b1 q1)))), .second] [(.long (1095216660735 : Int64)), (.long ((own_b3 (own_b2 (own_b1 q1))) ||| (XT.ushrL (own_b3 (own_b2 (own_b1 q1))) (12 : Int32))))])
  refine own_go (fun t k => XT.land X0.here hx rfl (hb hby d2_48) rfl k) ?_
  show own_Go p.tables e below _ s₁ (mkF m 49 #[.val (.long q1), .second, .val (.long (own_b3 (own_b2 (own_b1 q1)))), .second] [(.long (((own_b3 (own_b2 (own_b1 q1))) ||| (XT.ushrL (own_b3 (own_b2 (own_b1 q1))) (12 : Int32))) &&& (1095216660735 : Int64)))])
  show own_Go p.tables e below _ s₁ (mkF m 49 #[.val (.long q1), .second, .val (.long (own_b3 (own_b2 (own_b1 q1)))), .second] [(.long (own_b4 (own_b3 (own_b2 (own_b1 q1)))))])
  refine own_go (fun t k => XT.lstoreN X0.here hx rfl (hb hby d2_49) rfl (l' := #[.val (.long q1), .second, .val (.long (own_b4 (own_b3 (own_b2 (own_b1 q1))))), .second]) rfl k) ?_
  show own_Go p.tables e below _ s₁ (mkF m 50 #[.val (.long q1), .second, .val (.long (own_b4 (own_b3 (own_b2 (own_b1 q1))))), .second] [])
  refine own_go (fun t k => XT.lloadN X0.here hx rfl (hb hby d2_50) rfl k) ?_
  show own_Go p.tables e below _ s₁ (mkF m 51 #[.val (.long q1), .second, .val (.long (own_b4 (own_b3 (own_b2 (own_b1 q1))))), .second] [(.long (own_b4 (own_b3 (own_b2 (own_b1 q1)))))])
  refine own_go (fun t k => XT.lloadN X0.here hx rfl (hb hby d2_51) rfl k) ?_
  show own_Go p.tables e below _ s₁ (mkF m 52 #[.val (.long q1), .second, .val (.long (own_b4 (own_b3 (own_b2 (own_b1 q1))))), .second] [(.long (own_b4 (own_b3 (own_b2 (own_b1 q1))))), (.long (own_b4 (own_b3 (own_b2 (own_b1 q1)))))])
  refine own_go (fun t k => XS.bipush X0.here hx rfl (hb hby d2_52) k) ?_
  show own_Go p.tables e below _ s₁ (mkF m 54 #[.val (.long q1), .second, .val (.long (own_b4 (own_b3 (own_b2 (own_b1 q1))))), .second] [(.int (24 : Int32)), (.long (own_b4 (own_b3 (own_b2 (own_b1 q1))))), (.long (own_b4 (own_b3 (own_b2 (own_b1 q1)))))])
  refine own_go (fun t k => XT.lushr X0.here hx rfl (hb hby d2_54) rfl k) ?_
  show own_Go p.tables e below _ s₁ (mkF m 55 #[.val (.long q1), .second, .val (.long (own_b4 (own_b3 (own_b2 (own_b1 q1))))), .second] [(.long (XT.ushrL (own_b4 (own_b3 (own_b2 (own_b1 q1)))) (24 : Int32))), (.long (own_b4 (own_b3 (own_b2 (own_b1 q1)))))])
  refine own_go (fun t k => XT.lor X0.here hx rfl (hb hby d2_55) rfl k) ?_
  show own_Go p.tables e below _ s₁ (mkF m 56 #[.val (.long q1), .second, .val (.long (own_b4 (own_b3 (own_b2 (own_b1 q1))))), .second] [(.long ((own_b4 (own_b3 (own_b2 (own_b1 q1)))) ||| (XT.ushrL (own_b4 (own_b3 (own_b2 (own_b1 q1)))) (24 : Int32))))])
  refine own_go (fun t k => X0.ldc2J hx hown (mvT hZ (hw _ (List.mem_of_getElem? (i := 13) rfl))) rfl (hb hby d2_56) k) ?_
  show own_Go p.tables e below _ s₁ (mkF m 59 #[.val (.long q1), .second, .val (.long (own_b4 (own_b3 (own_b2 (own_b1 q1))))), .second] [(.long (65535 : Int64)), (.long ((own_b4 (own_b3 (own_b2 (own_b1 q1)))) ||| (XT.ushrL (own_b4 (own_b3 (own_b2 (own_b1 q1)))) (24 : Int32))))])
  refine own_go (fun t k => XT.land X0.here hx rfl (hb hby d2_59) rfl k) ?_
  show own_Go p.tables e below _ s₁ (mkF m 60 #[.val (.long q1), .second, .val (.long (own_b4 (own_b3 (own_b2 (own_b1 q1))))), .second] [(.long (((own_b4 (own_b3 (own_b2 (own_b1 q1)))) ||| (XT.ushrL (own_b4 (own_b3 (own_b2 (own_b1 q1)))) (24 : Int32))) &&& (65535 : Int64)))])
  show own_Go p.tables e below _ s₁ (mkF m 60 #[.val (.long q1), .second, .val (.long (own_b4 (own_b3 (own_b2 (own_b1 q1))))), .second] [(.long (own_b5 (own_b4 (own_b3 (own_b2 (own_b1 q1))))))])
  obtain ⟨fs, hr, hrun, hended, hW, hsame⟩ := X0.leave (v := some (.long (own_b5 (own_b4 (own_b3 (own_b2 (own_b1 q1))))))) (fun h => by rw [Bd.returns] at h; cases h)
  refine ⟨_, _, ?_, hrun, hended, _, _, rfl, ?_, ⟨_, rfl⟩, hW, hsame.mono (by decide) (by decide)⟩
  · exact X0.lreturnOut hx Bd.returns (hb hby d2_60) hr
  · show Q2 Z q1 h0 n0 _ s₁.heap _
    rw [e0]
    exact ⟨rfl, N0, rfl⟩
theorem pd_0 : parseMethodDescriptor "(JI)J" = some ⟨[.long, .int], some .long⟩ := by decide +kernel
theorem pd_1 : parseMethodDescriptor "(J)J" = some ⟨[.long], some .long⟩ := by decide +kernel
theorem ef_0 (m : MethodId) {q1 : Int64} {q2 : Int64} : entryFrame m #[(.long q1), (.long q2)] maxLocals = mkF m 0 #[.val (.long q1), .second, .val (.long q2), .second, .unset, .unset, .unset, .unset] [] := by first | (simp [entryFrame, mkF, argsToLocals, Value.category, maxLocals]; done) | rfl
def Q0 (Z : State) (q1 : Int64) (q2 : Int64) (h0 : Heap) (n0 : Nat) (v : Option Value) (h : Heap) (L : List Loc) : Prop := v = some (.int 1) ∧ Fr n0 L
set_option maxRecDepth 65536 in
set_option maxHeartbeats 40000000 in
theorem rm0 (l : Launch) (Z : State) (a0 : Array Value) (hw : ∀ d ∈ tables_1, d.before a0 Z = true) (ws : List Jvm.Cond) (q1 : Int64) (q2 : Int64) (h0 : Heap) (n0 : Nat) (Z0 : n0 ≤ h0.size) :
    MetFree l x (head1 (Jvm.Cond.code x code maxLocals ret :: ws) room_1) (fun a U => a = #[(.long q1), (.long q2)] ∧ Z.Warmed39 U.vm ∧ U.heap = h0) (fun _ _ _ _ _ => True) (fun _ U o U' => ∃ v L, o = .returned v ∧ Q0 Z q1 q2 h0 n0 v U'.heap L ∧ FrameEnd U o U' L (room_1).cells (room_1).slots) := by
  refine MetFree.of_bodySF (plainFor_of_name pn_0) hisR ?_
  intro p e s m args below meth c s₁ Bd hml0 hP hK
  obtain ⟨rfl, hZ, hh⟩ := hP
  have hx := Bd.exec
  have hby := Bd.bytes
  have hml : c.maxLocals = 8 := hml0
  have hown : s.vm.findClass "com/example/bit_sieve/bitsieve/CounterStoreBitsInUsePinLaw" = some m.cls := findClass_of_methodNamed Bd.named
  have hnm := (name_of_methodNamed Bd.named Bd.method).1
  have X0 : Stand p l e room_1 s m #[(.long q1), (.long q2)] below meth c s₁ [] 0 0 := Stand.of_body Bd
  have e0 : s₁.heap = h0 := by rw [← hh, Bd.state]; rfl
  have N0 := Fr.nil n0
  show own_Go p.tables e below (own_P s (Q0 Z q1 q2 h0 n0) room_1.cells room_1.slots) s₁ _
  rw [ef_0]
  show own_Go p.tables e below _ s₁ (mkF m 0 #[.val (.long q1), .second, .val (.long q2), .second, .unset, .unset, .unset, .unset] [])
  refine own_go (fun t k => XT.lloadN X0.here hx rfl (hb hby at_0) rfl k) ?_
  show own_Go p.tables e below _ s₁ (mkF m 1 #[.val (.long q1), .second, .val (.long q2), .second, .unset, .unset, .unset, .unset] [(.long q1)])
  refine own_go (fun t k => XT.lloadN X0.here hx rfl (hb hby at_1) rfl k) ?_
  show own_Go p.tables e below _ s₁ (mkF m 2 #[.val (.long q1), .second, .val (.long q2), .second, .unset, .unset, .unset, .unset] [(.long q2), (.long q1)])
  refine own_go (fun t k => XT.land X0.here hx rfl (hb hby at_2) rfl k) ?_
  show own_Go p.tables e below _ s₁ (mkF m 3 #[.val (.long q1), .second, .val (.long q2), .second, .unset, .unset, .unset, .unset] [(.long (q1 &&& q2))])
  refine own_go (fun t k => XT.lstore X0.here hx rfl (hb hby at_3) rfl (l' := #[.val (.long q1), .second, .val (.long q2), .second, .val (.long (q1 &&& q2)), .second, .unset, .unset]) rfl k) ?_
  show own_Go p.tables e below _ s₁ (mkF m 5 #[.val (.long q1), .second, .val (.long q2), .second, .val (.long (q1 &&& q2)), .second, .unset, .unset] [])
  generalize gx1 : (q1 &&& q2) = x1
  show own_Go p.tables e below _ s₁ (mkF m 5 #[.val (.long q1), .second, .val (.long q2), .second, .val (.long x1), .second, .unset, .unset] [])
  refine own_go (fun t k => XT.lload X0.here hx rfl (hb hby at_5) rfl k) ?_
  show own_Go p.tables e below _ s₁ (mkF m 7 #[.val (.long q1), .second, .val (.long q2), .second, .val (.long x1), .second, .unset, .unset] [(.long x1)])
  refine own_go (fun t k => XS.iconst X0.here hx rfl (hb hby at_7) k) ?_
  show own_Go p.tables e below _ s₁ (mkF m 8 #[.val (.long q1), .second, .val (.long q2), .second, .val (.long x1), .second, .unset, .unset] [(.int (0 : Int32)), (.long x1)])
  obtain ⟨_, _, ⟨T1, L1, k1, n1⟩, -, X1, ⟨Lc1, hQ1, l1, y1, z1⟩, st1⟩ := Jvm.LawKit.callS X0 hx (y := (⟨"com/example/bit_sieve/bitsieve/CounterStoreBitsInUsePinLaw", "bit", "(JI)J"⟩ : MethodName)) hown (mvT hZ (hw _ (List.mem_of_getElem? (i := 0) rfl))) (mvT hZ (hw _ (List.mem_of_getElem? (i := 1) rfl))) (mvT hZ (hw _ (List.mem_of_getElem? (i := 2) rfl))) (mvT hZ (hw _ (List.mem_of_getElem? (i := 3) rfl))) (by decide) (backOf (W := 0) (rm1 l Z a0 hw [] x1 (0 : Int32) h0 n0 Z0) hZ (hw _ (List.mem_of_getElem? (i := 3) rfl)) (hw _ (List.mem_of_getElem? (i := 2) rfl)) (by decide) (by decide)) (g := (mkF m 8 #[.val (.long q1), .second, .val (.long q2), .second, .val (.long x1), .second, .unset, .unset] [(.int (0 : Int32)), (.long x1)])) rfl (by rw [hml]; rfl) (argsL := [(.long x1), (.int (0 : Int32))]) (rest := []) (lenOf pd_0 rfl) rfl (by show 2 * 0 + _ ≤ _; exact Nat.le_of_eq rfl) (hb hby at_8) (fun _ _ => ⟨rfl, e0, (by decide : 0 + 0 ≤ _), (by decide : 0 + 0 ≤ _)⟩)
  dsimp only [Pt.U, Pt.locs, Pt.cells, Pt.slots] at X1 l1 y1 z1 st1 hQ1
  subst l1 y1 z1
  obtain ⟨rfl, N1q, e1⟩ := hQ1
  have N1 := Fr.app N0 N1q
  refine own_go (fun t k => st1 t k) ?_
  show own_Go p.tables e below _ T1 (mkF m 11 #[.val (.long q1), .second, .val (.long q2), .second, .val (.long x1), .second, .unset, .unset] [(.long (own_bitf x1 (0 : Int32)))])
  show own_Go p.tables e below _ T1 (mkF m 11 #[.val (.long q1), .second, .val (.long q2), .second, .val (.long x1), .second, .unset, .unset] [(.long (own_ors x1 0))])
  refine own_go (fun t k => XT.lload X1.here hx rfl (hb hby at_11) rfl k) ?_
  show own_Go p.tables e below _ T1 (mkF m 13 #[.val (.long q1), .second, .val (.long q2), .second, .val (.long x1), .second, .unset, .unset] [(.long x1), (.long (own_ors x1 0))])
  refine own_go (fun t k => XS.iconst X1.here hx rfl (hb hby at_13) k) ?_
  show own_Go p.tables e below _ T1 (mkF m 14 #[.val (.long q1), .second, .val (.long q2), .second, .val (.long x1), .second, .unset, .unset] [(.int (1 : Int32)), (.long x1), (.long (own_ors x1 0))])
  obtain ⟨_, _, ⟨T2, L2, k2, n2⟩, -, X2, ⟨Lc2, hQ2, l2, y2, z2⟩, st2⟩ := Jvm.LawKit.callS X1 hx (y := (⟨"com/example/bit_sieve/bitsieve/CounterStoreBitsInUsePinLaw", "bit", "(JI)J"⟩ : MethodName)) hown (mvT hZ (hw _ (List.mem_of_getElem? (i := 0) rfl))) (mvT hZ (hw _ (List.mem_of_getElem? (i := 1) rfl))) (mvT hZ (hw _ (List.mem_of_getElem? (i := 2) rfl))) (mvT hZ (hw _ (List.mem_of_getElem? (i := 3) rfl))) (by decide) (backOf (W := 2) (rm1 l Z a0 hw [] x1 (1 : Int32) h0 n0 Z0) hZ (hw _ (List.mem_of_getElem? (i := 3) rfl)) (hw _ (List.mem_of_getElem? (i := 2) rfl)) (by decide) (by decide)) (g := (mkF m 14 #[.val (.long q1), .second, .val (.long q2), .second, .val (.long x1), .second, .unset, .unset] [(.int (1 : Int32)), (.long x1), (.long (own_ors x1 0))])) rfl (by rw [hml]; rfl) (argsL := [(.long x1), (.int (1 : Int32))]) (rest := [(.long (own_ors x1 0))]) (lenOf pd_0 rfl) rfl (by show 2 * 0 + _ ≤ _; exact Nat.le_of_eq rfl) (hb hby at_14) (fun _ _ => ⟨rfl, e1, (by decide : 0 + 0 ≤ _), (by decide : 0 + 0 ≤ _)⟩)
  dsimp only [Pt.U, Pt.locs, Pt.cells, Pt.slots] at X2 l2 y2 z2 st2 hQ2
  subst l2 y2 z2
  obtain ⟨rfl, N2q, e2⟩ := hQ2
  have N2 := Fr.app N1 N2q
  refine own_go (fun t k => st2 t k) ?_
  show own_Go p.tables e below _ T2 (mkF m 17 #[.val (.long q1), .second, .val (.long q2), .second, .val (.long x1), .second, .unset, .unset] [(.long (own_bitf x1 (1 : Int32))), (.long (own_ors x1 0))])
  refine own_go (fun t k => XT.lor X2.here hx rfl (hb hby at_17) rfl k) ?_
  show own_Go p.tables e below _ T2 (mkF m 18 #[.val (.long q1), .second, .val (.long q2), .second, .val (.long x1), .second, .unset, .unset] [(.long ((own_ors x1 0) ||| (own_bitf x1 (1 : Int32))))])
  show own_Go p.tables e below _ T2 (mkF m 18 #[.val (.long q1), .second, .val (.long q2), .second, .val (.long x1), .second, .unset, .unset] [(.long (own_ors x1 1))])
  refine own_go (fun t k => XT.lload X2.here hx rfl (hb hby at_18) rfl k) ?_
  show own_Go p.tables e below _ T2 (mkF m 20 #[.val (.long q1), .second, .val (.long q2), .second, .val (.long x1), .second, .unset, .unset] [(.long x1), (.long (own_ors x1 1))])
  refine own_go (fun t k => XS.iconst X2.here hx rfl (hb hby at_20) k) ?_
  show own_Go p.tables e below _ T2 (mkF m 21 #[.val (.long q1), .second, .val (.long q2), .second, .val (.long x1), .second, .unset, .unset] [(.int (2 : Int32)), (.long x1), (.long (own_ors x1 1))])
  obtain ⟨_, _, ⟨T3, L3, k3, n3⟩, -, X3, ⟨Lc3, hQ3, l3, y3, z3⟩, st3⟩ := Jvm.LawKit.callS X2 hx (y := (⟨"com/example/bit_sieve/bitsieve/CounterStoreBitsInUsePinLaw", "bit", "(JI)J"⟩ : MethodName)) hown (mvT hZ (hw _ (List.mem_of_getElem? (i := 0) rfl))) (mvT hZ (hw _ (List.mem_of_getElem? (i := 1) rfl))) (mvT hZ (hw _ (List.mem_of_getElem? (i := 2) rfl))) (mvT hZ (hw _ (List.mem_of_getElem? (i := 3) rfl))) (by decide) (backOf (W := 2) (rm1 l Z a0 hw [] x1 (2 : Int32) h0 n0 Z0) hZ (hw _ (List.mem_of_getElem? (i := 3) rfl)) (hw _ (List.mem_of_getElem? (i := 2) rfl)) (by decide) (by decide)) (g := (mkF m 21 #[.val (.long q1), .second, .val (.long q2), .second, .val (.long x1), .second, .unset, .unset] [(.int (2 : Int32)), (.long x1), (.long (own_ors x1 1))])) rfl (by rw [hml]; rfl) (argsL := [(.long x1), (.int (2 : Int32))]) (rest := [(.long (own_ors x1 1))]) (lenOf pd_0 rfl) rfl (by show 2 * 0 + _ ≤ _; exact Nat.le_of_eq rfl) (hb hby at_21) (fun _ _ => ⟨rfl, e2, (by decide : 0 + 0 ≤ _), (by decide : 0 + 0 ≤ _)⟩)
  dsimp only [Pt.U, Pt.locs, Pt.cells, Pt.slots] at X3 l3 y3 z3 st3 hQ3
  subst l3 y3 z3
  obtain ⟨rfl, N3q, e3⟩ := hQ3
  have N3 := Fr.app N2 N3q
  refine own_go (fun t k => st3 t k) ?_
  show own_Go p.tables e below _ T3 (mkF m 24 #[.val (.long q1), .second, .val (.long q2), .second, .val (.long x1), .second, .unset, .unset] [(.long (own_bitf x1 (2 : Int32))), (.long (own_ors x1 1))])
  refine own_go (fun t k => XT.lor X3.here hx rfl (hb hby at_24) rfl k) ?_
  show own_Go p.tables e below _ T3 (mkF m 25 #[.val (.long q1), .second, .val (.long q2), .second, .val (.long x1), .second, .unset, .unset] [(.long ((own_ors x1 1) ||| (own_bitf x1 (2 : Int32))))])
  show own_Go p.tables e below _ T3 (mkF m 25 #[.val (.long q1), .second, .val (.long q2), .second, .val (.long x1), .second, .unset, .unset] [(.long (own_ors x1 2))])
  refine own_go (fun t k => XT.lload X3.here hx rfl (hb hby at_25) rfl k) ?_
  show own_Go p.tables e below _ T3 (mkF m 27 #[.val (.long q1), .second, .val (.long q2), .second, .val (.long x1), .second, .unset, .unset] [(.long x1), (.long (own_ors x1 2))])
  refine own_go (fun t k => XS.iconst X3.here hx rfl (hb hby at_27) k) ?_
  show own_Go p.tables e below _ T3 (mkF m 28 #[.val (.long q1), .second, .val (.long q2), .second, .val (.long x1), .second, .unset, .unset] [(.int (3 : Int32)), (.long x1), (.long (own_ors x1 2))])
  obtain ⟨_, _, ⟨T4, L4, k4, n4⟩, -, X4, ⟨Lc4, hQ4, l4, y4, z4⟩, st4⟩ := Jvm.LawKit.callS X3 hx (y := (⟨"com/example/bit_sieve/bitsieve/CounterStoreBitsInUsePinLaw", "bit", "(JI)J"⟩ : MethodName)) hown (mvT hZ (hw _ (List.mem_of_getElem? (i := 0) rfl))) (mvT hZ (hw _ (List.mem_of_getElem? (i := 1) rfl))) (mvT hZ (hw _ (List.mem_of_getElem? (i := 2) rfl))) (mvT hZ (hw _ (List.mem_of_getElem? (i := 3) rfl))) (by decide) (backOf (W := 2) (rm1 l Z a0 hw [] x1 (3 : Int32) h0 n0 Z0) hZ (hw _ (List.mem_of_getElem? (i := 3) rfl)) (hw _ (List.mem_of_getElem? (i := 2) rfl)) (by decide) (by decide)) (g := (mkF m 28 #[.val (.long q1), .second, .val (.long q2), .second, .val (.long x1), .second, .unset, .unset] [(.int (3 : Int32)), (.long x1), (.long (own_ors x1 2))])) rfl (by rw [hml]; rfl) (argsL := [(.long x1), (.int (3 : Int32))]) (rest := [(.long (own_ors x1 2))]) (lenOf pd_0 rfl) rfl (by show 2 * 0 + _ ≤ _; exact Nat.le_of_eq rfl) (hb hby at_28) (fun _ _ => ⟨rfl, e3, (by decide : 0 + 0 ≤ _), (by decide : 0 + 0 ≤ _)⟩)
  dsimp only [Pt.U, Pt.locs, Pt.cells, Pt.slots] at X4 l4 y4 z4 st4 hQ4
  subst l4 y4 z4
  obtain ⟨rfl, N4q, e4⟩ := hQ4
  have N4 := Fr.app N3 N4q
  refine own_go (fun t k => st4 t k) ?_
  show own_Go p.tables e below _ T4 (mkF m 31 #[.val (.long q1), .second, .val (.long q2), .second, .val (.long x1), .second, .unset, .unset] [(.long (own_bitf x1 (3 : Int32))), (.long (own_ors x1 2))])
  refine own_go (fun t k => XT.lor X4.here hx rfl (hb hby at_31) rfl k) ?_
  show own_Go p.tables e below _ T4 (mkF m 32 #[.val (.long q1), .second, .val (.long q2), .second, .val (.long x1), .second, .unset, .unset] [(.long ((own_ors x1 2) ||| (own_bitf x1 (3 : Int32))))])
  show own_Go p.tables e below _ T4 (mkF m 32 #[.val (.long q1), .second, .val (.long q2), .second, .val (.long x1), .second, .unset, .unset] [(.long (own_ors x1 3))])
  refine own_go (fun t k => XT.lload X4.here hx rfl (hb hby at_32) rfl k) ?_
  show own_Go p.tables e below _ T4 (mkF m 34 #[.val (.long q1), .second, .val (.long q2), .second, .val (.long x1), .second, .unset, .unset] [(.long x1), (.long (own_ors x1 3))])
  refine own_go (fun t k => XS.iconst X4.here hx rfl (hb hby at_34) k) ?_
  show own_Go p.tables e below _ T4 (mkF m 35 #[.val (.long q1), .second, .val (.long q2), .second, .val (.long x1), .second, .unset, .unset] [(.int (4 : Int32)), (.long x1), (.long (own_ors x1 3))])
  obtain ⟨_, _, ⟨T5, L5, k5, n5⟩, -, X5, ⟨Lc5, hQ5, l5, y5, z5⟩, st5⟩ := Jvm.LawKit.callS X4 hx (y := (⟨"com/example/bit_sieve/bitsieve/CounterStoreBitsInUsePinLaw", "bit", "(JI)J"⟩ : MethodName)) hown (mvT hZ (hw _ (List.mem_of_getElem? (i := 0) rfl))) (mvT hZ (hw _ (List.mem_of_getElem? (i := 1) rfl))) (mvT hZ (hw _ (List.mem_of_getElem? (i := 2) rfl))) (mvT hZ (hw _ (List.mem_of_getElem? (i := 3) rfl))) (by decide) (backOf (W := 2) (rm1 l Z a0 hw [] x1 (4 : Int32) h0 n0 Z0) hZ (hw _ (List.mem_of_getElem? (i := 3) rfl)) (hw _ (List.mem_of_getElem? (i := 2) rfl)) (by decide) (by decide)) (g := (mkF m 35 #[.val (.long q1), .second, .val (.long q2), .second, .val (.long x1), .second, .unset, .unset] [(.int (4 : Int32)), (.long x1), (.long (own_ors x1 3))])) rfl (by rw [hml]; rfl) (argsL := [(.long x1), (.int (4 : Int32))]) (rest := [(.long (own_ors x1 3))]) (lenOf pd_0 rfl) rfl (by show 2 * 0 + _ ≤ _; exact Nat.le_of_eq rfl) (hb hby at_35) (fun _ _ => ⟨rfl, e4, (by decide : 0 + 0 ≤ _), (by decide : 0 + 0 ≤ _)⟩)
  dsimp only [Pt.U, Pt.locs, Pt.cells, Pt.slots] at X5 l5 y5 z5 st5 hQ5
  subst l5 y5 z5
  obtain ⟨rfl, N5q, e5⟩ := hQ5
  have N5 := Fr.app N4 N5q
  refine own_go (fun t k => st5 t k) ?_
  show own_Go p.tables e below _ T5 (mkF m 38 #[.val (.long q1), .second, .val (.long q2), .second, .val (.long x1), .second, .unset, .unset] [(.long (own_bitf x1 (4 : Int32))), (.long (own_ors x1 3))])
  refine own_go (fun t k => XT.lor X5.here hx rfl (hb hby at_38) rfl k) ?_
  show own_Go p.tables e below _ T5 (mkF m 39 #[.val (.long q1), .second, .val (.long q2), .second, .val (.long x1), .second, .unset, .unset] [(.long ((own_ors x1 3) ||| (own_bitf x1 (4 : Int32))))])
  show own_Go p.tables e below _ T5 (mkF m 39 #[.val (.long q1), .second, .val (.long q2), .second, .val (.long x1), .second, .unset, .unset] [(.long (own_ors x1 4))])
  refine own_go (fun t k => XT.lload X5.here hx rfl (hb hby at_39) rfl k) ?_
  show own_Go p.tables e below _ T5 (mkF m 41 #[.val (.long q1), .second, .val (.long q2), .second, .val (.long x1), .second, .unset, .unset] [(.long x1), (.long (own_ors x1 4))])
  refine own_go (fun t k => XS.iconst X5.here hx rfl (hb hby at_41) k) ?_
  show own_Go p.tables e below _ T5 (mkF m 42 #[.val (.long q1), .second, .val (.long q2), .second, .val (.long x1), .second, .unset, .unset] [(.int (5 : Int32)), (.long x1), (.long (own_ors x1 4))])
  obtain ⟨_, _, ⟨T6, L6, k6, n6⟩, -, X6, ⟨Lc6, hQ6, l6, y6, z6⟩, st6⟩ := Jvm.LawKit.callS X5 hx (y := (⟨"com/example/bit_sieve/bitsieve/CounterStoreBitsInUsePinLaw", "bit", "(JI)J"⟩ : MethodName)) hown (mvT hZ (hw _ (List.mem_of_getElem? (i := 0) rfl))) (mvT hZ (hw _ (List.mem_of_getElem? (i := 1) rfl))) (mvT hZ (hw _ (List.mem_of_getElem? (i := 2) rfl))) (mvT hZ (hw _ (List.mem_of_getElem? (i := 3) rfl))) (by decide) (backOf (W := 2) (rm1 l Z a0 hw [] x1 (5 : Int32) h0 n0 Z0) hZ (hw _ (List.mem_of_getElem? (i := 3) rfl)) (hw _ (List.mem_of_getElem? (i := 2) rfl)) (by decide) (by decide)) (g := (mkF m 42 #[.val (.long q1), .second, .val (.long q2), .second, .val (.long x1), .second, .unset, .unset] [(.int (5 : Int32)), (.long x1), (.long (own_ors x1 4))])) rfl (by rw [hml]; rfl) (argsL := [(.long x1), (.int (5 : Int32))]) (rest := [(.long (own_ors x1 4))]) (lenOf pd_0 rfl) rfl (by show 2 * 0 + _ ≤ _; exact Nat.le_of_eq rfl) (hb hby at_42) (fun _ _ => ⟨rfl, e5, (by decide : 0 + 0 ≤ _), (by decide : 0 + 0 ≤ _)⟩)
  dsimp only [Pt.U, Pt.locs, Pt.cells, Pt.slots] at X6 l6 y6 z6 st6 hQ6
  subst l6 y6 z6
  obtain ⟨rfl, N6q, e6⟩ := hQ6
  have N6 := Fr.app N5 N6q
  refine own_go (fun t k => st6 t k) ?_
  show own_Go p.tables e below _ T6 (mkF m 45 #[.val (.long q1), .second, .val (.long q2), .second, .val (.long x1), .second, .unset, .unset] [(.long (own_bitf x1 (5 : Int32))), (.long (own_ors x1 4))])
  refine own_go (fun t k => XT.lor X6.here hx rfl (hb hby at_45) rfl k) ?_
  show own_Go p.tables e below _ T6 (mkF m 46 #[.val (.long q1), .second, .val (.long q2), .second, .val (.long x1), .second, .unset, .unset] [(.long ((own_ors x1 4) ||| (own_bitf x1 (5 : Int32))))])
  show own_Go p.tables e below _ T6 (mkF m 46 #[.val (.long q1), .second, .val (.long q2), .second, .val (.long x1), .second, .unset, .unset] [(.long (own_ors x1 5))])
  refine own_go (fun t k => XT.lload X6.here hx rfl (hb hby at_46) rfl k) ?_
  show own_Go p.tables e below _ T6 (mkF m 48 #[.val (.long q1), .second, .val (.long q2), .second, .val (.long x1), .second, .unset, .unset] [(.long x1), (.long (own_ors x1 5))])
  refine own_go (fun t k => XS.bipush X6.here hx rfl (hb hby at_48) k) ?_
  show own_Go p.tables e below _ T6 (mkF m 50 #[.val (.long q1), .second, .val (.long q2), .second, .val (.long x1), .second, .unset, .unset] [(.int (6 : Int32)), (.long x1), (.long (own_ors x1 5))])
  obtain ⟨_, _, ⟨T7, L7, k7, n7⟩, -, X7, ⟨Lc7, hQ7, l7, y7, z7⟩, st7⟩ := Jvm.LawKit.callS X6 hx (y := (⟨"com/example/bit_sieve/bitsieve/CounterStoreBitsInUsePinLaw", "bit", "(JI)J"⟩ : MethodName)) hown (mvT hZ (hw _ (List.mem_of_getElem? (i := 0) rfl))) (mvT hZ (hw _ (List.mem_of_getElem? (i := 1) rfl))) (mvT hZ (hw _ (List.mem_of_getElem? (i := 2) rfl))) (mvT hZ (hw _ (List.mem_of_getElem? (i := 3) rfl))) (by decide) (backOf (W := 2) (rm1 l Z a0 hw [] x1 (6 : Int32) h0 n0 Z0) hZ (hw _ (List.mem_of_getElem? (i := 3) rfl)) (hw _ (List.mem_of_getElem? (i := 2) rfl)) (by decide) (by decide)) (g := (mkF m 50 #[.val (.long q1), .second, .val (.long q2), .second, .val (.long x1), .second, .unset, .unset] [(.int (6 : Int32)), (.long x1), (.long (own_ors x1 5))])) rfl (by rw [hml]; rfl) (argsL := [(.long x1), (.int (6 : Int32))]) (rest := [(.long (own_ors x1 5))]) (lenOf pd_0 rfl) rfl (by show 2 * 0 + _ ≤ _; exact Nat.le_of_eq rfl) (hb hby at_50) (fun _ _ => ⟨rfl, e6, (by decide : 0 + 0 ≤ _), (by decide : 0 + 0 ≤ _)⟩)
  dsimp only [Pt.U, Pt.locs, Pt.cells, Pt.slots] at X7 l7 y7 z7 st7 hQ7
  subst l7 y7 z7
  obtain ⟨rfl, N7q, e7⟩ := hQ7
  have N7 := Fr.app N6 N7q
  refine own_go (fun t k => st7 t k) ?_
  show own_Go p.tables e below _ T7 (mkF m 53 #[.val (.long q1), .second, .val (.long q2), .second, .val (.long x1), .second, .unset, .unset] [(.long (own_bitf x1 (6 : Int32))), (.long (own_ors x1 5))])
  refine own_go (fun t k => XT.lor X7.here hx rfl (hb hby at_53) rfl k) ?_
  show own_Go p.tables e below _ T7 (mkF m 54 #[.val (.long q1), .second, .val (.long q2), .second, .val (.long x1), .second, .unset, .unset] [(.long ((own_ors x1 5) ||| (own_bitf x1 (6 : Int32))))])
  show own_Go p.tables e below _ T7 (mkF m 54 #[.val (.long q1), .second, .val (.long q2), .second, .val (.long x1), .second, .unset, .unset] [(.long (own_ors x1 6))])
  refine own_go (fun t k => XT.lload X7.here hx rfl (hb hby at_54) rfl k) ?_
  show own_Go p.tables e below _ T7 (mkF m 56 #[.val (.long q1), .second, .val (.long q2), .second, .val (.long x1), .second, .unset, .unset] [(.long x1), (.long (own_ors x1 6))])
  refine own_go (fun t k => XS.bipush X7.here hx rfl (hb hby at_56) k) ?_
  show own_Go p.tables e below _ T7 (mkF m 58 #[.val (.long q1), .second, .val (.long q2), .second, .val (.long x1), .second, .unset, .unset] [(.int (7 : Int32)), (.long x1), (.long (own_ors x1 6))])
  obtain ⟨_, _, ⟨T8, L8, k8, n8⟩, -, X8, ⟨Lc8, hQ8, l8, y8, z8⟩, st8⟩ := Jvm.LawKit.callS X7 hx (y := (⟨"com/example/bit_sieve/bitsieve/CounterStoreBitsInUsePinLaw", "bit", "(JI)J"⟩ : MethodName)) hown (mvT hZ (hw _ (List.mem_of_getElem? (i := 0) rfl))) (mvT hZ (hw _ (List.mem_of_getElem? (i := 1) rfl))) (mvT hZ (hw _ (List.mem_of_getElem? (i := 2) rfl))) (mvT hZ (hw _ (List.mem_of_getElem? (i := 3) rfl))) (by decide) (backOf (W := 2) (rm1 l Z a0 hw [] x1 (7 : Int32) h0 n0 Z0) hZ (hw _ (List.mem_of_getElem? (i := 3) rfl)) (hw _ (List.mem_of_getElem? (i := 2) rfl)) (by decide) (by decide)) (g := (mkF m 58 #[.val (.long q1), .second, .val (.long q2), .second, .val (.long x1), .second, .unset, .unset] [(.int (7 : Int32)), (.long x1), (.long (own_ors x1 6))])) rfl (by rw [hml]; rfl) (argsL := [(.long x1), (.int (7 : Int32))]) (rest := [(.long (own_ors x1 6))]) (lenOf pd_0 rfl) rfl (by show 2 * 0 + _ ≤ _; exact Nat.le_of_eq rfl) (hb hby at_58) (fun _ _ => ⟨rfl, e7, (by decide : 0 + 0 ≤ _), (by decide : 0 + 0 ≤ _)⟩)
  dsimp only [Pt.U, Pt.locs, Pt.cells, Pt.slots] at X8 l8 y8 z8 st8 hQ8
  subst l8 y8 z8
  obtain ⟨rfl, N8q, e8⟩ := hQ8
  have N8 := Fr.app N7 N8q
  refine own_go (fun t k => st8 t k) ?_
  show own_Go p.tables e below _ T8 (mkF m 61 #[.val (.long q1), .second, .val (.long q2), .second, .val (.long x1), .second, .unset, .unset] [(.long (own_bitf x1 (7 : Int32))), (.long (own_ors x1 6))])
  refine own_go (fun t k => XT.lor X8.here hx rfl (hb hby at_61) rfl k) ?_
  show own_Go p.tables e below _ T8 (mkF m 62 #[.val (.long q1), .second, .val (.long q2), .second, .val (.long x1), .second, .unset, .unset] [(.long ((own_ors x1 6) ||| (own_bitf x1 (7 : Int32))))])
  show own_Go p.tables e below _ T8 (mkF m 62 #[.val (.long q1), .second, .val (.long q2), .second, .val (.long x1), .second, .unset, .unset] [(.long (own_ors x1 7))])
  refine own_go (fun t k => XT.lload X8.here hx rfl (hb hby at_62) rfl k) ?_
  show own_Go p.tables e below _ T8 (mkF m 64 #[.val (.long q1), .second, .val (.long q2), .second, .val (.long x1), .second, .unset, .unset] [(.long x1), (.long (own_ors x1 7))])
  refine own_go (fun t k => XS.bipush X8.here hx rfl (hb hby at_64) k) ?_
  show own_Go p.tables e below _ T8 (mkF m 66 #[.val (.long q1), .second, .val (.long q2), .second, .val (.long x1), .second, .unset, .unset] [(.int (8 : Int32)), (.long x1), (.long (own_ors x1 7))])
  obtain ⟨_, _, ⟨T9, L9, k9, n9⟩, -, X9, ⟨Lc9, hQ9, l9, y9, z9⟩, st9⟩ := Jvm.LawKit.callS X8 hx (y := (⟨"com/example/bit_sieve/bitsieve/CounterStoreBitsInUsePinLaw", "bit", "(JI)J"⟩ : MethodName)) hown (mvT hZ (hw _ (List.mem_of_getElem? (i := 0) rfl))) (mvT hZ (hw _ (List.mem_of_getElem? (i := 1) rfl))) (mvT hZ (hw _ (List.mem_of_getElem? (i := 2) rfl))) (mvT hZ (hw _ (List.mem_of_getElem? (i := 3) rfl))) (by decide) (backOf (W := 2) (rm1 l Z a0 hw [] x1 (8 : Int32) h0 n0 Z0) hZ (hw _ (List.mem_of_getElem? (i := 3) rfl)) (hw _ (List.mem_of_getElem? (i := 2) rfl)) (by decide) (by decide)) (g := (mkF m 66 #[.val (.long q1), .second, .val (.long q2), .second, .val (.long x1), .second, .unset, .unset] [(.int (8 : Int32)), (.long x1), (.long (own_ors x1 7))])) rfl (by rw [hml]; rfl) (argsL := [(.long x1), (.int (8 : Int32))]) (rest := [(.long (own_ors x1 7))]) (lenOf pd_0 rfl) rfl (by show 2 * 0 + _ ≤ _; exact Nat.le_of_eq rfl) (hb hby at_66) (fun _ _ => ⟨rfl, e8, (by decide : 0 + 0 ≤ _), (by decide : 0 + 0 ≤ _)⟩)
  dsimp only [Pt.U, Pt.locs, Pt.cells, Pt.slots] at X9 l9 y9 z9 st9 hQ9
  subst l9 y9 z9
  obtain ⟨rfl, N9q, e9⟩ := hQ9
  have N9 := Fr.app N8 N9q
  refine own_go (fun t k => st9 t k) ?_
  show own_Go p.tables e below _ T9 (mkF m 69 #[.val (.long q1), .second, .val (.long q2), .second, .val (.long x1), .second, .unset, .unset] [(.long (own_bitf x1 (8 : Int32))), (.long (own_ors x1 7))])
  refine own_go (fun t k => XT.lor X9.here hx rfl (hb hby at_69) rfl k) ?_
  show own_Go p.tables e below _ T9 (mkF m 70 #[.val (.long q1), .second, .val (.long q2), .second, .val (.long x1), .second, .unset, .unset] [(.long ((own_ors x1 7) ||| (own_bitf x1 (8 : Int32))))])
  show own_Go p.tables e below _ T9 (mkF m 70 #[.val (.long q1), .second, .val (.long q2), .second, .val (.long x1), .second, .unset, .unset] [(.long (own_ors x1 8))])
  refine own_go (fun t k => XT.lload X9.here hx rfl (hb hby at_70) rfl k) ?_
  show own_Go p.tables e below _ T9 (mkF m 72 #[.val (.long q1), .second, .val (.long q2), .second, .val (.long x1), .second, .unset, .unset] [(.long x1), (.long (own_ors x1 8))])
  refine own_go (fun t k => XS.bipush X9.here hx rfl (hb hby at_72) k) ?_
  show own_Go p.tables e below _ T9 (mkF m 74 #[.val (.long q1), .second, .val (.long q2), .second, .val (.long x1), .second, .unset, .unset] [(.int (9 : Int32)), (.long x1), (.long (own_ors x1 8))])
  obtain ⟨_, _, ⟨T10, L10, k10, n10⟩, -, X10, ⟨Lc10, hQ10, l10, y10, z10⟩, st10⟩ := Jvm.LawKit.callS X9 hx (y := (⟨"com/example/bit_sieve/bitsieve/CounterStoreBitsInUsePinLaw", "bit", "(JI)J"⟩ : MethodName)) hown (mvT hZ (hw _ (List.mem_of_getElem? (i := 0) rfl))) (mvT hZ (hw _ (List.mem_of_getElem? (i := 1) rfl))) (mvT hZ (hw _ (List.mem_of_getElem? (i := 2) rfl))) (mvT hZ (hw _ (List.mem_of_getElem? (i := 3) rfl))) (by decide) (backOf (W := 2) (rm1 l Z a0 hw [] x1 (9 : Int32) h0 n0 Z0) hZ (hw _ (List.mem_of_getElem? (i := 3) rfl)) (hw _ (List.mem_of_getElem? (i := 2) rfl)) (by decide) (by decide)) (g := (mkF m 74 #[.val (.long q1), .second, .val (.long q2), .second, .val (.long x1), .second, .unset, .unset] [(.int (9 : Int32)), (.long x1), (.long (own_ors x1 8))])) rfl (by rw [hml]; rfl) (argsL := [(.long x1), (.int (9 : Int32))]) (rest := [(.long (own_ors x1 8))]) (lenOf pd_0 rfl) rfl (by show 2 * 0 + _ ≤ _; exact Nat.le_of_eq rfl) (hb hby at_74) (fun _ _ => ⟨rfl, e9, (by decide : 0 + 0 ≤ _), (by decide : 0 + 0 ≤ _)⟩)
  dsimp only [Pt.U, Pt.locs, Pt.cells, Pt.slots] at X10 l10 y10 z10 st10 hQ10
  subst l10 y10 z10
  obtain ⟨rfl, N10q, e10⟩ := hQ10
  have N10 := Fr.app N9 N10q
  refine own_go (fun t k => st10 t k) ?_
  show own_Go p.tables e below _ T10 (mkF m 77 #[.val (.long q1), .second, .val (.long q2), .second, .val (.long x1), .second, .unset, .unset] [(.long (own_bitf x1 (9 : Int32))), (.long (own_ors x1 8))])
  refine own_go (fun t k => XT.lor X10.here hx rfl (hb hby at_77) rfl k) ?_
  show own_Go p.tables e below _ T10 (mkF m 78 #[.val (.long q1), .second, .val (.long q2), .second, .val (.long x1), .second, .unset, .unset] [(.long ((own_ors x1 8) ||| (own_bitf x1 (9 : Int32))))])
  show own_Go p.tables e below _ T10 (mkF m 78 #[.val (.long q1), .second, .val (.long q2), .second, .val (.long x1), .second, .unset, .unset] [(.long (own_ors x1 9))])
  refine own_go (fun t k => XT.lload X10.here hx rfl (hb hby at_78) rfl k) ?_
  show own_Go p.tables e below _ T10 (mkF m 80 #[.val (.long q1), .second, .val (.long q2), .second, .val (.long x1), .second, .unset, .unset] [(.long x1), (.long (own_ors x1 9))])
  refine own_go (fun t k => XS.bipush X10.here hx rfl (hb hby at_80) k) ?_
  show own_Go p.tables e below _ T10 (mkF m 82 #[.val (.long q1), .second, .val (.long q2), .second, .val (.long x1), .second, .unset, .unset] [(.int (10 : Int32)), (.long x1), (.long (own_ors x1 9))])
  obtain ⟨_, _, ⟨T11, L11, k11, n11⟩, -, X11, ⟨Lc11, hQ11, l11, y11, z11⟩, st11⟩ := Jvm.LawKit.callS X10 hx (y := (⟨"com/example/bit_sieve/bitsieve/CounterStoreBitsInUsePinLaw", "bit", "(JI)J"⟩ : MethodName)) hown (mvT hZ (hw _ (List.mem_of_getElem? (i := 0) rfl))) (mvT hZ (hw _ (List.mem_of_getElem? (i := 1) rfl))) (mvT hZ (hw _ (List.mem_of_getElem? (i := 2) rfl))) (mvT hZ (hw _ (List.mem_of_getElem? (i := 3) rfl))) (by decide) (backOf (W := 2) (rm1 l Z a0 hw [] x1 (10 : Int32) h0 n0 Z0) hZ (hw _ (List.mem_of_getElem? (i := 3) rfl)) (hw _ (List.mem_of_getElem? (i := 2) rfl)) (by decide) (by decide)) (g := (mkF m 82 #[.val (.long q1), .second, .val (.long q2), .second, .val (.long x1), .second, .unset, .unset] [(.int (10 : Int32)), (.long x1), (.long (own_ors x1 9))])) rfl (by rw [hml]; rfl) (argsL := [(.long x1), (.int (10 : Int32))]) (rest := [(.long (own_ors x1 9))]) (lenOf pd_0 rfl) rfl (by show 2 * 0 + _ ≤ _; exact Nat.le_of_eq rfl) (hb hby at_82) (fun _ _ => ⟨rfl, e10, (by decide : 0 + 0 ≤ _), (by decide : 0 + 0 ≤ _)⟩)
  dsimp only [Pt.U, Pt.locs, Pt.cells, Pt.slots] at X11 l11 y11 z11 st11 hQ11
  subst l11 y11 z11
  obtain ⟨rfl, N11q, e11⟩ := hQ11
  have N11 := Fr.app N10 N11q
  refine own_go (fun t k => st11 t k) ?_
  show own_Go p.tables e below _ T11 (mkF m 85 #[.val (.long q1), .second, .val (.long q2), .second, .val (.long x1), .second, .unset, .unset] [(.long (own_bitf x1 (10 : Int32))), (.long (own_ors x1 9))])
  refine own_go (fun t k => XT.lor X11.here hx rfl (hb hby at_85) rfl k) ?_
  show own_Go p.tables e below _ T11 (mkF m 86 #[.val (.long q1), .second, .val (.long q2), .second, .val (.long x1), .second, .unset, .unset] [(.long ((own_ors x1 9) ||| (own_bitf x1 (10 : Int32))))])
  show own_Go p.tables e below _ T11 (mkF m 86 #[.val (.long q1), .second, .val (.long q2), .second, .val (.long x1), .second, .unset, .unset] [(.long (own_ors x1 10))])
  refine own_go (fun t k => XT.lload X11.here hx rfl (hb hby at_86) rfl k) ?_
  show own_Go p.tables e below _ T11 (mkF m 88 #[.val (.long q1), .second, .val (.long q2), .second, .val (.long x1), .second, .unset, .unset] [(.long x1), (.long (own_ors x1 10))])
  refine own_go (fun t k => XS.bipush X11.here hx rfl (hb hby at_88) k) ?_
  show own_Go p.tables e below _ T11 (mkF m 90 #[.val (.long q1), .second, .val (.long q2), .second, .val (.long x1), .second, .unset, .unset] [(.int (11 : Int32)), (.long x1), (.long (own_ors x1 10))])
  obtain ⟨_, _, ⟨T12, L12, k12, n12⟩, -, X12, ⟨Lc12, hQ12, l12, y12, z12⟩, st12⟩ := Jvm.LawKit.callS X11 hx (y := (⟨"com/example/bit_sieve/bitsieve/CounterStoreBitsInUsePinLaw", "bit", "(JI)J"⟩ : MethodName)) hown (mvT hZ (hw _ (List.mem_of_getElem? (i := 0) rfl))) (mvT hZ (hw _ (List.mem_of_getElem? (i := 1) rfl))) (mvT hZ (hw _ (List.mem_of_getElem? (i := 2) rfl))) (mvT hZ (hw _ (List.mem_of_getElem? (i := 3) rfl))) (by decide) (backOf (W := 2) (rm1 l Z a0 hw [] x1 (11 : Int32) h0 n0 Z0) hZ (hw _ (List.mem_of_getElem? (i := 3) rfl)) (hw _ (List.mem_of_getElem? (i := 2) rfl)) (by decide) (by decide)) (g := (mkF m 90 #[.val (.long q1), .second, .val (.long q2), .second, .val (.long x1), .second, .unset, .unset] [(.int (11 : Int32)), (.long x1), (.long (own_ors x1 10))])) rfl (by rw [hml]; rfl) (argsL := [(.long x1), (.int (11 : Int32))]) (rest := [(.long (own_ors x1 10))]) (lenOf pd_0 rfl) rfl (by show 2 * 0 + _ ≤ _; exact Nat.le_of_eq rfl) (hb hby at_90) (fun _ _ => ⟨rfl, e11, (by decide : 0 + 0 ≤ _), (by decide : 0 + 0 ≤ _)⟩)
  dsimp only [Pt.U, Pt.locs, Pt.cells, Pt.slots] at X12 l12 y12 z12 st12 hQ12
  subst l12 y12 z12
  obtain ⟨rfl, N12q, e12⟩ := hQ12
  have N12 := Fr.app N11 N12q
  refine own_go (fun t k => st12 t k) ?_
  show own_Go p.tables e below _ T12 (mkF m 93 #[.val (.long q1), .second, .val (.long q2), .second, .val (.long x1), .second, .unset, .unset] [(.long (own_bitf x1 (11 : Int32))), (.long (own_ors x1 10))])
  refine own_go (fun t k => XT.lor X12.here hx rfl (hb hby at_93) rfl k) ?_
  show own_Go p.tables e below _ T12 (mkF m 94 #[.val (.long q1), .second, .val (.long q2), .second, .val (.long x1), .second, .unset, .unset] [(.long ((own_ors x1 10) ||| (own_bitf x1 (11 : Int32))))])
  show own_Go p.tables e below _ T12 (mkF m 94 #[.val (.long q1), .second, .val (.long q2), .second, .val (.long x1), .second, .unset, .unset] [(.long (own_ors x1 11))])
  refine own_go (fun t k => XT.lload X12.here hx rfl (hb hby at_94) rfl k) ?_
  show own_Go p.tables e below _ T12 (mkF m 96 #[.val (.long q1), .second, .val (.long q2), .second, .val (.long x1), .second, .unset, .unset] [(.long x1), (.long (own_ors x1 11))])
  refine own_go (fun t k => XS.bipush X12.here hx rfl (hb hby at_96) k) ?_
  show own_Go p.tables e below _ T12 (mkF m 98 #[.val (.long q1), .second, .val (.long q2), .second, .val (.long x1), .second, .unset, .unset] [(.int (12 : Int32)), (.long x1), (.long (own_ors x1 11))])
  obtain ⟨_, _, ⟨T13, L13, k13, n13⟩, -, X13, ⟨Lc13, hQ13, l13, y13, z13⟩, st13⟩ := Jvm.LawKit.callS X12 hx (y := (⟨"com/example/bit_sieve/bitsieve/CounterStoreBitsInUsePinLaw", "bit", "(JI)J"⟩ : MethodName)) hown (mvT hZ (hw _ (List.mem_of_getElem? (i := 0) rfl))) (mvT hZ (hw _ (List.mem_of_getElem? (i := 1) rfl))) (mvT hZ (hw _ (List.mem_of_getElem? (i := 2) rfl))) (mvT hZ (hw _ (List.mem_of_getElem? (i := 3) rfl))) (by decide) (backOf (W := 2) (rm1 l Z a0 hw [] x1 (12 : Int32) h0 n0 Z0) hZ (hw _ (List.mem_of_getElem? (i := 3) rfl)) (hw _ (List.mem_of_getElem? (i := 2) rfl)) (by decide) (by decide)) (g := (mkF m 98 #[.val (.long q1), .second, .val (.long q2), .second, .val (.long x1), .second, .unset, .unset] [(.int (12 : Int32)), (.long x1), (.long (own_ors x1 11))])) rfl (by rw [hml]; rfl) (argsL := [(.long x1), (.int (12 : Int32))]) (rest := [(.long (own_ors x1 11))]) (lenOf pd_0 rfl) rfl (by show 2 * 0 + _ ≤ _; exact Nat.le_of_eq rfl) (hb hby at_98) (fun _ _ => ⟨rfl, e12, (by decide : 0 + 0 ≤ _), (by decide : 0 + 0 ≤ _)⟩)
  dsimp only [Pt.U, Pt.locs, Pt.cells, Pt.slots] at X13 l13 y13 z13 st13 hQ13
  subst l13 y13 z13
  obtain ⟨rfl, N13q, e13⟩ := hQ13
  have N13 := Fr.app N12 N13q
  refine own_go (fun t k => st13 t k) ?_
  show own_Go p.tables e below _ T13 (mkF m 101 #[.val (.long q1), .second, .val (.long q2), .second, .val (.long x1), .second, .unset, .unset] [(.long (own_bitf x1 (12 : Int32))), (.long (own_ors x1 11))])
  refine own_go (fun t k => XT.lor X13.here hx rfl (hb hby at_101) rfl k) ?_
  show own_Go p.tables e below _ T13 (mkF m 102 #[.val (.long q1), .second, .val (.long q2), .second, .val (.long x1), .second, .unset, .unset] [(.long ((own_ors x1 11) ||| (own_bitf x1 (12 : Int32))))])
  show own_Go p.tables e below _ T13 (mkF m 102 #[.val (.long q1), .second, .val (.long q2), .second, .val (.long x1), .second, .unset, .unset] [(.long (own_ors x1 12))])
  refine own_go (fun t k => XT.lload X13.here hx rfl (hb hby at_102) rfl k) ?_
  show own_Go p.tables e below _ T13 (mkF m 104 #[.val (.long q1), .second, .val (.long q2), .second, .val (.long x1), .second, .unset, .unset] [(.long x1), (.long (own_ors x1 12))])
  refine own_go (fun t k => XS.bipush X13.here hx rfl (hb hby at_104) k) ?_
  show own_Go p.tables e below _ T13 (mkF m 106 #[.val (.long q1), .second, .val (.long q2), .second, .val (.long x1), .second, .unset, .unset] [(.int (13 : Int32)), (.long x1), (.long (own_ors x1 12))])
  obtain ⟨_, _, ⟨T14, L14, k14, n14⟩, -, X14, ⟨Lc14, hQ14, l14, y14, z14⟩, st14⟩ := Jvm.LawKit.callS X13 hx (y := (⟨"com/example/bit_sieve/bitsieve/CounterStoreBitsInUsePinLaw", "bit", "(JI)J"⟩ : MethodName)) hown (mvT hZ (hw _ (List.mem_of_getElem? (i := 0) rfl))) (mvT hZ (hw _ (List.mem_of_getElem? (i := 1) rfl))) (mvT hZ (hw _ (List.mem_of_getElem? (i := 2) rfl))) (mvT hZ (hw _ (List.mem_of_getElem? (i := 3) rfl))) (by decide) (backOf (W := 2) (rm1 l Z a0 hw [] x1 (13 : Int32) h0 n0 Z0) hZ (hw _ (List.mem_of_getElem? (i := 3) rfl)) (hw _ (List.mem_of_getElem? (i := 2) rfl)) (by decide) (by decide)) (g := (mkF m 106 #[.val (.long q1), .second, .val (.long q2), .second, .val (.long x1), .second, .unset, .unset] [(.int (13 : Int32)), (.long x1), (.long (own_ors x1 12))])) rfl (by rw [hml]; rfl) (argsL := [(.long x1), (.int (13 : Int32))]) (rest := [(.long (own_ors x1 12))]) (lenOf pd_0 rfl) rfl (by show 2 * 0 + _ ≤ _; exact Nat.le_of_eq rfl) (hb hby at_106) (fun _ _ => ⟨rfl, e13, (by decide : 0 + 0 ≤ _), (by decide : 0 + 0 ≤ _)⟩)
  dsimp only [Pt.U, Pt.locs, Pt.cells, Pt.slots] at X14 l14 y14 z14 st14 hQ14
  subst l14 y14 z14
  obtain ⟨rfl, N14q, e14⟩ := hQ14
  have N14 := Fr.app N13 N14q
  refine own_go (fun t k => st14 t k) ?_
  show own_Go p.tables e below _ T14 (mkF m 109 #[.val (.long q1), .second, .val (.long q2), .second, .val (.long x1), .second, .unset, .unset] [(.long (own_bitf x1 (13 : Int32))), (.long (own_ors x1 12))])
  refine own_go (fun t k => XT.lor X14.here hx rfl (hb hby at_109) rfl k) ?_
  show own_Go p.tables e below _ T14 (mkF m 110 #[.val (.long q1), .second, .val (.long q2), .second, .val (.long x1), .second, .unset, .unset] [(.long ((own_ors x1 12) ||| (own_bitf x1 (13 : Int32))))])
  show own_Go p.tables e below _ T14 (mkF m 110 #[.val (.long q1), .second, .val (.long q2), .second, .val (.long x1), .second, .unset, .unset] [(.long (own_ors x1 13))])
  refine own_go (fun t k => XT.lload X14.here hx rfl (hb hby at_110) rfl k) ?_
  show own_Go p.tables e below _ T14 (mkF m 112 #[.val (.long q1), .second, .val (.long q2), .second, .val (.long x1), .second, .unset, .unset] [(.long x1), (.long (own_ors x1 13))])
  refine own_go (fun t k => XS.bipush X14.here hx rfl (hb hby at_112) k) ?_
  show own_Go p.tables e below _ T14 (mkF m 114 #[.val (.long q1), .second, .val (.long q2), .second, .val (.long x1), .second, .unset, .unset] [(.int (14 : Int32)), (.long x1), (.long (own_ors x1 13))])
  obtain ⟨_, _, ⟨T15, L15, k15, n15⟩, -, X15, ⟨Lc15, hQ15, l15, y15, z15⟩, st15⟩ := Jvm.LawKit.callS X14 hx (y := (⟨"com/example/bit_sieve/bitsieve/CounterStoreBitsInUsePinLaw", "bit", "(JI)J"⟩ : MethodName)) hown (mvT hZ (hw _ (List.mem_of_getElem? (i := 0) rfl))) (mvT hZ (hw _ (List.mem_of_getElem? (i := 1) rfl))) (mvT hZ (hw _ (List.mem_of_getElem? (i := 2) rfl))) (mvT hZ (hw _ (List.mem_of_getElem? (i := 3) rfl))) (by decide) (backOf (W := 2) (rm1 l Z a0 hw [] x1 (14 : Int32) h0 n0 Z0) hZ (hw _ (List.mem_of_getElem? (i := 3) rfl)) (hw _ (List.mem_of_getElem? (i := 2) rfl)) (by decide) (by decide)) (g := (mkF m 114 #[.val (.long q1), .second, .val (.long q2), .second, .val (.long x1), .second, .unset, .unset] [(.int (14 : Int32)), (.long x1), (.long (own_ors x1 13))])) rfl (by rw [hml]; rfl) (argsL := [(.long x1), (.int (14 : Int32))]) (rest := [(.long (own_ors x1 13))]) (lenOf pd_0 rfl) rfl (by show 2 * 0 + _ ≤ _; exact Nat.le_of_eq rfl) (hb hby at_114) (fun _ _ => ⟨rfl, e14, (by decide : 0 + 0 ≤ _), (by decide : 0 + 0 ≤ _)⟩)
  dsimp only [Pt.U, Pt.locs, Pt.cells, Pt.slots] at X15 l15 y15 z15 st15 hQ15
  subst l15 y15 z15
  obtain ⟨rfl, N15q, e15⟩ := hQ15
  have N15 := Fr.app N14 N15q
  refine own_go (fun t k => st15 t k) ?_
  show own_Go p.tables e below _ T15 (mkF m 117 #[.val (.long q1), .second, .val (.long q2), .second, .val (.long x1), .second, .unset, .unset] [(.long (own_bitf x1 (14 : Int32))), (.long (own_ors x1 13))])
  refine own_go (fun t k => XT.lor X15.here hx rfl (hb hby at_117) rfl k) ?_
  show own_Go p.tables e below _ T15 (mkF m 118 #[.val (.long q1), .second, .val (.long q2), .second, .val (.long x1), .second, .unset, .unset] [(.long ((own_ors x1 13) ||| (own_bitf x1 (14 : Int32))))])
  show own_Go p.tables e below _ T15 (mkF m 118 #[.val (.long q1), .second, .val (.long q2), .second, .val (.long x1), .second, .unset, .unset] [(.long (own_ors x1 14))])
  refine own_go (fun t k => XT.lload X15.here hx rfl (hb hby at_118) rfl k) ?_
  show own_Go p.tables e below _ T15 (mkF m 120 #[.val (.long q1), .second, .val (.long q2), .second, .val (.long x1), .second, .unset, .unset] [(.long x1), (.long (own_ors x1 14))])
  refine own_go (fun t k => XS.bipush X15.here hx rfl (hb hby at_120) k) ?_
  show own_Go p.tables e below _ T15 (mkF m 122 #[.val (.long q1), .second, .val (.long q2), .second, .val (.long x1), .second, .unset, .unset] [(.int (15 : Int32)), (.long x1), (.long (own_ors x1 14))])
  obtain ⟨_, _, ⟨T16, L16, k16, n16⟩, -, X16, ⟨Lc16, hQ16, l16, y16, z16⟩, st16⟩ := Jvm.LawKit.callS X15 hx (y := (⟨"com/example/bit_sieve/bitsieve/CounterStoreBitsInUsePinLaw", "bit", "(JI)J"⟩ : MethodName)) hown (mvT hZ (hw _ (List.mem_of_getElem? (i := 0) rfl))) (mvT hZ (hw _ (List.mem_of_getElem? (i := 1) rfl))) (mvT hZ (hw _ (List.mem_of_getElem? (i := 2) rfl))) (mvT hZ (hw _ (List.mem_of_getElem? (i := 3) rfl))) (by decide) (backOf (W := 2) (rm1 l Z a0 hw [] x1 (15 : Int32) h0 n0 Z0) hZ (hw _ (List.mem_of_getElem? (i := 3) rfl)) (hw _ (List.mem_of_getElem? (i := 2) rfl)) (by decide) (by decide)) (g := (mkF m 122 #[.val (.long q1), .second, .val (.long q2), .second, .val (.long x1), .second, .unset, .unset] [(.int (15 : Int32)), (.long x1), (.long (own_ors x1 14))])) rfl (by rw [hml]; rfl) (argsL := [(.long x1), (.int (15 : Int32))]) (rest := [(.long (own_ors x1 14))]) (lenOf pd_0 rfl) rfl (by show 2 * 0 + _ ≤ _; exact Nat.le_of_eq rfl) (hb hby at_122) (fun _ _ => ⟨rfl, e15, (by decide : 0 + 0 ≤ _), (by decide : 0 + 0 ≤ _)⟩)
  dsimp only [Pt.U, Pt.locs, Pt.cells, Pt.slots] at X16 l16 y16 z16 st16 hQ16
  subst l16 y16 z16
  obtain ⟨rfl, N16q, e16⟩ := hQ16
  have N16 := Fr.app N15 N16q
  refine own_go (fun t k => st16 t k) ?_
  show own_Go p.tables e below _ T16 (mkF m 125 #[.val (.long q1), .second, .val (.long q2), .second, .val (.long x1), .second, .unset, .unset] [(.long (own_bitf x1 (15 : Int32))), (.long (own_ors x1 14))])
  refine own_go (fun t k => XT.lor X16.here hx rfl (hb hby at_125) rfl k) ?_
  show own_Go p.tables e below _ T16 (mkF m 126 #[.val (.long q1), .second, .val (.long q2), .second, .val (.long x1), .second, .unset, .unset] [(.long ((own_ors x1 14) ||| (own_bitf x1 (15 : Int32))))])
  show own_Go p.tables e below _ T16 (mkF m 126 #[.val (.long q1), .second, .val (.long q2), .second, .val (.long x1), .second, .unset, .unset] [(.long (own_ors x1 15))])
  refine own_go (fun t k => XT.lstore X16.here hx rfl (hb hby at_126) rfl (l' := #[.val (.long q1), .second, .val (.long q2), .second, .val (.long x1), .second, .val (.long (own_ors x1 15)), .second]) rfl k) ?_
  show own_Go p.tables e below _ T16 (mkF m 128 #[.val (.long q1), .second, .val (.long q2), .second, .val (.long x1), .second, .val (.long (own_ors x1 15)), .second] [])
  refine own_go (fun t k => XT.lload X16.here hx rfl (hb hby at_128) rfl k) ?_
  show own_Go p.tables e below _ T16 (mkF m 130 #[.val (.long q1), .second, .val (.long q2), .second, .val (.long x1), .second, .val (.long (own_ors x1 15)), .second] [(.long x1)])
  obtain ⟨_, _, ⟨T17, L17, k17, n17⟩, -, X17, ⟨Lc17, hQ17, l17, y17, z17⟩, st17⟩ := Jvm.LawKit.callS X16 hx (y := (⟨"com/example/bit_sieve/bitsieve/CounterStore", "bitsInUse", "(J)J"⟩ : MethodName)) hown (mvT hZ (hw _ (List.mem_of_getElem? (i := 5) rfl))) (mvT hZ (hw _ (List.mem_of_getElem? (i := 6) rfl))) (mvT hZ (hw _ (List.mem_of_getElem? (i := 7) rfl))) (mvT hZ (hw _ (List.mem_of_getElem? (i := 8) rfl))) (by decide) (backOf (W := 0) (rm2 l Z a0 hw [] x1 h0 n0 Z0) hZ (hw _ (List.mem_of_getElem? (i := 8) rfl)) (hw _ (List.mem_of_getElem? (i := 7) rfl)) (by decide) (by decide)) (g := (mkF m 130 #[.val (.long q1), .second, .val (.long q2), .second, .val (.long x1), .second, .val (.long (own_ors x1 15)), .second] [(.long x1)])) rfl (by rw [hml]; rfl) (argsL := [(.long x1)]) (rest := []) (lenOf pd_1 rfl) rfl (by show 2 * 0 + _ ≤ _; exact Nat.le_of_eq rfl) (hb hby at_130) (fun _ _ => ⟨rfl, e16, (by decide : 0 + 0 ≤ _), (by decide : 0 + 0 ≤ _)⟩)
  dsimp only [Pt.U, Pt.locs, Pt.cells, Pt.slots] at X17 l17 y17 z17 st17 hQ17
  subst l17 y17 z17
  obtain ⟨rfl, N17q, e17⟩ := hQ17
  have N17 := Fr.app N16 N17q
  refine own_go (fun t k => st17 t k) ?_
  show own_Go p.tables e below _ T17 (mkF m 133 #[.val (.long q1), .second, .val (.long q2), .second, .val (.long x1), .second, .val (.long (own_ors x1 15)), .second] [(.long (own_biu x1))])
  refine own_go (fun t k => XT.lload X17.here hx rfl (hb hby at_133) rfl k) ?_
  show own_Go p.tables e below _ T17 (mkF m 135 #[.val (.long q1), .second, .val (.long q2), .second, .val (.long x1), .second, .val (.long (own_ors x1 15)), .second] [(.long (own_ors x1 15)), (.long (own_biu x1))])
  refine own_go (fun t k => XT.lcmp X17.here hx rfl (hb hby at_135) rfl k) ?_
  show own_Go p.tables e below _ T17 (mkF m 136 #[.val (.long q1), .second, .val (.long q2), .second, .val (.long x1), .second, .val (.long (own_ors x1 15)), .second] [(.int (XT.cmpL (own_biu x1) (own_ors x1 15)))])
  refine own_go (fun t k => XS.ifNo X17.here hx rfl (hb hby at_136) rfl (XT.ll_ne_f (own_biu_eq x1)) k) ?_
  show own_Go p.tables e below _ T17 (mkF m 139 #[.val (.long q1), .second, .val (.long q2), .second, .val (.long x1), .second, .val (.long (own_ors x1 15)), .second] [])
  refine own_go (fun t k => XS.iconst X17.here hx rfl (hb hby at_139) k) ?_
  show own_Go p.tables e below _ T17 (mkF m 140 #[.val (.long q1), .second, .val (.long q2), .second, .val (.long x1), .second, .val (.long (own_ors x1 15)), .second] [(.int (1 : Int32))])
  refine own_go (fun t k => XS.goto X17.here hx rfl (pc0 := 140) (pc' := 144) rfl (hb hby at_140) (by decide) (by decide) k) ?_
  show own_Go p.tables e below _ T17 (mkF m 144 #[.val (.long q1), .second, .val (.long q2), .second, .val (.long x1), .second, .val (.long (own_ors x1 15)), .second] [(.int (1 : Int32))])
  obtain ⟨fs, hr, hrun, hended, hW, hsame⟩ := X17.leave (v := some (.int (1 : Int32))) (fun h => by rw [Bd.returns] at h; cases h)
  refine ⟨_, _, ?_, hrun, hended, _, _, rfl, ?_, ⟨_, rfl⟩, hW, hsame.mono (by decide) (by decide)⟩
  · exact retN X17 hx (t := .boolean) Bd.returns (by simp) (hb hby at_144) hr
  · show Q0 Z q1 q2 h0 n0 _ T17.heap _
    rw [e17]
    exact ⟨rfl, N17⟩
set_option maxRecDepth 65536 in
set_option maxHeartbeats 40000000 in
theorem comes_1 {Post : Tables → Env → Array Value → State → Outcome → State → Prop} (hpost : ∀ tb e args s v u, (limb_1_1.after args s (.returned v) u = true ∧ limb_1_2.after args s (.returned v) u = true ∧ True) → FrameEnd s (.returned v) u (Jvm.fieldLocs frame_1_writes args s ++ Jvm.arrayLocs frame_1_arrays args s ++ Jvm.staticLocs frame_1_statics s) 0 0 → Post tb e args s (.returned v) u) :
    ArmFor flags0 classFile x code maxLocals ret World_1 tables_1 room_1 Calls_1 rest_1 Pre_1 Post := by
  intro l hfl _ _ p e ha hc hk s m args below hf hA hF happ hP
  obtain ⟨hcalls, hrest, hpre⟩ := hP
  obtain ⟨-, -, -, hnamed, -, -, -, hat⟩ := (Spec.applies_iff hf).mp happ
  obtain ⟨hg, hn⟩ := and_e (Cond.before_iff.mp (show (Jvm.Cond.and given_1 narrow_1).before args s = true from hpre))
  obtain ⟨gc, ga0⟩ := and_e hg
  obtain ⟨gv0, ga1⟩ := and_e ga0
  have gv1 := ga1
  obtain ⟨w0, w1, rfl⟩ : ∃ w0 w1 : Value, args = #[w0, w1] := by
    have hs : args.size = 2 := by simpa [Cond.value, given_1] using gc
    obtain ⟨L⟩ := args
    match L, hs with
    | [w0, w1], _ => exact ⟨w0, w1, rfl⟩
  have hw := fun d (hd : d ∈ tables_1) => atoms_spec (ws := Jvm.Cond.code x code maxLocals ret :: tables_1) hat d (List.mem_cons_of_mem _ hd)
  have hfit : Fit s := fun {y c} hc i hi => by
    obtain ⟨ha, rfl⟩ := Array.getElem?_eq_some_iff.mp hc
    have q := List.all_eq_true.mp ((Array.all_eq_true_iff_forall_mem.mp hF) _ (Array.getElem_mem ha)) i (List.mem_range.mpr hi)
    simpa [Array.getElem?_eq_getElem hi] using q
  obtain ⟨i0, ei0⟩ := isL_v gv0
  obtain rfl : w0 = (.long i0) := Option.some.inj ei0
  obtain ⟨i1, ei1⟩ := isL_v gv1
  obtain rfl : w1 = (.long i1) := Option.some.inj ei1
  obtain ⟨n, o, h1, h2, h3, _, L, rfl, ⟨rfl, N⟩, hq⟩ := rm0 l s _ hw tables_1 i0 i1  s.heap s.heap.size (Nat.le_refl _)  p e ha hc hk s m _ below hf ((Spec.applies_iff_loose hf).mp happ).1 ⟨rfl, State.Warmed39.refl s, rfl⟩ trivial
  exact ⟨n, _, h1, h2, h3, hpost _ _ _ _ _ _ ⟨Cond.after_iff.mpr rfl, Cond.after_iff.mpr (eq_i res_at (Term.int_eval (1)) rfl), trivial⟩ ⟨hq.1, hq.2.1, (hq.2.2.sift fun y hy => Or.inr (N y hy)).mono (by decide) (by decide)⟩⟩
theorem main_1_1 : Claimed_1_1 := comes_1 fun _ _ _ _ _ _ h hF => ⟨h.1, hF⟩
theorem main_1_2 : Claimed_1_2 := comes_1 fun _ _ _ _ _ _ h hF => ⟨h.2.1, hF⟩
end Jvm.Pilot.@@N@@
namespace Jvm.Pilot.@@N@@
open Jvm Jvm.ClassFile Sem Op Lib Jvm.Free Jvm.Stand Jvm.Pilot.@@N@@.Jvm.D
/-! MADE BY PROGRAM (witnessworld.py) out of the Statement's table words and the real class files: 9 classes; the members and pool entries that the words name. The judged class is class 1, her method 2. -/
namespace start1
open Jvm.ClassFile
def u (s : String) : CpInfo := .utf8 (stringToUtf16 s)
/-- a pool by its gaps: so many unusable entries, then the entry; so many at the end -/
def gap : Nat → List CpInfo → List CpInfo
  | 0, r => r
  | n + 1, r => .unusable :: gap n r
def poolList (es : List (Nat × CpInfo)) (last : Nat) : List CpInfo := es.foldr (fun e r => gap e.1 (e.2 :: r)) (gap last [])
def pool (es : List (Nat × CpInfo)) (last : Nat) : Array CpInfo := ⟨poolList es last⟩
def fileOf (pool : Array CpInfo) (this : Nat) (attrs : Array Attribute := #[]) (ms : Array MethodInfo := #[]) (fl : Nat := 33) (sup : Nat := 0) (ifs : Array Nat := #[]) (fds : Array FieldInfo := #[]) : ClassFile where
  minorVersion := 0
  majorVersion := 65
  constantPool := pool
  accessFlags := fl
  thisClass := this
  superClass := sup
  interfaces := ifs
  fields := fds
  methods := ms
  attributes := attrs
def plain (name : String) (sup : Option ClassId) : Class where
  name := name
  kind := .ordinary
  loader := none
  accessFlags := 33
  super := sup
  interfaces := #[]
  cf := none
  fields := #[]
  methods := #[]
  instanceTypes := #[]
  staticTypes := #[]
  resolved := #[]
  callSites := []
  init := .initialized
  statics := none
  mirror := none

def pool0 : Array CpInfo := pool [(5, u "<init>"), (0, u "()V"), (1, .class_ 10), (1, u "java/lang/Object")] 113

def k0m0 : Method := { name := "<init>", desc := "()V", sig := { parameters := [], returnType := none }, accessFlags := 1, code := none }
/-- java/lang/Object -/
def k0 : Class := { plain "java/lang/Object" none with
  accessFlags := 33
  interfaces := #[]
  cf := some (fileOf pool0 8 #[] #[{ accessFlags := 1, nameIndex := 5, descriptorIndex := 6, attributes := #[] }] 33 0 #[] #[])
  fields := #[]
  methods := #[k0m0]
  instanceTypes := #[]
  staticTypes := #[]
  resolved := Array.replicate 124 none
  statics := none }

def pool1 : Array CpInfo := pool [(2, .class_ 4), (1, u "java/lang/Object"), (0, u "<init>"), (0, u "()V"), (0, .long 15), (1, .methodref 10 11), (0, .class_ 12), (0, .nameAndType 13 14), (0, u "com/example/bit_sieve/bitsieve/CounterStoreBitsInUsePinLaw"), (0, u "bit"), (0, u "(JI)J"), (0, .interfaceMethodref 16 17), (0, .class_ 18), (0, .nameAndType 19 20), (0, u "com/example/bit_sieve/bitsieve/CounterStore"), (0, u "bitsInUse"), (0, u "(J)J"), (3, u "law"), (0, u "(JJ)Z")] 2

def k1m0 : Method := { name := "<init>", desc := "()V", sig := { parameters := [], returnType := none }, accessFlags := 1, code := none }
def k1c1 : Code := { maxStack := 4, maxLocals := 3, code := method_2_code, exceptionTable := #[], attributes := #[] }
def k1m1 : Method := { name := "bit", desc := "(JI)J", sig := { parameters := [.long, .int], returnType := some .long }, accessFlags := 10, code := some k1c1 }
def k1c2 : Code := { maxStack := 5, maxLocals := 8, code := code, exceptionTable := #[], attributes := #[] }
def k1m2 : Method := { name := "law", desc := "(JJ)Z", sig := { parameters := [.long, .long], returnType := some .boolean }, accessFlags := 9, code := some k1c2 }
/-- com/example/bit_sieve/bitsieve/CounterStoreBitsInUsePinLaw -/
def k1 : Class := { plain "com/example/bit_sieve/bitsieve/CounterStoreBitsInUsePinLaw" (some 0) with
  accessFlags := 49
  interfaces := #[]
  cf := some (fileOf pool1 10 #[] #[{ accessFlags := 1, nameIndex := 5, descriptorIndex := 6, attributes := #[] }, { accessFlags := 10, nameIndex := 13, descriptorIndex := 14, attributes := #[] }, { accessFlags := 9, nameIndex := 24, descriptorIndex := 25, attributes := #[] }] 49 2 #[] #[])
  fields := #[]
  methods := #[k1m0, k1m1, k1m2]
  instanceTypes := #[]
  staticTypes := #[]
  resolved := Array.replicate 28 none
  statics := none }

def pool2 : Array CpInfo := pool [(2, .class_ 4), (1, u "com/example/bit_sieve/bitsieve/BitWords"), (2, .class_ 8), (0, u "java/lang/Object")] 9

/-- com/example/bit_sieve/bitsieve/BitWords -/
def k2 : Class := { plain "com/example/bit_sieve/bitsieve/BitWords" (some 0) with
  accessFlags := 1536
  interfaces := #[]
  cf := some (fileOf pool2 2 #[] #[] 1536 7 #[] #[])
  fields := #[]
  methods := #[]
  instanceTypes := #[]
  staticTypes := #[]
  resolved := Array.replicate 18 none
  statics := none }

def pool3 : Array CpInfo := pool [(1, .class_ 2), (0, u "com/example/bit_sieve/bitsieve/Positions"), (0, .class_ 4), (0, u "java/lang/Object"), (0, .class_ 6), (0, u "com/example/bit_sieve/bitsieve/BitWords")] 11

/-- com/example/bit_sieve/bitsieve/Positions -/
def k3 : Class := { plain "com/example/bit_sieve/bitsieve/Positions" (some 0) with
  accessFlags := 1536
  interfaces := #[2]
  cf := some (fileOf pool3 1 #[] #[] 1536 3 #[5] #[])
  fields := #[]
  methods := #[]
  instanceTypes := #[]
  staticTypes := #[]
  resolved := Array.replicate 18 none
  statics := none }

def pool4 : Array CpInfo := pool [(1, .class_ 2), (0, u "com/example/bit_sieve/bitsieve/CounterStore"), (4, .long 1229782938247303441), (6, .long 217020518514230019), (1, .long 4222189076152335), (1, .long 1095216660735), (1, .long 65535), (6, u "(J)J"), (14, .class_ 43), (0, u "java/lang/Object"), (0, .class_ 45), (0, u "com/example/bit_sieve/bitsieve/Positions"), (0, u "COUNTER_BITS"), (0, u "I"), (2, u "SATURATED"), (1, u "LOW_BIT_OF_EACH"), (0, u "J"), (3, u "bitsInUse"), (14, .class_ 73), (0, u "com/example/bit_sieve/bitsieve/CounterStore$CounterFunction")] 2

def k4c0 : Code := { maxStack := 5, maxLocals := 4, code := prog_19_method_5_code, exceptionTable := #[], attributes := #[] }
def k4m0 : Method := { name := "bitsInUse", desc := "(J)J", sig := { parameters := [.long], returnType := some .long }, accessFlags := 9, code := some k4c0 }
/-- com/example/bit_sieve/bitsieve/CounterStore -/
def k4 : Class := { plain "com/example/bit_sieve/bitsieve/CounterStore" (some 0) with
  accessFlags := 1536
  interfaces := #[3]
  cf := some (fileOf pool4 1 #[.nestMembers #[72]] #[{ accessFlags := 9, nameIndex := 57, descriptorIndex := 27, attributes := #[] }] 1536 42 #[44] #[{ accessFlags := 25, nameIndex := 46, descriptorIndex := 47, attributes := #[] }, { accessFlags := 25, nameIndex := 50, descriptorIndex := 47, attributes := #[] }, { accessFlags := 25, nameIndex := 52, descriptorIndex := 53, attributes := #[] }])
  fields := #[{ name := "COUNTER_BITS", type := .int, accessFlags := 25, slot := 0, constantValue := 0 }, { name := "SATURATED", type := .int, accessFlags := 25, slot := 1, constantValue := 0 }, { name := "LOW_BIT_OF_EACH", type := .long, accessFlags := 25, slot := 2, constantValue := 0 }]
  methods := #[k4m0]
  instanceTypes := #[]
  staticTypes := #[.int, .int, .long]
  resolved := Array.replicate 76 none
  statics := none }

def pool5 : Array CpInfo := pool [(1, u "java/lang/Cloneable"), (0, .class_ 1), (0, u "java/lang/Object"), (0, .class_ 3)] 3

/-- java/lang/Cloneable -/
def k5 : Class := { plain "java/lang/Cloneable" (some 0) with
  accessFlags := 1537
  interfaces := #[]
  cf := some (fileOf pool5 2 #[] #[] 1537 4 #[] #[])
  fields := #[]
  methods := #[]
  instanceTypes := #[]
  staticTypes := #[]
  resolved := Array.replicate 8 none
  statics := none }

def pool6 : Array CpInfo := pool [(1, u "java/io/Serializable"), (0, .class_ 1), (0, u "java/lang/Object"), (0, .class_ 3)] 3

/-- java/io/Serializable -/
def k6 : Class := { plain "java/io/Serializable" (some 0) with
  accessFlags := 1537
  interfaces := #[]
  cf := some (fileOf pool6 2 #[] #[] 1537 4 #[] #[])
  fields := #[]
  methods := #[]
  instanceTypes := #[]
  staticTypes := #[]
  resolved := Array.replicate 8 none
  statics := none }

/-- the primitive byte -/
def k7 : Class := { plain "byte" none with kind := .primitive 'B', accessFlags := 0x411 }
/-- [B -/
def k8 : Class := { plain "[B" (some 0) with kind := .array 7 .byte, interfaces := #[5, 6], accessFlags := 1041 }

def heap : Heap := #[]
def classes : Array Class := #[k0, k1, k2, k3, k4, k5, k6, k7, k8]
def interned : List (Array UInt16 × Addr) := []
def slotsUsed : Nat := 0
def theMethod : MethodId := ⟨1, 2⟩
def args0 : Array Value := #[.long 5, .long 300]
def aboutOver (below : List Frame) : State where
  vm := { classes := classes, interned := interned.toArray }
  heap := heap
  slotsUsed := slotsUsed
  threads := #[{ frames := .invoking theMethod args0 :: below }]
def below0 : List Frame := [.native { method := ⟨0, 0⟩, args := #[] }]
def about1 : State := aboutOver below0
def p0 : Program := .bare "" "" ""
def e0 : Env := launch0.env 0 0 0
theorem w_frames : about1.frames = Frame.invoking theMethod args0 :: below0 := rfl
set_option maxRecDepth 65536 in
theorem w_args : argsFit about1.vm theMethod args0 = true := by decide +kernel
set_option maxRecDepth 65536 in
theorem w_heap : heapFits about1 = true := by decide +kernel
set_option maxRecDepth 65536 in
theorem w_runnable : about1.curStatus? = some .runnable := by decide +kernel
set_option maxRecDepth 65536 in
theorem w_alone : about1.alone = true := by decide +kernel
set_option maxRecDepth 65536 in
theorem w_named : about1.methodNamed? x = some theMethod := by decide +kernel
set_option maxRecDepth 65536 in
theorem w_hears : about1.hears theMethod below0 = true := by decide +kernel
set_option maxRecDepth 65536 in
theorem w_ripe : about1.ripe theMethod args0 below0 = true := by decide +kernel
theorem w_running : about1.status = .running := rfl
set_option maxRecDepth 65536 in
theorem w_room : about1.hasRoom e0.platform room_1 = true :=
  launch0.hasRoom_least _ room_1 (by decide +kernel) (by decide +kernel) (by decide +kernel) (by decide +kernel) (by decide +kernel) (by decide +kernel)
theorem allAtoms_all (ts : List Jvm.Cond) (a : Array Jvm.Value) (st : Jvm.State) : (allAtoms ts).before a st = ts.all (fun c => c.before a st) := by
  induction ts with
  | nil => rfl
  | cons c t ih =>
    show (Jvm.Cond.and c (allAtoms t)).before a st = _
    rw [Jvm.Cond.before_and, ih, List.all_cons]
def words1 : List Jvm.Cond := Jvm.Cond.code x code maxLocals ret :: tables_1
/-- a 'code' word, met by the world's own term for the bytes: nothing is compared byte by byte -/
theorem code_word {y : MethodName} {bytes : ByteArray} {mx : Nat} {rt : Option FieldType} {a : Array Value} {s : State} {m : MethodId} {meth : Method} {c : Code} (h1 : s.methodNamed? y = some m) (h2 : s.vm.method? m = some meth) (h3 : meth.code = some c) (h4 : c.code = bytes)
    (h5 : (c.maxLocals == mx && c.exceptionTable.isEmpty && decide (c.maxStack ≤ mostOperands) && decide (meth.sig.returnType = rt) && !meth.locks && decide (parseMethodDescriptor y.desc = some meth.sig)) = true) : (Jvm.Cond.code y bytes mx rt).before a s = true := by
  simp only [Bool.and_eq_true, beq_iff_eq, Bool.not_eq_true', decide_eq_true_eq] at h5
  obtain ⟨⟨⟨⟨⟨g1, g2⟩, g3⟩, g4⟩, g5⟩, g6⟩ := h5
  simp [Cond.before, Cond.holds, Cond.value, h1, h2, h3, h4, g1, g2, g3, g4, g5, g6]
def isCode : Jvm.Cond → Bool
  | .code _ _ _ _ => true
  | _ => false
theorem all_split {L : List Jvm.Cond} {P : Jvm.Cond → Bool} (h1 : L.all (fun c => isCode c || P c) = true) (h2 : ∀ c ∈ L.filter isCode, P c = true) : L.all P = true := by
  refine List.all_eq_true.mpr fun c hc => ?_
  have h := List.all_eq_true.mp h1 c hc
  rcases Bool.eq_false_or_eq_true (isCode c) with hi | hi
  · exact h2 c (List.mem_filter.mpr ⟨hc, hi⟩)
  · simpa [hi] using h
set_option maxRecDepth 65536 in
theorem w_c0 : (Jvm.Cond.code x code maxLocals ret).before args0 about1 = true := code_word (m := ⟨1, 2⟩) (meth := k1m2) (c := k1c2) (by decide +kernel) rfl rfl rfl (by decide +kernel)
set_option maxRecDepth 65536 in
theorem w_c1 : (Jvm.Cond.code ({ cls := "com/example/bit_sieve/bitsieve/CounterStoreBitsInUsePinLaw", name := "bit", desc := "(JI)J" } : Jvm.MethodName) method_2_code (3 : Nat) (Option.some Jvm.ClassFile.FieldType.long)).before args0 about1 = true := code_word (m := ⟨1, 1⟩) (meth := k1m1) (c := k1c1) (by decide +kernel) rfl rfl rfl (by decide +kernel)
set_option maxRecDepth 65536 in
theorem w_c2 : (Jvm.Cond.code ({ cls := "com/example/bit_sieve/bitsieve/CounterStore", name := "bitsInUse", desc := "(J)J" } : Jvm.MethodName) prog_19_method_5_code (4 : Nat) (Option.some Jvm.ClassFile.FieldType.long)).before args0 about1 = true := code_word (m := ⟨4, 0⟩) (meth := k4m0) (c := k4c0) (by decide +kernel) rfl rfl rfl (by decide +kernel)
def codes1 : List Jvm.Cond := [Jvm.Cond.code x code maxLocals ret, Jvm.Cond.code ({ cls := "com/example/bit_sieve/bitsieve/CounterStoreBitsInUsePinLaw", name := "bit", desc := "(JI)J" } : Jvm.MethodName) method_2_code (3 : Nat) (Option.some Jvm.ClassFile.FieldType.long), Jvm.Cond.code ({ cls := "com/example/bit_sieve/bitsieve/CounterStore", name := "bitsInUse", desc := "(J)J" } : Jvm.MethodName) prog_19_method_5_code (4 : Nat) (Option.some Jvm.ClassFile.FieldType.long)]
set_option maxRecDepth 65536 in
theorem codes_eq : words1.filter isCode = codes1 := rfl
theorem w_codes : ∀ c ∈ words1.filter isCode, c.before args0 about1 = true := by
  rw [codes_eq]
  intro c hc
  simp only [codes1, List.mem_cons, List.not_mem_nil, or_false] at hc
  rcases hc with rfl | rfl | rfl
  · exact w_c0
  · exact w_c1
  · exact w_c2
set_option maxRecDepth 65536 in
theorem w_t1 : words1.all (fun c => isCode c || c.before args0 about1) = true := by decide +kernel
theorem w_tables : (allAtoms (Jvm.Cond.code x code maxLocals ret :: tables_1)).before args0 about1 = true := by
  rw [allAtoms_all]
  show words1.all (fun c => c.before args0 about1) = true
  refine all_split ?_ w_codes
  rw [w_t1]
set_option maxRecDepth 65536 in
theorem w_case : (Jvm.Cond.and given_1 narrow_1).before args0 about1 = true := by decide +kernel
theorem w_applies : (headSpec (Jvm.Cond.code x code maxLocals ret :: tables_1) room_1).applies x e0.platform about1 = true :=
  (Spec.applies_iff w_frames).mpr ⟨w_running, w_runnable, w_alone, w_named, w_hears, w_ripe, w_room, w_tables⟩
theorem atStart : AtStart classFile x code maxLocals ret World_1 tables_1 room_1 Calls_1 rest_1 Pre_1 launch0 p0 e0 about1 theMethod args0 below0 :=
  ⟨lists_1, trivial, launch0.admits_env _ _ _, launch0.least_env, fairChoices_fair.cas, fairChoices_fair.clock, w_frames, w_args, w_heap, w_applies, trivial, trivial, w_case⟩
end start1
theorem witness_1 : WitnessClaimed_1 := ⟨start1.p0, start1.e0, start1.about1, start1.theMethod, start1.args0, start1.below0, start1.atStart⟩
end Jvm.Pilot.@@N@@
