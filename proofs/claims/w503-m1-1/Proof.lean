import JvmDerived
import JvmDerived.Pilot.@@N@@Statement
import JvmDerived.Pilot.@@N@@Code
set_option linter.unusedVariables false
set_option linter.unusedSimpArgs false
namespace Jvm.RoadKit
open Sem ClassFile Op Lib Jvm.Stand Jvm.Free Jvm.LawKit
section New
variable {p : Program} {l : Launch} {e : Env} {R : Room} {s : State} {m : MethodId} {args : Array Value} {below : List Frame} {meth : Method} {c : Code} {T : State} {locs : List Loc} {cells slots : Nat}
theorem retI (X : Stand p l e R s m args below meth c T locs cells slots) (hx : p.tables.exec = Jvm.exec) {pc : Nat} {Ls : Array Slot} {z : Int32} {rest : List Value} (hret : meth.sig.returnType = some .int) (hd : decode c.code pc = .ok (.ireturn, 1)) {fs : List Frame}
    (hl : ∀ (f : JFrame) (acts : List Action), f.method = m → f.locked = none → f.entered = [] → (doReturn e (T.setTop f) acts (some (.int z))).1 = T.setFrames fs) : Steps p.tables e below (T.setTop (mkF m pc Ls (.int z :: rest))) (T.setFrames fs) := by
  have hm' : T.vm.method? m = some meth := X.method'
  have hn : narrow .int (.int z) = .int z := rfl
  show Steps p.tables e below (T.setTop { method := m, pc := pc, locals := Ls, stack := _ :: rest, locked := none }) _
  jvm_step X.here [X.here.top, hx, hd, hm', hret, hn]
  first | (intro acts; rw [hl _ acts rfl rfl rfl]) | rw [hl _ _ rfl rfl rfl]
  exact Steps.refl _
end New
end Jvm.RoadKit
namespace Jvm.Pilot.@@N@@
open Jvm Jvm.ClassFile Sem Op Lib Jvm.Free Jvm.Stand Jvm.LawKit Jvm.RoadKit Bundle Jvm.Pilot.@@N@@.Jvm.D
/-- the run from here ends well -/
def own_Go (tb : Tables) (e : Env) (below : List Frame) (P : Outcome → State → Prop) (T : State) (f : JFrame) : Prop := ∃ s₂ o, Steps tb e below (T.setTop f) s₂ ∧ s₂.status = .running ∧ Ended s₂ below o ∧ P o s₂
theorem own_go {tb : Tables} {e : Env} {below : List Frame} {P : Outcome → State → Prop} {T T' : State} {f f' : JFrame} (k : ∀ t, Steps tb e below (T'.setTop f') t → Steps tb e below (T.setTop f) t) (h : own_Go tb e below P T' f') : own_Go tb e below P T f := by
  obtain ⟨s₂, o, h1, h2⟩ := h
  exact ⟨s₂, o, k _ h1, h2⟩
theorem own_keep1 {h0 h h' : Heap} {ws : List Addr} {b : Addr} (K : Keep h0 h ws) (K' : Keep h h' [b]) (q : h0.size ≤ b) : Keep h0 h' ws := K.trans K' fun x hx => Or.inr (by cases List.mem_singleton.mp hx; exact q)
theorem own_eqi {a b : Term} {args : Array Value} {first s : State} {o : Option Outcome} {idx : List Nat} {y : Int32} (h : (Jvm.Cond.eq a b).value args first o s idx = some true) (hb : b.eval args first o idx s = some (.int y)) : a.eval args first o idx s = some (.int y) := by
  cases ha : a.eval args first o idx s with
  | none => simp [Cond.value, ha] at h
  | some x => cases x <;> simp [Cond.value, ha, hb] at h; subst h; rfl
theorem own_not1 {a b : Addr} (q : a ≠ b) : a ∉ [b] := fun h => q (List.mem_singleton.mp h)
def own_PW (s : State) (Q : Option Value → Heap → List Loc → Prop) (k n : Nat) (o : Outcome) (U : State) : Prop := ∃ v L, o = .returned v ∧ Q v U.heap L ∧ ReturnedEndW s o U L k n
def own_P (s : State) (Q : Option Value → Heap → List Loc → Prop) (k n : Nat) (o : Outcome) (U : State) : Prop := ∃ v L, o = .returned v ∧ Q v U.heap L ∧ FrameEnd s o U L k n
theorem own_ushrL (x : Int64) (k : Int32) (n : Nat) (hk : (k.toInt64.toUInt64 &&& Int64.toUInt64 63).toBitVec % 64 = BitVec.ofNat 64 n) (hn : n < 64) : (XT.ushrL x k).toBitVec = x.toBitVec >>> n := by
  unfold XT.ushrL
  show (x.toUInt64 >>> (k.toInt64.toUInt64 &&& Int64.toUInt64 63)).toBitVec = _
  rw [UInt64.toBitVec_shiftRight, hk]
  have e : (BitVec.ofNat 64 n).toNat = n := by rw [BitVec.toNat_ofNat]; exact Nat.mod_eq_of_lt (by omega)
  rw [BitVec.ushiftRight_eq', e]
  rfl
theorem own_unxor (z : Int64) (k k2 : Int32) (n : Nat) (h1 : (k.toInt64.toUInt64 &&& Int64.toUInt64 63).toBitVec % 64 = BitVec.ofNat 64 n) (h2 : (k2.toInt64.toUInt64 &&& Int64.toUInt64 63).toBitVec % 64 = BitVec.ofNat 64 (2 * n)) (hn : 2 * n < 64) (h3 : 64 ≤ 3 * n) :
    ((z ^^^ XT.ushrL z k) ^^^ XT.ushrL (z ^^^ XT.ushrL z k) k) ^^^ XT.ushrL (z ^^^ XT.ushrL z k) k2 = z := by
  apply Int64.toBitVec_inj.mp
  simp only [Int64.toBitVec_xor, own_ushrL _ k n h1 (by omega), own_ushrL _ k2 (2*n) h2 hn]
  apply BitVec.eq_of_getLsbD_eq
  intro i hi
  have h : z.toBitVec.getLsbD (n + (2 * n + i)) = false := BitVec.getLsbD_of_ge _ _ (by omega)
  have h' : n + (n + i) = 2 * n + i := by omega
  simp [BitVec.getLsbD_xor, BitVec.getLsbD_ushiftRight, h, h']
def own_m1 (z : Int64) : Int64 := (z ^^^ XT.ushrL z 30) * -4658895280553007687
def own_m2 (z : Int64) : Int64 := (z ^^^ XT.ushrL z 27) * -7723592293110705685
def own_m3 (z : Int64) : Int64 := z ^^^ XT.ushrL z 31
theorem own_inv1 : (-4658895280553007687 : Int64) * -7575587736534282103 = 1 := by decide
theorem own_inv2 : (-7723592293110705685 : Int64) * 3573116690164977347 = 1 := by decide
def own_word (s k : Int64) : Int64 := own_m3 (own_m2 (own_m1 (s + (k + 1) * -7046029254386353131)))
theorem own_m1_inj {x y : Int64} (h : own_m1 x = own_m1 y) : x = y := by
  have q := congrArg (· * (-7575587736534282103 : Int64)) h
  simp only [own_m1, Int64.mul_assoc, own_inv1, Int64.mul_one] at q
  rw [← own_unxor x 30 60 30 (by decide) (by decide) (by decide) (by decide), ← own_unxor y 30 60 30 (by decide) (by decide) (by decide) (by decide), q]
theorem own_m2_inj {x y : Int64} (h : own_m2 x = own_m2 y) : x = y := by
  have q := congrArg (· * (3573116690164977347 : Int64)) h
  simp only [own_m2, Int64.mul_assoc, own_inv2, Int64.mul_one] at q
  rw [← own_unxor x 27 54 27 (by decide) (by decide) (by decide) (by decide), ← own_unxor y 27 54 27 (by decide) (by decide) (by decide) (by decide), q]
theorem own_m3_inj {x y : Int64} (h : own_m3 x = own_m3 y) : x = y := by
  rw [← own_unxor x 31 62 31 (by decide) (by decide) (by decide) (by decide), ← own_unxor y 31 62 31 (by decide) (by decide) (by decide) (by decide)]
  rw [show x ^^^ XT.ushrL x 31 = y ^^^ XT.ushrL y 31 from h]
theorem own_add_cancel {a b c : Int64} (h : a + c = b + c) : a = b := by
  have q := congrArg (· + -c) h
  simpa [Int64.add_assoc, Int64.add_right_neg] using q
theorem own_word_inj {s t k : Int64} (h : own_word t k = own_word s k) : t = s := own_add_cancel (own_m1_inj (own_m2_inj (own_m3_inj h)))
theorem own_shift (s k d : Int64) : own_word s (k + d) = own_word (s + d * -7046029254386353131) k := by
  unfold own_word
  congr 3
  rw [show k + d + 1 = d + (k + 1) from by rw [Int64.add_comm k d, Int64.add_assoc], Int64.add_mul, Int64.add_assoc]
theorem own_zero (k : Int64) : own_word (-((k + 1) * -7046029254386353131)) k = 0 := by
  unfold own_word
  rw [Int64.add_left_neg]; decide
theorem own_bit (y : Int64) : (1 : Int64) <<< y ≠ 0 := by
  intro h
  have q := congrArg Int64.toBitVec h
  have q' : (1#64 : BitVec 64) <<< (y.toBitVec.smod 64) = 0#64 := q
  rw [BitVec.shiftLeft_eq'] at q'
  have hn : (y.toBitVec.smod 64).toNat < 64 := by
    have e := BitVec.toInt_smod (x := y.toBitVec) (y := 64)
    have e64 : (64 : BitVec 64).toInt = 64 := by decide
    rw [e64] at e
    have h1 := Int.fmod_nonneg_of_pos y.toBitVec.toInt (b := 64) (by decide)
    have h2 := Int.fmod_lt_of_pos y.toBitVec.toInt (b := 64) (by decide)
    rw [← e] at h1 h2
    have := BitVec.toInt_eq_toNat_cond (y.toBitVec.smod 64)
    split at this <;> omega
  have z := congrArg (fun b => b.getLsbD (y.toBitVec.smod 64).toNat) q'
  simp at z
  exact absurd hn (Nat.not_lt.mpr z)
theorem own_flip (s y k : Int64) : ¬ own_word (s ^^^ (1 <<< y)) k = own_word s k := fun h => by
  have q := own_word_inj h
  have q2 := congrArg (s ^^^ ·) q
  simp only [← Int64.xor_assoc, Int64.xor_self, Int64.zero_xor] at q2
  exact own_bit y q2
theorem own_v0 : own_word 0 0 = -2152535657050944081 := by decide +kernel
theorem own_v1 : own_word 0 1 = 7960286522194355700 := by decide +kernel
theorem own_v2 : own_word 0 2 = 487617019471545679 := by decide +kernel
theorem d1_0 : decode prog_104_method_2_code 0 = .ok (.lload_n 0, 1) := by decide +kernel
theorem d1_1 : decode prog_104_method_2_code 1 = .ok (.lload_n 2, 1) := by decide +kernel
theorem d1_2 : decode prog_104_method_2_code 2 = .ok (.lconst 1, 1) := by decide +kernel
theorem d1_3 : decode prog_104_method_2_code 3 = .ok (.ladd, 1) := by decide +kernel
theorem d1_4 : decode prog_104_method_2_code 4 = .ok (.ldc2_w 16, 3) := by decide +kernel
theorem d1_7 : decode prog_104_method_2_code 7 = .ok (.lmul, 1) := by decide +kernel
theorem d1_8 : decode prog_104_method_2_code 8 = .ok (.ladd, 1) := by decide +kernel
theorem d1_9 : decode prog_104_method_2_code 9 = .ok (.lstore 4, 2) := by decide +kernel
theorem d1_11 : decode prog_104_method_2_code 11 = .ok (.lload 4, 2) := by decide +kernel
theorem d1_13 : decode prog_104_method_2_code 13 = .ok (.lload 4, 2) := by decide +kernel
theorem d1_15 : decode prog_104_method_2_code 15 = .ok (.bipush 30, 2) := by decide +kernel
theorem d1_17 : decode prog_104_method_2_code 17 = .ok (.lushr, 1) := by decide +kernel
theorem d1_18 : decode prog_104_method_2_code 18 = .ok (.lxor, 1) := by decide +kernel
theorem d1_19 : decode prog_104_method_2_code 19 = .ok (.ldc2_w 18, 3) := by decide +kernel
theorem d1_22 : decode prog_104_method_2_code 22 = .ok (.lmul, 1) := by decide +kernel
theorem d1_23 : decode prog_104_method_2_code 23 = .ok (.lstore 4, 2) := by decide +kernel
theorem d1_25 : decode prog_104_method_2_code 25 = .ok (.lload 4, 2) := by decide +kernel
theorem d1_27 : decode prog_104_method_2_code 27 = .ok (.lload 4, 2) := by decide +kernel
theorem d1_29 : decode prog_104_method_2_code 29 = .ok (.bipush 27, 2) := by decide +kernel
theorem d1_31 : decode prog_104_method_2_code 31 = .ok (.lushr, 1) := by decide +kernel
theorem d1_32 : decode prog_104_method_2_code 32 = .ok (.lxor, 1) := by decide +kernel
theorem d1_33 : decode prog_104_method_2_code 33 = .ok (.ldc2_w 20, 3) := by decide +kernel
theorem d1_36 : decode prog_104_method_2_code 36 = .ok (.lmul, 1) := by decide +kernel
theorem d1_37 : decode prog_104_method_2_code 37 = .ok (.lstore 4, 2) := by decide +kernel
theorem d1_39 : decode prog_104_method_2_code 39 = .ok (.lload 4, 2) := by decide +kernel
theorem d1_41 : decode prog_104_method_2_code 41 = .ok (.lload 4, 2) := by decide +kernel
theorem d1_43 : decode prog_104_method_2_code 43 = .ok (.bipush 31, 2) := by decide +kernel
theorem d1_45 : decode prog_104_method_2_code 45 = .ok (.lushr, 1) := by decide +kernel
theorem d1_46 : decode prog_104_method_2_code 46 = .ok (.lxor, 1) := by decide +kernel
theorem d1_47 : decode prog_104_method_2_code 47 = .ok (.lreturn, 1) := by decide +kernel
theorem pn_0 : plainName "com/example/trellis/trellis/graph/SplitMix64" = true := by first | (simp [plainName, overriddenIn]; done) | decide +kernel
theorem ef_1 (m : MethodId) {q1 : Int64} {q2 : Int64} : entryFrame m #[(.long q1), (.long q2)] 6 = mkF m 0 #[.val (.long q1), .second, .val (.long q2), .second, .unset, .unset] [] := by first | (simp [entryFrame, mkF, argsToLocals, Value.category]; done) | rfl
def Q1 (Z : State) (q1 : Int64) (q2 : Int64) (h0 : Heap) (n0 : Nat) (v : Option Value) (h : Heap) (L : List Loc) : Prop := v = some (.long (own_word q1 q2)) ∧ Fr n0 L ∧ h = h0
set_option maxRecDepth 65536 in
set_option maxHeartbeats 40000000 in
theorem rm1 (l : Launch) (Z : State) (a0 : Array Value) (hw : ∀ d ∈ tables_1, d.before a0 Z = true) (ws : List Jvm.Cond) (q1 : Int64) (q2 : Int64) (h0 : Heap) (n0 : Nat) (Z0 : n0 ≤ h0.size) :
    MetFree l (⟨"com/example/trellis/trellis/graph/SplitMix64", "word", "(JJ)J"⟩ : MethodName) (head1 (Jvm.Cond.code (⟨"com/example/trellis/trellis/graph/SplitMix64", "word", "(JJ)J"⟩ : MethodName) prog_104_method_2_code 6 (some .long) :: ws) ({ frames := 0, cells := 0, slots := 0, locals := 0 } : Room)) (fun a U => a = #[(.long q1), (.long q2)] ∧ Z.Warmed39 U.vm ∧ U.heap = h0) (fun _ _ _ _ _ => True) (fun _ U o U' => ∃ v L, o = .returned v ∧ Q1 Z q1 q2 h0 n0 v U'.heap L ∧ FrameEnd U o U' L (({ frames := 0, cells := 0, slots := 0, locals := 0 } : Room)).cells (({ frames := 0, cells := 0, slots := 0, locals := 0 } : Room)).slots) := by
  refine MetFree.of_bodySF (plainFor_of_name pn_0) hisR ?_
  intro p e s m args below meth c s₁ Bd hml0 hP hK
  obtain ⟨rfl, hZ, hh⟩ := hP
  have hx := Bd.exec
  have hby := Bd.bytes
  have hml : c.maxLocals = 6 := hml0
  have hown : s.vm.findClass "com/example/trellis/trellis/graph/SplitMix64" = some m.cls := findClass_of_methodNamed Bd.named
  have hnm := (name_of_methodNamed Bd.named Bd.method).1
  have X0 : Stand p l e ({ frames := 0, cells := 0, slots := 0, locals := 0 } : Room) s m #[(.long q1), (.long q2)] below meth c s₁ [] 0 0 := Stand.of_body Bd
  have e0 : s₁.heap = h0 := by rw [← hh, Bd.state]; rfl
  have N0 := Fr.nil n0
  show own_Go p.tables e below (own_P s (Q1 Z q1 q2 h0 n0) ({ frames := 0, cells := 0, slots := 0, locals := 0 } : Room).cells ({ frames := 0, cells := 0, slots := 0, locals := 0 } : Room).slots) s₁ _
  rw [ef_1]
  show own_Go p.tables e below _ s₁ (mkF m 0 #[.val (.long q1), .second, .val (.long q2), .second, .unset, .unset] [])
  refine own_go (fun t k => XT.lloadN X0.here hx rfl (hb hby d1_0) rfl k) ?_
  show own_Go p.tables e below _ s₁ (mkF m 1 #[.val (.long q1), .second, .val (.long q2), .second, .unset, .unset] [(.long q1)])
  refine own_go (fun t k => XT.lloadN X0.here hx rfl (hb hby d1_1) rfl k) ?_
  show own_Go p.tables e below _ s₁ (mkF m 2 #[.val (.long q1), .second, .val (.long q2), .second, .unset, .unset] [(.long q2), (.long q1)])
  refine own_go (fun t k => XT.lconst X0.here hx rfl (hb hby d1_2) k) ?_
  show own_Go p.tables e below _ s₁ (mkF m 3 #[.val (.long q1), .second, .val (.long q2), .second, .unset, .unset] [(.long (1 : Int64)), (.long q2), (.long q1)])
  refine own_go (fun t k => XT.ladd X0.here hx rfl (hb hby d1_3) rfl k) ?_
  show own_Go p.tables e below _ s₁ (mkF m 4 #[.val (.long q1), .second, .val (.long q2), .second, .unset, .unset] [(.long (q2 + (1 : Int64))), (.long q1)])
  refine own_go (fun t k => X0.ldc2J hx hown (mvT hZ (hw _ (List.mem_of_getElem? (i := 4) rfl))) rfl (hb hby d1_4) k) ?_
  show own_Go p.tables e below _ s₁ (mkF m 7 #[.val (.long q1), .second, .val (.long q2), .second, .unset, .unset] [(.long (-7046029254386353131 : Int64)), (.long (q2 + (1 : Int64))), (.long q1)])
  refine own_go (fun t k => XT.lmul X0.here hx rfl (hb hby d1_7) rfl k) ?_
  show own_Go p.tables e below _ s₁ (mkF m 8 #[.val (.long q1), .second, .val (.long q2), .second, .unset, .unset] [(.long ((q2 + (1 : Int64)) * (-7046029254386353131 : Int64))), (.long q1)])
  refine own_go (fun t k => XT.ladd X0.here hx rfl (hb hby d1_8) rfl k) ?_
  show own_Go p.tables e below _ s₁ (mkF m 9 #[.val (.long q1), .second, .val (.long q2), .second, .unset, .unset] [(.long (q1 + ((q2 + (1 : Int64)) * (-7046029254386353131 : Int64))))])
  refine own_go (fun t k => XT.lstore X0.here hx rfl (hb hby d1_9) rfl (l' := #[.val (.long q1), .second, .val (.long q2), .second, .val (.long (q1 + ((q2 + (1 : Int64)) * (-7046029254386353131 : Int64)))), .second]) rfl k) ?_
  show own_Go p.tables e below _ s₁ (mkF m 11 #[.val (.long q1), .second, .val (.long q2), .second, .val (.long (q1 + ((q2 + (1 : Int64)) * (-7046029254386353131 : Int64)))), .second] [])
  generalize gz : (q1 + ((q2 + (1 : Int64)) * (-7046029254386353131 : Int64))) = z
  show own_Go p.tables e below _ s₁ (mkF m 11 #[.val (.long q1), .second, .val (.long q2), .second, .val (.long z), .second] [])
  refine own_go (fun t k => XT.lload X0.here hx rfl (hb hby d1_11) rfl k) ?_
  show own_Go p.tables e below _ s₁ (mkF m 13 #[.val (.long q1), .second, .val (.long q2), .second, .val (.long z), .second] [(.long z)])
  refine own_go (fun t k => XT.lload X0.here hx rfl (hb hby d1_13) rfl k) ?_
  show own_Go p.tables e below _ s₁ (mkF m 15 #[.val (.long q1), .second, .val (.long q2), .second, .val (.long z), .second] [(.long z), (.long z)])
  refine own_go (fun t k => XS.bipush X0.here hx rfl (hb hby d1_15) k) ?_
  show own_Go p.tables e below _ s₁ (mkF m 17 #[.val (.long q1), .second, .val (.long q2), .second, .val (.long z), .second] [(.int (30 : Int32)), (.long z), (.long z)])
  refine own_go (fun t k => XT.lushr X0.here hx rfl (hb hby d1_17) rfl k) ?_
  show own_Go p.tables e below _ s₁ (mkF m 18 #[.val (.long q1), .second, .val (.long q2), .second, .val (.long z), .second] [(.long (XT.ushrL z (30 : Int32))), (.long z)])
  refine own_go (fun t k => XT.lxor X0.here hx rfl (hb hby d1_18) rfl k) ?_
  show own_Go p.tables e below _ s₁ (mkF m 19 #[.val (.long q1), .second, .val (.long q2), .second, .val (.long z), .second] [(.long (z ^^^ (XT.ushrL z (30 : Int32))))])
  refine own_go (fun t k => X0.ldc2J hx hown (mvT hZ (hw _ (List.mem_of_getElem? (i := 5) rfl))) rfl (hb hby d1_19) k) ?_
  show own_Go p.tables e below _ s₁ (mkF m 22 #[.val (.long q1), .second, .val (.long q2), .second, .val (.long z), .second] [(.long (-4658895280553007687 : Int64)), (.long (z ^^^ (XT.ushrL z (30 : Int32))))])
  refine own_go (fun t k => XT.lmul X0.here hx rfl (hb hby d1_22) rfl k) ?_
  show own_Go p.tables e below _ s₁ (mkF m 23 #[.val (.long q1), .second, .val (.long q2), .second, .val (.long z), .second] [(.long ((z ^^^ (XT.ushrL z (30 : Int32))) * (-4658895280553007687 : Int64)))])
  show own_Go p.tables e below _ s₁ (mkF m 23 #[.val (.long q1), .second, .val (.long q2), .second, .val (.long z), .second] [(.long (own_m1 z))])
  refine own_go (fun t k => XT.lstore X0.here hx rfl (hb hby d1_23) rfl (l' := #[.val (.long q1), .second, .val (.long q2), .second, .val (.long (own_m1 z)), .second]) rfl k) ?_
  show own_Go p.tables e below _ s₁ (mkF m 25 #[.val (.long q1), .second, .val (.long q2), .second, .val (.long (own_m1 z)), .second] [])
  refine own_go (fun t k => XT.lload X0.here hx rfl (hb hby d1_25) rfl k) ?_
  show own_Go p.tables e below _ s₁ (mkF m 27 #[.val (.long q1), .second, .val (.long q2), .second, .val (.long (own_m1 z)), .second] [(.long (own_m1 z))])
  refine own_go (fun t k => XT.lload X0.here hx rfl (hb hby d1_27) rfl k) ?_
  show own_Go p.tables e below _ s₁ (mkF m 29 #[.val (.long q1), .second, .val (.long q2), .second, .val (.long (own_m1 z)), .second] [(.long (own_m1 z)), (.long (own_m1 z))])
  refine own_go (fun t k => XS.bipush X0.here hx rfl (hb hby d1_29) k) ?_
  show own_Go p.tables e below _ s₁ (mkF m 31 #[.val (.long q1), .second, .val (.long q2), .second, .val (.long (own_m1 z)), .second] [(.int (27 : Int32)), (.long (own_m1 z)), (.long (own_m1 z))])
  refine own_go (fun t k => XT.lushr X0.here hx rfl (hb hby d1_31) rfl k) ?_
  show own_Go p.tables e below _ s₁ (mkF m 32 #[.val (.long q1), .second, .val (.long q2), .second, .val (.long (own_m1 z)), .second] [(.long (XT.ushrL (own_m1 z) (27 : Int32))), (.long (own_m1 z))])
  refine own_go (fun t k => XT.lxor X0.here hx rfl (hb hby d1_32) rfl k) ?_
  show own_Go p.tables e below _ s₁ (mkF m 33 #[.val (.long q1), .second, .val (.long q2), .second, .val (.long (own_m1 z)), .second] [(.long ((own_m1 z) ^^^ (XT.ushrL (own_m1 z) (27 : Int32))))])
  refine own_go (fun t k => X0.ldc2J hx hown (mvT hZ (hw _ (List.mem_of_getElem? (i := 6) rfl))) rfl (hb hby d1_33) k) ?_
  show own_Go p.tables e below _ s₁ (mkF m 36 #[.val (.long q1), .second, .val (.long q2), .second, .val (.long (own_m1 z)), .second] [(.long (-7723592293110705685 : Int64)), (.long ((own_m1 z) ^^^ (XT.ushrL (own_m1 z) (27 : Int32))))])
  refine own_go (fun t k => XT.lmul X0.here hx rfl (hb hby d1_36) rfl k) ?_
  show own_Go p.tables e below _ s₁ (mkF m 37 #[.val (.long q1), .second, .val (.long q2), .second, .val (.long (own_m1 z)), .second] [(.long (((own_m1 z) ^^^ (XT.ushrL (own_m1 z) (27 : Int32))) * (-7723592293110705685 : Int64)))])
  show own_Go p.tables e below _ s₁ (mkF m 37 #[.val (.long q1), .second, .val (.long q2), .second, .val (.long (own_m1 z)), .second] [(.long (own_m2 (own_m1 z)))])
  refine own_go (fun t k => XT.lstore X0.here hx rfl (hb hby d1_37) rfl (l' := #[.val (.long q1), .second, .val (.long q2), .second, .val (.long (own_m2 (own_m1 z))), .second]) rfl k) ?_
  show own_Go p.tables e below _ s₁ (mkF m 39 #[.val (.long q1), .second, .val (.long q2), .second, .val (.long (own_m2 (own_m1 z))), .second] [])
  refine own_go (fun t k => XT.lload X0.here hx rfl (hb hby d1_39) rfl k) ?_
  show own_Go p.tables e below _ s₁ (mkF m 41 #[.val (.long q1), .second, .val (.long q2), .second, .val (.long (own_m2 (own_m1 z))), .second] [(.long (own_m2 (own_m1 z)))])
  refine own_go (fun t k => XT.lload X0.here hx rfl (hb hby d1_41) rfl k) ?_
  show own_Go p.tables e below _ s₁ (mkF m 43 #[.val (.long q1), .second, .val (.long q2), .second, .val (.long (own_m2 (own_m1 z))), .second] [(.long (own_m2 (own_m1 z))), (.long (own_m2 (own_m1 z)))])
  refine own_go (fun t k => XS.bipush X0.here hx rfl (hb hby d1_43) k) ?_
  show own_Go p.tables e below _ s₁ (mkF m 45 #[.val (.long q1), .second, .val (.long q2), .second, .val (.long (own_m2 (own_m1 z))), .second] [(.int (31 : Int32)), (.long (own_m2 (own_m1 z))), (.long (own_m2 (own_m1 z)))])
  refine own_go (fun t k => XT.lushr X0.here hx rfl (hb hby d1_45) rfl k) ?_
  show own_Go p.tables e below _ s₁ (mkF m 46 #[.val (.long q1), .second, .val (.long q2), .second, .val (.long (own_m2 (own_m1 z))), .second] [(.long (XT.ushrL (own_m2 (own_m1 z)) (31 : Int32))), (.long (own_m2 (own_m1 z)))])
  refine own_go (fun t k => XT.lxor X0.here hx rfl (hb hby d1_46) rfl k) ?_
  show own_Go p.tables e below _ s₁ (mkF m 47 #[.val (.long q1), .second, .val (.long q2), .second, .val (.long (own_m2 (own_m1 z))), .second] [(.long ((own_m2 (own_m1 z)) ^^^ (XT.ushrL (own_m2 (own_m1 z)) (31 : Int32))))])
  show own_Go p.tables e below _ s₁ (mkF m 47 #[.val (.long q1), .second, .val (.long q2), .second, .val (.long (own_m2 (own_m1 z))), .second] [(.long (own_m3 (own_m2 (own_m1 z))))])
  obtain ⟨fs, hr, hrun, hended, hW, hsame⟩ := X0.leave (v := some (.long (own_m3 (own_m2 (own_m1 z))))) (fun h => by rw [Bd.returns] at h; cases h)
  refine ⟨_, _, ?_, hrun, hended, _, _, rfl, ?_, ⟨_, rfl⟩, hW, hsame.mono (by decide) (by decide)⟩
  · exact X0.lreturnOut hx Bd.returns (hb hby d1_47) hr
  · show Q1 Z q1 q2 h0 n0 _ s₁.heap _
    rw [e0]
    exact ⟨(by rw [← gz]; rfl), N0, rfl⟩
theorem pd_0 : parseMethodDescriptor "(JJ)J" = some ⟨[.long, .long], some .long⟩ := by decide +kernel
theorem pn_1 : plainName "com/example/trellis/trellis/graph/SplitMix64WordPinLaw" = true := by first | (simp [plainName, overriddenIn]; done) | decide +kernel
theorem ef_0 (m : MethodId) {q1 : Int64} {q2 : Int64} {q3 : Int64} : entryFrame m #[(.long q1), (.long q2), (.long q3)] maxLocals = mkF m 0 #[.val (.long q1), .second, .val (.long q2), .second, .val (.long q3), .second, .unset, .unset, .unset, .unset, .unset, .unset, .unset, .unset] [] := by first | (simp [entryFrame, mkF, argsToLocals, Value.category, maxLocals]; done) | rfl
def Q0 (Z : State) (q1 : Int64) (q2 : Int64) (q3 : Int64) (h0 : Heap) (n0 : Nat) (v : Option Value) (h : Heap) (L : List Loc) : Prop := v = some (.int 1) ∧ Fr n0 L
set_option maxRecDepth 65536 in
set_option maxHeartbeats 40000000 in
theorem rm0 (l : Launch) (Z : State) (a0 : Array Value) (hw : ∀ d ∈ tables_1, d.before a0 Z = true) (ws : List Jvm.Cond) (q1 : Int64) (q2 : Int64) (q3 : Int64) (h0 : Heap) (n0 : Nat) (Z0 : n0 ≤ h0.size) :
    MetFree l x (head1 (Jvm.Cond.code x code maxLocals ret :: ws) room_1) (fun a U => a = #[(.long q1), (.long q2), (.long q3)] ∧ Z.Warmed39 U.vm ∧ U.heap = h0) (fun _ _ _ _ _ => True) (fun _ U o U' => ∃ v L, o = .returned v ∧ Q0 Z q1 q2 q3 h0 n0 v U'.heap L ∧ FrameEnd U o U' L (room_1).cells (room_1).slots) := by
  refine MetFree.of_bodySF (plainFor_of_name pn_1) hisR ?_
  intro p e s m args below meth c s₁ Bd hml0 hP hK
  obtain ⟨rfl, hZ, hh⟩ := hP
  have hx := Bd.exec
  have hby := Bd.bytes
  have hml : c.maxLocals = 14 := hml0
  have hown : s.vm.findClass "com/example/trellis/trellis/graph/SplitMix64WordPinLaw" = some m.cls := findClass_of_methodNamed Bd.named
  have hnm := (name_of_methodNamed Bd.named Bd.method).1
  have X0 : Stand p l e room_1 s m #[(.long q1), (.long q2), (.long q3)] below meth c s₁ [] 0 0 := Stand.of_body Bd
  have e0 : s₁.heap = h0 := by rw [← hh, Bd.state]; rfl
  have N0 := Fr.nil n0
  show own_Go p.tables e below (own_P s (Q0 Z q1 q2 q3 h0 n0) room_1.cells room_1.slots) s₁ _
  rw [ef_0]
  show own_Go p.tables e below _ s₁ (mkF m 0 #[.val (.long q1), .second, .val (.long q2), .second, .val (.long q3), .second, .unset, .unset, .unset, .unset, .unset, .unset, .unset, .unset] [])
  refine own_go (fun t k => XT.lloadN X0.here hx rfl (hb hby at_0) rfl k) ?_
  show own_Go p.tables e below _ s₁ (mkF m 1 #[.val (.long q1), .second, .val (.long q2), .second, .val (.long q3), .second, .unset, .unset, .unset, .unset, .unset, .unset, .unset, .unset] [(.long q1)])
  refine own_go (fun t k => XT.lloadN X0.here hx rfl (hb hby at_1) rfl k) ?_
  show own_Go p.tables e below _ s₁ (mkF m 2 #[.val (.long q1), .second, .val (.long q2), .second, .val (.long q3), .second, .unset, .unset, .unset, .unset, .unset, .unset, .unset, .unset] [(.long q2), (.long q1)])
  obtain ⟨_, _, ⟨T1, L1, k1, n1⟩, -, X1, ⟨Lc1, hQ1, l1, y1, z1⟩, st1⟩ := Jvm.LawKit.callS X0 hx (y := (⟨"com/example/trellis/trellis/graph/SplitMix64", "word", "(JJ)J"⟩ : MethodName)) hown (mvT hZ (hw _ (List.mem_of_getElem? (i := 0) rfl))) (mvT hZ (hw _ (List.mem_of_getElem? (i := 1) rfl))) (mvT hZ (hw _ (List.mem_of_getElem? (i := 2) rfl))) (mvT hZ (hw _ (List.mem_of_getElem? (i := 3) rfl))) (by decide) (backOf (W := 0) (rm1 l Z a0 hw [] q1 q2 h0 n0 Z0) hZ (hw _ (List.mem_of_getElem? (i := 3) rfl)) (hw _ (List.mem_of_getElem? (i := 2) rfl)) (by decide) (by decide)) (g := (mkF m 2 #[.val (.long q1), .second, .val (.long q2), .second, .val (.long q3), .second, .unset, .unset, .unset, .unset, .unset, .unset, .unset, .unset] [(.long q2), (.long q1)])) rfl (by rw [hml]; rfl) (argsL := [(.long q1), (.long q2)]) (rest := []) (lenOf pd_0 rfl) rfl (by show 2 * 0 + _ ≤ _; exact Nat.le_of_eq rfl) (hb hby at_2) (fun _ _ => ⟨rfl, e0, (by decide : 0 + 0 ≤ _), (by decide : 0 + 0 ≤ _)⟩)
  dsimp only [Pt.U, Pt.locs, Pt.cells, Pt.slots] at X1 l1 y1 z1 st1 hQ1
  subst l1 y1 z1
  obtain ⟨rfl, N1q, e1⟩ := hQ1
  have N1 := Fr.app N0 N1q
  refine own_go (fun t k => st1 t k) ?_
  show own_Go p.tables e below _ T1 (mkF m 5 #[.val (.long q1), .second, .val (.long q2), .second, .val (.long q3), .second, .unset, .unset, .unset, .unset, .unset, .unset, .unset, .unset] [(.long (own_word q1 q2))])
  refine own_go (fun t k => XT.lstore X1.here hx rfl (hb hby at_5) rfl (l' := #[.val (.long q1), .second, .val (.long q2), .second, .val (.long q3), .second, .val (.long (own_word q1 q2)), .second, .unset, .unset, .unset, .unset, .unset, .unset]) rfl k) ?_
  show own_Go p.tables e below _ T1 (mkF m 7 #[.val (.long q1), .second, .val (.long q2), .second, .val (.long q3), .second, .val (.long (own_word q1 q2)), .second, .unset, .unset, .unset, .unset, .unset, .unset] [])
  refine own_go (fun t k => XT.lloadN X1.here hx rfl (hb hby at_7) rfl k) ?_
  show own_Go p.tables e below _ T1 (mkF m 8 #[.val (.long q1), .second, .val (.long q2), .second, .val (.long q3), .second, .val (.long (own_word q1 q2)), .second, .unset, .unset, .unset, .unset, .unset, .unset] [(.long q1)])
  refine own_go (fun t k => XT.lloadN X1.here hx rfl (hb hby at_8) rfl k) ?_
  show own_Go p.tables e below _ T1 (mkF m 9 #[.val (.long q1), .second, .val (.long q2), .second, .val (.long q3), .second, .val (.long (own_word q1 q2)), .second, .unset, .unset, .unset, .unset, .unset, .unset] [(.long q2), (.long q1)])
  refine own_go (fun t k => XT.lload X1.here hx rfl (hb hby at_9) rfl k) ?_
  show own_Go p.tables e below _ T1 (mkF m 11 #[.val (.long q1), .second, .val (.long q2), .second, .val (.long q3), .second, .val (.long (own_word q1 q2)), .second, .unset, .unset, .unset, .unset, .unset, .unset] [(.long q3), (.long q2), (.long q1)])
  refine own_go (fun t k => XT.ladd X1.here hx rfl (hb hby at_11) rfl k) ?_
  show own_Go p.tables e below _ T1 (mkF m 12 #[.val (.long q1), .second, .val (.long q2), .second, .val (.long q3), .second, .val (.long (own_word q1 q2)), .second, .unset, .unset, .unset, .unset, .unset, .unset] [(.long (q2 + q3)), (.long q1)])
  obtain ⟨_, _, ⟨T2, L2, k2, n2⟩, -, X2, ⟨Lc2, hQ2, l2, y2, z2⟩, st2⟩ := Jvm.LawKit.callS X1 hx (y := (⟨"com/example/trellis/trellis/graph/SplitMix64", "word", "(JJ)J"⟩ : MethodName)) hown (mvT hZ (hw _ (List.mem_of_getElem? (i := 0) rfl))) (mvT hZ (hw _ (List.mem_of_getElem? (i := 1) rfl))) (mvT hZ (hw _ (List.mem_of_getElem? (i := 2) rfl))) (mvT hZ (hw _ (List.mem_of_getElem? (i := 3) rfl))) (by decide) (backOf (W := 0) (rm1 l Z a0 hw [] q1 (q2 + q3) h0 n0 Z0) hZ (hw _ (List.mem_of_getElem? (i := 3) rfl)) (hw _ (List.mem_of_getElem? (i := 2) rfl)) (by decide) (by decide)) (g := (mkF m 12 #[.val (.long q1), .second, .val (.long q2), .second, .val (.long q3), .second, .val (.long (own_word q1 q2)), .second, .unset, .unset, .unset, .unset, .unset, .unset] [(.long (q2 + q3)), (.long q1)])) rfl (by rw [hml]; rfl) (argsL := [(.long q1), (.long (q2 + q3))]) (rest := []) (lenOf pd_0 rfl) rfl (by show 2 * 0 + _ ≤ _; exact Nat.le_of_eq rfl) (hb hby at_12) (fun _ _ => ⟨rfl, e1, (by decide : 0 + 0 ≤ _), (by decide : 0 + 0 ≤ _)⟩)
  dsimp only [Pt.U, Pt.locs, Pt.cells, Pt.slots] at X2 l2 y2 z2 st2 hQ2
  subst l2 y2 z2
  obtain ⟨rfl, N2q, e2⟩ := hQ2
  have N2 := Fr.app N1 N2q
  refine own_go (fun t k => st2 t k) ?_
  show own_Go p.tables e below _ T2 (mkF m 15 #[.val (.long q1), .second, .val (.long q2), .second, .val (.long q3), .second, .val (.long (own_word q1 q2)), .second, .unset, .unset, .unset, .unset, .unset, .unset] [(.long (own_word q1 (q2 + q3)))])
  refine own_go (fun t k => XT.lloadN X2.here hx rfl (hb hby at_15) rfl k) ?_
  show own_Go p.tables e below _ T2 (mkF m 16 #[.val (.long q1), .second, .val (.long q2), .second, .val (.long q3), .second, .val (.long (own_word q1 q2)), .second, .unset, .unset, .unset, .unset, .unset, .unset] [(.long q1), (.long (own_word q1 (q2 + q3)))])
  refine own_go (fun t k => XT.lload X2.here hx rfl (hb hby at_16) rfl k) ?_
  show own_Go p.tables e below _ T2 (mkF m 18 #[.val (.long q1), .second, .val (.long q2), .second, .val (.long q3), .second, .val (.long (own_word q1 q2)), .second, .unset, .unset, .unset, .unset, .unset, .unset] [(.long q3), (.long q1), (.long (own_word q1 (q2 + q3)))])
  refine own_go (fun t k => X2.ldc2J hx hown (mvT hZ (hw _ (List.mem_of_getElem? (i := 7) rfl))) rfl (hb hby at_18) k) ?_
  show own_Go p.tables e below _ T2 (mkF m 21 #[.val (.long q1), .second, .val (.long q2), .second, .val (.long q3), .second, .val (.long (own_word q1 q2)), .second, .unset, .unset, .unset, .unset, .unset, .unset] [(.long (-7046029254386353131 : Int64)), (.long q3), (.long q1), (.long (own_word q1 (q2 + q3)))])
  refine own_go (fun t k => XT.lmul X2.here hx rfl (hb hby at_21) rfl k) ?_
  show own_Go p.tables e below _ T2 (mkF m 22 #[.val (.long q1), .second, .val (.long q2), .second, .val (.long q3), .second, .val (.long (own_word q1 q2)), .second, .unset, .unset, .unset, .unset, .unset, .unset] [(.long (q3 * (-7046029254386353131 : Int64))), (.long q1), (.long (own_word q1 (q2 + q3)))])
  refine own_go (fun t k => XT.ladd X2.here hx rfl (hb hby at_22) rfl k) ?_
  show own_Go p.tables e below _ T2 (mkF m 23 #[.val (.long q1), .second, .val (.long q2), .second, .val (.long q3), .second, .val (.long (own_word q1 q2)), .second, .unset, .unset, .unset, .unset, .unset, .unset] [(.long (q1 + (q3 * (-7046029254386353131 : Int64)))), (.long (own_word q1 (q2 + q3)))])
  refine own_go (fun t k => XT.lloadN X2.here hx rfl (hb hby at_23) rfl k) ?_
  show own_Go p.tables e below _ T2 (mkF m 24 #[.val (.long q1), .second, .val (.long q2), .second, .val (.long q3), .second, .val (.long (own_word q1 q2)), .second, .unset, .unset, .unset, .unset, .unset, .unset] [(.long q2), (.long (q1 + (q3 * (-7046029254386353131 : Int64)))), (.long (own_word q1 (q2 + q3)))])
  obtain ⟨_, _, ⟨T3, L3, k3, n3⟩, -, X3, ⟨Lc3, hQ3, l3, y3, z3⟩, st3⟩ := Jvm.LawKit.callS X2 hx (y := (⟨"com/example/trellis/trellis/graph/SplitMix64", "word", "(JJ)J"⟩ : MethodName)) hown (mvT hZ (hw _ (List.mem_of_getElem? (i := 0) rfl))) (mvT hZ (hw _ (List.mem_of_getElem? (i := 1) rfl))) (mvT hZ (hw _ (List.mem_of_getElem? (i := 2) rfl))) (mvT hZ (hw _ (List.mem_of_getElem? (i := 3) rfl))) (by decide) (backOf (W := 2) (rm1 l Z a0 hw [] (q1 + (q3 * (-7046029254386353131 : Int64))) q2 h0 n0 Z0) hZ (hw _ (List.mem_of_getElem? (i := 3) rfl)) (hw _ (List.mem_of_getElem? (i := 2) rfl)) (by decide) (by decide)) (g := (mkF m 24 #[.val (.long q1), .second, .val (.long q2), .second, .val (.long q3), .second, .val (.long (own_word q1 q2)), .second, .unset, .unset, .unset, .unset, .unset, .unset] [(.long q2), (.long (q1 + (q3 * (-7046029254386353131 : Int64)))), (.long (own_word q1 (q2 + q3)))])) rfl (by rw [hml]; rfl) (argsL := [(.long (q1 + (q3 * (-7046029254386353131 : Int64)))), (.long q2)]) (rest := [(.long (own_word q1 (q2 + q3)))]) (lenOf pd_0 rfl) rfl (by show 2 * 0 + _ ≤ _; exact Nat.le_of_eq rfl) (hb hby at_24) (fun _ _ => ⟨rfl, e2, (by decide : 0 + 0 ≤ _), (by decide : 0 + 0 ≤ _)⟩)
  dsimp only [Pt.U, Pt.locs, Pt.cells, Pt.slots] at X3 l3 y3 z3 st3 hQ3
  subst l3 y3 z3
  obtain ⟨rfl, N3q, e3⟩ := hQ3
  have N3 := Fr.app N2 N3q
  refine own_go (fun t k => st3 t k) ?_
  show own_Go p.tables e below _ T3 (mkF m 27 #[.val (.long q1), .second, .val (.long q2), .second, .val (.long q3), .second, .val (.long (own_word q1 q2)), .second, .unset, .unset, .unset, .unset, .unset, .unset] [(.long (own_word (q1 + (q3 * (-7046029254386353131 : Int64))) q2)), (.long (own_word q1 (q2 + q3)))])
  refine own_go (fun t k => XT.lcmp X3.here hx rfl (hb hby at_27) rfl k) ?_
  show own_Go p.tables e below _ T3 (mkF m 28 #[.val (.long q1), .second, .val (.long q2), .second, .val (.long q3), .second, .val (.long (own_word q1 q2)), .second, .unset, .unset, .unset, .unset, .unset, .unset] [(.int (XT.cmpL (own_word q1 (q2 + q3)) (own_word (q1 + (q3 * (-7046029254386353131 : Int64))) q2)))])
  refine own_go (fun t k => XS.ifNo X3.here hx rfl (hb hby at_28) rfl (XT.ll_ne_f (own_shift q1 q2 q3)) k) ?_
  show own_Go p.tables e below _ T3 (mkF m 31 #[.val (.long q1), .second, .val (.long q2), .second, .val (.long q3), .second, .val (.long (own_word q1 q2)), .second, .unset, .unset, .unset, .unset, .unset, .unset] [])
  refine own_go (fun t k => XS.iconst X3.here hx rfl (hb hby at_31) k) ?_
  show own_Go p.tables e below _ T3 (mkF m 32 #[.val (.long q1), .second, .val (.long q2), .second, .val (.long q3), .second, .val (.long (own_word q1 q2)), .second, .unset, .unset, .unset, .unset, .unset, .unset] [(.int (1 : Int32))])
  refine own_go (fun t k => XS.goto X3.here hx rfl (pc0 := 32) (pc' := 36) rfl (hb hby at_32) (by decide) (by decide) k) ?_
  show own_Go p.tables e below _ T3 (mkF m 36 #[.val (.long q1), .second, .val (.long q2), .second, .val (.long q3), .second, .val (.long (own_word q1 q2)), .second, .unset, .unset, .unset, .unset, .unset, .unset] [(.int (1 : Int32))])
  refine own_go (fun t k => XS.istore X3.here hx rfl (hb hby at_36) rfl (l' := #[.val (.long q1), .second, .val (.long q2), .second, .val (.long q3), .second, .val (.long (own_word q1 q2)), .second, .val (.int (1 : Int32)), .unset, .unset, .unset, .unset, .unset]) rfl k) ?_
  show own_Go p.tables e below _ T3 (mkF m 38 #[.val (.long q1), .second, .val (.long q2), .second, .val (.long q3), .second, .val (.long (own_word q1 q2)), .second, .val (.int (1 : Int32)), .unset, .unset, .unset, .unset, .unset] [])
  refine own_go (fun t k => XT.lloadN X3.here hx rfl (hb hby at_38) rfl k) ?_
  show own_Go p.tables e below _ T3 (mkF m 39 #[.val (.long q1), .second, .val (.long q2), .second, .val (.long q3), .second, .val (.long (own_word q1 q2)), .second, .val (.int (1 : Int32)), .unset, .unset, .unset, .unset, .unset] [(.long q2)])
  refine own_go (fun t k => XT.lconst X3.here hx rfl (hb hby at_39) k) ?_
  show own_Go p.tables e below _ T3 (mkF m 40 #[.val (.long q1), .second, .val (.long q2), .second, .val (.long q3), .second, .val (.long (own_word q1 q2)), .second, .val (.int (1 : Int32)), .unset, .unset, .unset, .unset, .unset] [(.long (1 : Int64)), (.long q2)])
  refine own_go (fun t k => XT.ladd X3.here hx rfl (hb hby at_40) rfl k) ?_
  show own_Go p.tables e below _ T3 (mkF m 41 #[.val (.long q1), .second, .val (.long q2), .second, .val (.long q3), .second, .val (.long (own_word q1 q2)), .second, .val (.int (1 : Int32)), .unset, .unset, .unset, .unset, .unset] [(.long (q2 + (1 : Int64)))])
  refine own_go (fun t k => X3.ldc2J hx hown (mvT hZ (hw _ (List.mem_of_getElem? (i := 7) rfl))) rfl (hb hby at_41) k) ?_
  show own_Go p.tables e below _ T3 (mkF m 44 #[.val (.long q1), .second, .val (.long q2), .second, .val (.long q3), .second, .val (.long (own_word q1 q2)), .second, .val (.int (1 : Int32)), .unset, .unset, .unset, .unset, .unset] [(.long (-7046029254386353131 : Int64)), (.long (q2 + (1 : Int64)))])
  refine own_go (fun t k => XT.lmul X3.here hx rfl (hb hby at_44) rfl k) ?_
  show own_Go p.tables e below _ T3 (mkF m 45 #[.val (.long q1), .second, .val (.long q2), .second, .val (.long q3), .second, .val (.long (own_word q1 q2)), .second, .val (.int (1 : Int32)), .unset, .unset, .unset, .unset, .unset] [(.long ((q2 + (1 : Int64)) * (-7046029254386353131 : Int64)))])
  refine own_go (fun t k => XT.lneg X3.here hx rfl (hb hby at_45) rfl k) ?_
  show own_Go p.tables e below _ T3 (mkF m 46 #[.val (.long q1), .second, .val (.long q2), .second, .val (.long q3), .second, .val (.long (own_word q1 q2)), .second, .val (.int (1 : Int32)), .unset, .unset, .unset, .unset, .unset] [(.long (-((q2 + (1 : Int64)) * (-7046029254386353131 : Int64))))])
  refine own_go (fun t k => XT.lloadN X3.here hx rfl (hb hby at_46) rfl k) ?_
  show own_Go p.tables e below _ T3 (mkF m 47 #[.val (.long q1), .second, .val (.long q2), .second, .val (.long q3), .second, .val (.long (own_word q1 q2)), .second, .val (.int (1 : Int32)), .unset, .unset, .unset, .unset, .unset] [(.long q2), (.long (-((q2 + (1 : Int64)) * (-7046029254386353131 : Int64))))])
  obtain ⟨_, _, ⟨T4, L4, k4, n4⟩, -, X4, ⟨Lc4, hQ4, l4, y4, z4⟩, st4⟩ := Jvm.LawKit.callS X3 hx (y := (⟨"com/example/trellis/trellis/graph/SplitMix64", "word", "(JJ)J"⟩ : MethodName)) hown (mvT hZ (hw _ (List.mem_of_getElem? (i := 0) rfl))) (mvT hZ (hw _ (List.mem_of_getElem? (i := 1) rfl))) (mvT hZ (hw _ (List.mem_of_getElem? (i := 2) rfl))) (mvT hZ (hw _ (List.mem_of_getElem? (i := 3) rfl))) (by decide) (backOf (W := 0) (rm1 l Z a0 hw [] (-((q2 + (1 : Int64)) * (-7046029254386353131 : Int64))) q2 h0 n0 Z0) hZ (hw _ (List.mem_of_getElem? (i := 3) rfl)) (hw _ (List.mem_of_getElem? (i := 2) rfl)) (by decide) (by decide)) (g := (mkF m 47 #[.val (.long q1), .second, .val (.long q2), .second, .val (.long q3), .second, .val (.long (own_word q1 q2)), .second, .val (.int (1 : Int32)), .unset, .unset, .unset, .unset, .unset] [(.long q2), (.long (-((q2 + (1 : Int64)) * (-7046029254386353131 : Int64))))])) rfl (by rw [hml]; rfl) (argsL := [(.long (-((q2 + (1 : Int64)) * (-7046029254386353131 : Int64)))), (.long q2)]) (rest := []) (lenOf pd_0 rfl) rfl (by show 2 * 0 + _ ≤ _; exact Nat.le_of_eq rfl) (hb hby at_47) (fun _ _ => ⟨rfl, e3, (by decide : 0 + 0 ≤ _), (by decide : 0 + 0 ≤ _)⟩)
  dsimp only [Pt.U, Pt.locs, Pt.cells, Pt.slots] at X4 l4 y4 z4 st4 hQ4
  subst l4 y4 z4
  obtain ⟨rfl, N4q, e4⟩ := hQ4
  have N4 := Fr.app N3 N4q
  refine own_go (fun t k => st4 t k) ?_
  show own_Go p.tables e below _ T4 (mkF m 50 #[.val (.long q1), .second, .val (.long q2), .second, .val (.long q3), .second, .val (.long (own_word q1 q2)), .second, .val (.int (1 : Int32)), .unset, .unset, .unset, .unset, .unset] [(.long (own_word (-((q2 + (1 : Int64)) * (-7046029254386353131 : Int64))) q2))])
  refine own_go (fun t k => XT.lconst X4.here hx rfl (hb hby at_50) k) ?_
  show own_Go p.tables e below _ T4 (mkF m 51 #[.val (.long q1), .second, .val (.long q2), .second, .val (.long q3), .second, .val (.long (own_word q1 q2)), .second, .val (.int (1 : Int32)), .unset, .unset, .unset, .unset, .unset] [(.long (0 : Int64)), (.long (own_word (-((q2 + (1 : Int64)) * (-7046029254386353131 : Int64))) q2))])
  refine own_go (fun t k => XT.lcmp X4.here hx rfl (hb hby at_51) rfl k) ?_
  show own_Go p.tables e below _ T4 (mkF m 52 #[.val (.long q1), .second, .val (.long q2), .second, .val (.long q3), .second, .val (.long (own_word q1 q2)), .second, .val (.int (1 : Int32)), .unset, .unset, .unset, .unset, .unset] [(.int (XT.cmpL (own_word (-((q2 + (1 : Int64)) * (-7046029254386353131 : Int64))) q2) (0 : Int64)))])
  refine own_go (fun t k => XS.ifNo X4.here hx rfl (hb hby at_52) rfl (XT.ll_ne_f (own_zero q2)) k) ?_
  show own_Go p.tables e below _ T4 (mkF m 55 #[.val (.long q1), .second, .val (.long q2), .second, .val (.long q3), .second, .val (.long (own_word q1 q2)), .second, .val (.int (1 : Int32)), .unset, .unset, .unset, .unset, .unset] [])
  refine own_go (fun t k => XS.iconst X4.here hx rfl (hb hby at_55) k) ?_
  show own_Go p.tables e below _ T4 (mkF m 56 #[.val (.long q1), .second, .val (.long q2), .second, .val (.long q3), .second, .val (.long (own_word q1 q2)), .second, .val (.int (1 : Int32)), .unset, .unset, .unset, .unset, .unset] [(.int (1 : Int32))])
  refine own_go (fun t k => XS.goto X4.here hx rfl (pc0 := 56) (pc' := 60) rfl (hb hby at_56) (by decide) (by decide) k) ?_
  show own_Go p.tables e below _ T4 (mkF m 60 #[.val (.long q1), .second, .val (.long q2), .second, .val (.long q3), .second, .val (.long (own_word q1 q2)), .second, .val (.int (1 : Int32)), .unset, .unset, .unset, .unset, .unset] [(.int (1 : Int32))])
  refine own_go (fun t k => XS.istore X4.here hx rfl (hb hby at_60) rfl (l' := #[.val (.long q1), .second, .val (.long q2), .second, .val (.long q3), .second, .val (.long (own_word q1 q2)), .second, .val (.int (1 : Int32)), .val (.int (1 : Int32)), .unset, .unset, .unset, .unset]) rfl k) ?_
  show own_Go p.tables e below _ T4 (mkF m 62 #[.val (.long q1), .second, .val (.long q2), .second, .val (.long q3), .second, .val (.long (own_word q1 q2)), .second, .val (.int (1 : Int32)), .val (.int (1 : Int32)), .unset, .unset, .unset, .unset] [])
  refine own_go (fun t k => XT.lloadN X4.here hx rfl (hb hby at_62) rfl k) ?_
  show own_Go p.tables e below _ T4 (mkF m 63 #[.val (.long q1), .second, .val (.long q2), .second, .val (.long q3), .second, .val (.long (own_word q1 q2)), .second, .val (.int (1 : Int32)), .val (.int (1 : Int32)), .unset, .unset, .unset, .unset] [(.long q1)])
  refine own_go (fun t k => XT.lconst X4.here hx rfl (hb hby at_63) k) ?_
  show own_Go p.tables e below _ T4 (mkF m 64 #[.val (.long q1), .second, .val (.long q2), .second, .val (.long q3), .second, .val (.long (own_word q1 q2)), .second, .val (.int (1 : Int32)), .val (.int (1 : Int32)), .unset, .unset, .unset, .unset] [(.long (1 : Int64)), (.long q1)])
  refine own_go (fun t k => XT.lload X4.here hx rfl (hb hby at_64) rfl k) ?_
  show own_Go p.tables e below _ T4 (mkF m 66 #[.val (.long q1), .second, .val (.long q2), .second, .val (.long q3), .second, .val (.long (own_word q1 q2)), .second, .val (.int (1 : Int32)), .val (.int (1 : Int32)), .unset, .unset, .unset, .unset] [(.long q3), (.long (1 : Int64)), (.long q1)])
  refine own_go (fun t k => X4.ldc2J hx hown (mvT hZ (hw _ (List.mem_of_getElem? (i := 8) rfl))) rfl (hb hby at_66) k) ?_
  show own_Go p.tables e below _ T4 (mkF m 69 #[.val (.long q1), .second, .val (.long q2), .second, .val (.long q3), .second, .val (.long (own_word q1 q2)), .second, .val (.int (1 : Int32)), .val (.int (1 : Int32)), .unset, .unset, .unset, .unset] [(.long (63 : Int64)), (.long q3), (.long (1 : Int64)), (.long q1)])
  refine own_go (fun t k => XT.land X4.here hx rfl (hb hby at_69) rfl k) ?_
  show own_Go p.tables e below _ T4 (mkF m 70 #[.val (.long q1), .second, .val (.long q2), .second, .val (.long q3), .second, .val (.long (own_word q1 q2)), .second, .val (.int (1 : Int32)), .val (.int (1 : Int32)), .unset, .unset, .unset, .unset] [(.long (q3 &&& (63 : Int64))), (.long (1 : Int64)), (.long q1)])
  refine own_go (fun t k => XT.l2i X4.here hx rfl (hb hby at_70) rfl k) ?_
  show own_Go p.tables e below _ T4 (mkF m 71 #[.val (.long q1), .second, .val (.long q2), .second, .val (.long q3), .second, .val (.long (own_word q1 q2)), .second, .val (.int (1 : Int32)), .val (.int (1 : Int32)), .unset, .unset, .unset, .unset] [(.int (q3 &&& (63 : Int64)).toInt32), (.long (1 : Int64)), (.long q1)])
  refine own_go (fun t k => XT.lshl X4.here hx rfl (hb hby at_71) rfl k) ?_
  show own_Go p.tables e below _ T4 (mkF m 72 #[.val (.long q1), .second, .val (.long q2), .second, .val (.long q3), .second, .val (.long (own_word q1 q2)), .second, .val (.int (1 : Int32)), .val (.int (1 : Int32)), .unset, .unset, .unset, .unset] [(.long ((1 : Int64) <<< ((q3 &&& (63 : Int64)).toInt32.toInt64 &&& 63))), (.long q1)])
  refine own_go (fun t k => XT.lxor X4.here hx rfl (hb hby at_72) rfl k) ?_
  show own_Go p.tables e below _ T4 (mkF m 73 #[.val (.long q1), .second, .val (.long q2), .second, .val (.long q3), .second, .val (.long (own_word q1 q2)), .second, .val (.int (1 : Int32)), .val (.int (1 : Int32)), .unset, .unset, .unset, .unset] [(.long (q1 ^^^ ((1 : Int64) <<< ((q3 &&& (63 : Int64)).toInt32.toInt64 &&& 63))))])
  refine own_go (fun t k => XT.lstore X4.here hx rfl (hb hby at_73) rfl (l' := #[.val (.long q1), .second, .val (.long q2), .second, .val (.long q3), .second, .val (.long (own_word q1 q2)), .second, .val (.int (1 : Int32)), .val (.int (1 : Int32)), .val (.long (q1 ^^^ ((1 : Int64) <<< ((q3 &&& (63 : Int64)).toInt32.toInt64 &&& 63)))), .second, .unset, .unset]) rfl k) ?_
  show own_Go p.tables e below _ T4 (mkF m 75 #[.val (.long q1), .second, .val (.long q2), .second, .val (.long q3), .second, .val (.long (own_word q1 q2)), .second, .val (.int (1 : Int32)), .val (.int (1 : Int32)), .val (.long (q1 ^^^ ((1 : Int64) <<< ((q3 &&& (63 : Int64)).toInt32.toInt64 &&& 63)))), .second, .unset, .unset] [])
  refine own_go (fun t k => XT.lload X4.here hx rfl (hb hby at_75) rfl k) ?_
  show own_Go p.tables e below _ T4 (mkF m 77 #[.val (.long q1), .second, .val (.long q2), .second, .val (.long q3), .second, .val (.long (own_word q1 q2)), .second, .val (.int (1 : Int32)), .val (.int (1 : Int32)), .val (.long (q1 ^^^ ((1 : Int64) <<< ((q3 &&& (63 : Int64)).toInt32.toInt64 &&& 63)))), .second, .unset, .unset] [(.long (q1 ^^^ ((1 : Int64) <<< ((q3 &&& (63 : Int64)).toInt32.toInt64 &&& 63))))])
  refine own_go (fun t k => XT.lloadN X4.here hx rfl (hb hby at_77) rfl k) ?_
  show own_Go p.tables e below _ T4 (mkF m 78 #[.val (.long q1), .second, .val (.long q2), .second, .val (.long q3), .second, .val (.long (own_word q1 q2)), .second, .val (.int (1 : Int32)), .val (.int (1 : Int32)), .val (.long (q1 ^^^ ((1 : Int64) <<< ((q3 &&& (63 : Int64)).toInt32.toInt64 &&& 63)))), .second, .unset, .unset] [(.long q2), (.long (q1 ^^^ ((1 : Int64) <<< ((q3 &&& (63 : Int64)).toInt32.toInt64 &&& 63))))])
  obtain ⟨_, _, ⟨T5, L5, k5, n5⟩, -, X5, ⟨Lc5, hQ5, l5, y5, z5⟩, st5⟩ := Jvm.LawKit.callS X4 hx (y := (⟨"com/example/trellis/trellis/graph/SplitMix64", "word", "(JJ)J"⟩ : MethodName)) hown (mvT hZ (hw _ (List.mem_of_getElem? (i := 0) rfl))) (mvT hZ (hw _ (List.mem_of_getElem? (i := 1) rfl))) (mvT hZ (hw _ (List.mem_of_getElem? (i := 2) rfl))) (mvT hZ (hw _ (List.mem_of_getElem? (i := 3) rfl))) (by decide) (backOf (W := 0) (rm1 l Z a0 hw [] (q1 ^^^ ((1 : Int64) <<< ((q3 &&& (63 : Int64)).toInt32.toInt64 &&& 63))) q2 h0 n0 Z0) hZ (hw _ (List.mem_of_getElem? (i := 3) rfl)) (hw _ (List.mem_of_getElem? (i := 2) rfl)) (by decide) (by decide)) (g := (mkF m 78 #[.val (.long q1), .second, .val (.long q2), .second, .val (.long q3), .second, .val (.long (own_word q1 q2)), .second, .val (.int (1 : Int32)), .val (.int (1 : Int32)), .val (.long (q1 ^^^ ((1 : Int64) <<< ((q3 &&& (63 : Int64)).toInt32.toInt64 &&& 63)))), .second, .unset, .unset] [(.long q2), (.long (q1 ^^^ ((1 : Int64) <<< ((q3 &&& (63 : Int64)).toInt32.toInt64 &&& 63))))])) rfl (by rw [hml]; rfl) (argsL := [(.long (q1 ^^^ ((1 : Int64) <<< ((q3 &&& (63 : Int64)).toInt32.toInt64 &&& 63)))), (.long q2)]) (rest := []) (lenOf pd_0 rfl) rfl (by show 2 * 0 + _ ≤ _; exact Nat.le_of_eq rfl) (hb hby at_78) (fun _ _ => ⟨rfl, e4, (by decide : 0 + 0 ≤ _), (by decide : 0 + 0 ≤ _)⟩)
  dsimp only [Pt.U, Pt.locs, Pt.cells, Pt.slots] at X5 l5 y5 z5 st5 hQ5
  subst l5 y5 z5
  obtain ⟨rfl, N5q, e5⟩ := hQ5
  have N5 := Fr.app N4 N5q
  refine own_go (fun t k => st5 t k) ?_
  show own_Go p.tables e below _ T5 (mkF m 81 #[.val (.long q1), .second, .val (.long q2), .second, .val (.long q3), .second, .val (.long (own_word q1 q2)), .second, .val (.int (1 : Int32)), .val (.int (1 : Int32)), .val (.long (q1 ^^^ ((1 : Int64) <<< ((q3 &&& (63 : Int64)).toInt32.toInt64 &&& 63)))), .second, .unset, .unset] [(.long (own_word (q1 ^^^ ((1 : Int64) <<< ((q3 &&& (63 : Int64)).toInt32.toInt64 &&& 63))) q2))])
  refine own_go (fun t k => XT.lload X5.here hx rfl (hb hby at_81) rfl k) ?_
  show own_Go p.tables e below _ T5 (mkF m 83 #[.val (.long q1), .second, .val (.long q2), .second, .val (.long q3), .second, .val (.long (own_word q1 q2)), .second, .val (.int (1 : Int32)), .val (.int (1 : Int32)), .val (.long (q1 ^^^ ((1 : Int64) <<< ((q3 &&& (63 : Int64)).toInt32.toInt64 &&& 63)))), .second, .unset, .unset] [(.long (own_word q1 q2)), (.long (own_word (q1 ^^^ ((1 : Int64) <<< ((q3 &&& (63 : Int64)).toInt32.toInt64 &&& 63))) q2))])
  refine own_go (fun t k => XT.lcmp X5.here hx rfl (hb hby at_83) rfl k) ?_
  show own_Go p.tables e below _ T5 (mkF m 84 #[.val (.long q1), .second, .val (.long q2), .second, .val (.long q3), .second, .val (.long (own_word q1 q2)), .second, .val (.int (1 : Int32)), .val (.int (1 : Int32)), .val (.long (q1 ^^^ ((1 : Int64) <<< ((q3 &&& (63 : Int64)).toInt32.toInt64 &&& 63)))), .second, .unset, .unset] [(.int (XT.cmpL (own_word (q1 ^^^ ((1 : Int64) <<< ((q3 &&& (63 : Int64)).toInt32.toInt64 &&& 63))) q2) (own_word q1 q2)))])
  refine own_go (fun t k => XS.ifNo X5.here hx rfl (hb hby at_84) rfl (XT.ll_eq_f (own_flip q1 _ q2)) k) ?_
  show own_Go p.tables e below _ T5 (mkF m 87 #[.val (.long q1), .second, .val (.long q2), .second, .val (.long q3), .second, .val (.long (own_word q1 q2)), .second, .val (.int (1 : Int32)), .val (.int (1 : Int32)), .val (.long (q1 ^^^ ((1 : Int64) <<< ((q3 &&& (63 : Int64)).toInt32.toInt64 &&& 63)))), .second, .unset, .unset] [])
  refine own_go (fun t k => XS.iconst X5.here hx rfl (hb hby at_87) k) ?_
  show own_Go p.tables e below _ T5 (mkF m 88 #[.val (.long q1), .second, .val (.long q2), .second, .val (.long q3), .second, .val (.long (own_word q1 q2)), .second, .val (.int (1 : Int32)), .val (.int (1 : Int32)), .val (.long (q1 ^^^ ((1 : Int64) <<< ((q3 &&& (63 : Int64)).toInt32.toInt64 &&& 63)))), .second, .unset, .unset] [(.int (1 : Int32))])
  refine own_go (fun t k => XS.goto X5.here hx rfl (pc0 := 88) (pc' := 92) rfl (hb hby at_88) (by decide) (by decide) k) ?_
  show own_Go p.tables e below _ T5 (mkF m 92 #[.val (.long q1), .second, .val (.long q2), .second, .val (.long q3), .second, .val (.long (own_word q1 q2)), .second, .val (.int (1 : Int32)), .val (.int (1 : Int32)), .val (.long (q1 ^^^ ((1 : Int64) <<< ((q3 &&& (63 : Int64)).toInt32.toInt64 &&& 63)))), .second, .unset, .unset] [(.int (1 : Int32))])
  refine own_go (fun t k => XS.istore X5.here hx rfl (hb hby at_92) rfl (l' := #[.val (.long q1), .second, .val (.long q2), .second, .val (.long q3), .second, .val (.long (own_word q1 q2)), .second, .val (.int (1 : Int32)), .val (.int (1 : Int32)), .val (.long (q1 ^^^ ((1 : Int64) <<< ((q3 &&& (63 : Int64)).toInt32.toInt64 &&& 63)))), .second, .val (.int (1 : Int32)), .unset]) rfl k) ?_
  show own_Go p.tables e below _ T5 (mkF m 94 #[.val (.long q1), .second, .val (.long q2), .second, .val (.long q3), .second, .val (.long (own_word q1 q2)), .second, .val (.int (1 : Int32)), .val (.int (1 : Int32)), .val (.long (q1 ^^^ ((1 : Int64) <<< ((q3 &&& (63 : Int64)).toInt32.toInt64 &&& 63)))), .second, .val (.int (1 : Int32)), .unset] [])
  refine own_go (fun t k => XT.lconst X5.here hx rfl (hb hby at_94) k) ?_
  show own_Go p.tables e below _ T5 (mkF m 95 #[.val (.long q1), .second, .val (.long q2), .second, .val (.long q3), .second, .val (.long (own_word q1 q2)), .second, .val (.int (1 : Int32)), .val (.int (1 : Int32)), .val (.long (q1 ^^^ ((1 : Int64) <<< ((q3 &&& (63 : Int64)).toInt32.toInt64 &&& 63)))), .second, .val (.int (1 : Int32)), .unset] [(.long (0 : Int64))])
  refine own_go (fun t k => XT.lconst X5.here hx rfl (hb hby at_95) k) ?_
  show own_Go p.tables e below _ T5 (mkF m 96 #[.val (.long q1), .second, .val (.long q2), .second, .val (.long q3), .second, .val (.long (own_word q1 q2)), .second, .val (.int (1 : Int32)), .val (.int (1 : Int32)), .val (.long (q1 ^^^ ((1 : Int64) <<< ((q3 &&& (63 : Int64)).toInt32.toInt64 &&& 63)))), .second, .val (.int (1 : Int32)), .unset] [(.long (0 : Int64)), (.long (0 : Int64))])
  obtain ⟨_, _, ⟨T6, L6, k6, n6⟩, -, X6, ⟨Lc6, hQ6, l6, y6, z6⟩, st6⟩ := Jvm.LawKit.callS X5 hx (y := (⟨"com/example/trellis/trellis/graph/SplitMix64", "word", "(JJ)J"⟩ : MethodName)) hown (mvT hZ (hw _ (List.mem_of_getElem? (i := 0) rfl))) (mvT hZ (hw _ (List.mem_of_getElem? (i := 1) rfl))) (mvT hZ (hw _ (List.mem_of_getElem? (i := 2) rfl))) (mvT hZ (hw _ (List.mem_of_getElem? (i := 3) rfl))) (by decide) (backOf (W := 0) (rm1 l Z a0 hw [] (0 : Int64) (0 : Int64) h0 n0 Z0) hZ (hw _ (List.mem_of_getElem? (i := 3) rfl)) (hw _ (List.mem_of_getElem? (i := 2) rfl)) (by decide) (by decide)) (g := (mkF m 96 #[.val (.long q1), .second, .val (.long q2), .second, .val (.long q3), .second, .val (.long (own_word q1 q2)), .second, .val (.int (1 : Int32)), .val (.int (1 : Int32)), .val (.long (q1 ^^^ ((1 : Int64) <<< ((q3 &&& (63 : Int64)).toInt32.toInt64 &&& 63)))), .second, .val (.int (1 : Int32)), .unset] [(.long (0 : Int64)), (.long (0 : Int64))])) rfl (by rw [hml]; rfl) (argsL := [(.long (0 : Int64)), (.long (0 : Int64))]) (rest := []) (lenOf pd_0 rfl) rfl (by show 2 * 0 + _ ≤ _; exact Nat.le_of_eq rfl) (hb hby at_96) (fun _ _ => ⟨rfl, e5, (by decide : 0 + 0 ≤ _), (by decide : 0 + 0 ≤ _)⟩)
  dsimp only [Pt.U, Pt.locs, Pt.cells, Pt.slots] at X6 l6 y6 z6 st6 hQ6
  subst l6 y6 z6
  obtain ⟨rfl, N6q, e6⟩ := hQ6
  have N6 := Fr.app N5 N6q
  refine own_go (fun t k => st6 t k) ?_
  show own_Go p.tables e below _ T6 (mkF m 99 #[.val (.long q1), .second, .val (.long q2), .second, .val (.long q3), .second, .val (.long (own_word q1 q2)), .second, .val (.int (1 : Int32)), .val (.int (1 : Int32)), .val (.long (q1 ^^^ ((1 : Int64) <<< ((q3 &&& (63 : Int64)).toInt32.toInt64 &&& 63)))), .second, .val (.int (1 : Int32)), .unset] [(.long (own_word (0 : Int64) (0 : Int64)))])
  refine own_go (fun t k => X6.ldc2J hx hown (mvT hZ (hw _ (List.mem_of_getElem? (i := 9) rfl))) rfl (hb hby at_99) k) ?_
  show own_Go p.tables e below _ T6 (mkF m 102 #[.val (.long q1), .second, .val (.long q2), .second, .val (.long q3), .second, .val (.long (own_word q1 q2)), .second, .val (.int (1 : Int32)), .val (.int (1 : Int32)), .val (.long (q1 ^^^ ((1 : Int64) <<< ((q3 &&& (63 : Int64)).toInt32.toInt64 &&& 63)))), .second, .val (.int (1 : Int32)), .unset] [(.long (-2152535657050944081 : Int64)), (.long (own_word (0 : Int64) (0 : Int64)))])
  refine own_go (fun t k => XT.lcmp X6.here hx rfl (hb hby at_102) rfl k) ?_
  show own_Go p.tables e below _ T6 (mkF m 103 #[.val (.long q1), .second, .val (.long q2), .second, .val (.long q3), .second, .val (.long (own_word q1 q2)), .second, .val (.int (1 : Int32)), .val (.int (1 : Int32)), .val (.long (q1 ^^^ ((1 : Int64) <<< ((q3 &&& (63 : Int64)).toInt32.toInt64 &&& 63)))), .second, .val (.int (1 : Int32)), .unset] [(.int (XT.cmpL (own_word (0 : Int64) (0 : Int64)) (-2152535657050944081 : Int64)))])
  refine own_go (fun t k => XS.ifNo X6.here hx rfl (hb hby at_103) rfl (XT.ll_ne_f own_v0) k) ?_
  show own_Go p.tables e below _ T6 (mkF m 106 #[.val (.long q1), .second, .val (.long q2), .second, .val (.long q3), .second, .val (.long (own_word q1 q2)), .second, .val (.int (1 : Int32)), .val (.int (1 : Int32)), .val (.long (q1 ^^^ ((1 : Int64) <<< ((q3 &&& (63 : Int64)).toInt32.toInt64 &&& 63)))), .second, .val (.int (1 : Int32)), .unset] [])
  refine own_go (fun t k => XT.lconst X6.here hx rfl (hb hby at_106) k) ?_
  show own_Go p.tables e below _ T6 (mkF m 107 #[.val (.long q1), .second, .val (.long q2), .second, .val (.long q3), .second, .val (.long (own_word q1 q2)), .second, .val (.int (1 : Int32)), .val (.int (1 : Int32)), .val (.long (q1 ^^^ ((1 : Int64) <<< ((q3 &&& (63 : Int64)).toInt32.toInt64 &&& 63)))), .second, .val (.int (1 : Int32)), .unset] [(.long (0 : Int64))])
  refine own_go (fun t k => XT.lconst X6.here hx rfl (hb hby at_107) k) ?_
  show own_Go p.tables e below _ T6 (mkF m 108 #[.val (.long q1), .second, .val (.long q2), .second, .val (.long q3), .second, .val (.long (own_word q1 q2)), .second, .val (.int (1 : Int32)), .val (.int (1 : Int32)), .val (.long (q1 ^^^ ((1 : Int64) <<< ((q3 &&& (63 : Int64)).toInt32.toInt64 &&& 63)))), .second, .val (.int (1 : Int32)), .unset] [(.long (1 : Int64)), (.long (0 : Int64))])
  obtain ⟨_, _, ⟨T7, L7, k7, n7⟩, -, X7, ⟨Lc7, hQ7, l7, y7, z7⟩, st7⟩ := Jvm.LawKit.callS X6 hx (y := (⟨"com/example/trellis/trellis/graph/SplitMix64", "word", "(JJ)J"⟩ : MethodName)) hown (mvT hZ (hw _ (List.mem_of_getElem? (i := 0) rfl))) (mvT hZ (hw _ (List.mem_of_getElem? (i := 1) rfl))) (mvT hZ (hw _ (List.mem_of_getElem? (i := 2) rfl))) (mvT hZ (hw _ (List.mem_of_getElem? (i := 3) rfl))) (by decide) (backOf (W := 0) (rm1 l Z a0 hw [] (0 : Int64) (1 : Int64) h0 n0 Z0) hZ (hw _ (List.mem_of_getElem? (i := 3) rfl)) (hw _ (List.mem_of_getElem? (i := 2) rfl)) (by decide) (by decide)) (g := (mkF m 108 #[.val (.long q1), .second, .val (.long q2), .second, .val (.long q3), .second, .val (.long (own_word q1 q2)), .second, .val (.int (1 : Int32)), .val (.int (1 : Int32)), .val (.long (q1 ^^^ ((1 : Int64) <<< ((q3 &&& (63 : Int64)).toInt32.toInt64 &&& 63)))), .second, .val (.int (1 : Int32)), .unset] [(.long (1 : Int64)), (.long (0 : Int64))])) rfl (by rw [hml]; rfl) (argsL := [(.long (0 : Int64)), (.long (1 : Int64))]) (rest := []) (lenOf pd_0 rfl) rfl (by show 2 * 0 + _ ≤ _; exact Nat.le_of_eq rfl) (hb hby at_108) (fun _ _ => ⟨rfl, e6, (by decide : 0 + 0 ≤ _), (by decide : 0 + 0 ≤ _)⟩)
  dsimp only [Pt.U, Pt.locs, Pt.cells, Pt.slots] at X7 l7 y7 z7 st7 hQ7
  subst l7 y7 z7
  obtain ⟨rfl, N7q, e7⟩ := hQ7
  have N7 := Fr.app N6 N7q
  refine own_go (fun t k => st7 t k) ?_
  show own_Go p.tables e below _ T7 (mkF m 111 #[.val (.long q1), .second, .val (.long q2), .second, .val (.long q3), .second, .val (.long (own_word q1 q2)), .second, .val (.int (1 : Int32)), .val (.int (1 : Int32)), .val (.long (q1 ^^^ ((1 : Int64) <<< ((q3 &&& (63 : Int64)).toInt32.toInt64 &&& 63)))), .second, .val (.int (1 : Int32)), .unset] [(.long (own_word (0 : Int64) (1 : Int64)))])
  refine own_go (fun t k => X7.ldc2J hx hown (mvT hZ (hw _ (List.mem_of_getElem? (i := 10) rfl))) rfl (hb hby at_111) k) ?_
  show own_Go p.tables e below _ T7 (mkF m 114 #[.val (.long q1), .second, .val (.long q2), .second, .val (.long q3), .second, .val (.long (own_word q1 q2)), .second, .val (.int (1 : Int32)), .val (.int (1 : Int32)), .val (.long (q1 ^^^ ((1 : Int64) <<< ((q3 &&& (63 : Int64)).toInt32.toInt64 &&& 63)))), .second, .val (.int (1 : Int32)), .unset] [(.long (7960286522194355700 : Int64)), (.long (own_word (0 : Int64) (1 : Int64)))])
  refine own_go (fun t k => XT.lcmp X7.here hx rfl (hb hby at_114) rfl k) ?_
  show own_Go p.tables e below _ T7 (mkF m 115 #[.val (.long q1), .second, .val (.long q2), .second, .val (.long q3), .second, .val (.long (own_word q1 q2)), .second, .val (.int (1 : Int32)), .val (.int (1 : Int32)), .val (.long (q1 ^^^ ((1 : Int64) <<< ((q3 &&& (63 : Int64)).toInt32.toInt64 &&& 63)))), .second, .val (.int (1 : Int32)), .unset] [(.int (XT.cmpL (own_word (0 : Int64) (1 : Int64)) (7960286522194355700 : Int64)))])
  refine own_go (fun t k => XS.ifNo X7.here hx rfl (hb hby at_115) rfl (XT.ll_ne_f own_v1) k) ?_
  show own_Go p.tables e below _ T7 (mkF m 118 #[.val (.long q1), .second, .val (.long q2), .second, .val (.long q3), .second, .val (.long (own_word q1 q2)), .second, .val (.int (1 : Int32)), .val (.int (1 : Int32)), .val (.long (q1 ^^^ ((1 : Int64) <<< ((q3 &&& (63 : Int64)).toInt32.toInt64 &&& 63)))), .second, .val (.int (1 : Int32)), .unset] [])
  refine own_go (fun t k => XT.lconst X7.here hx rfl (hb hby at_118) k) ?_
  show own_Go p.tables e below _ T7 (mkF m 119 #[.val (.long q1), .second, .val (.long q2), .second, .val (.long q3), .second, .val (.long (own_word q1 q2)), .second, .val (.int (1 : Int32)), .val (.int (1 : Int32)), .val (.long (q1 ^^^ ((1 : Int64) <<< ((q3 &&& (63 : Int64)).toInt32.toInt64 &&& 63)))), .second, .val (.int (1 : Int32)), .unset] [(.long (0 : Int64))])
  refine own_go (fun t k => X7.ldc2J hx hown (mvT hZ (hw _ (List.mem_of_getElem? (i := 11) rfl))) rfl (hb hby at_119) k) ?_
  show own_Go p.tables e below _ T7 (mkF m 122 #[.val (.long q1), .second, .val (.long q2), .second, .val (.long q3), .second, .val (.long (own_word q1 q2)), .second, .val (.int (1 : Int32)), .val (.int (1 : Int32)), .val (.long (q1 ^^^ ((1 : Int64) <<< ((q3 &&& (63 : Int64)).toInt32.toInt64 &&& 63)))), .second, .val (.int (1 : Int32)), .unset] [(.long (2 : Int64)), (.long (0 : Int64))])
  obtain ⟨_, _, ⟨T8, L8, k8, n8⟩, -, X8, ⟨Lc8, hQ8, l8, y8, z8⟩, st8⟩ := Jvm.LawKit.callS X7 hx (y := (⟨"com/example/trellis/trellis/graph/SplitMix64", "word", "(JJ)J"⟩ : MethodName)) hown (mvT hZ (hw _ (List.mem_of_getElem? (i := 0) rfl))) (mvT hZ (hw _ (List.mem_of_getElem? (i := 1) rfl))) (mvT hZ (hw _ (List.mem_of_getElem? (i := 2) rfl))) (mvT hZ (hw _ (List.mem_of_getElem? (i := 3) rfl))) (by decide) (backOf (W := 0) (rm1 l Z a0 hw [] (0 : Int64) (2 : Int64) h0 n0 Z0) hZ (hw _ (List.mem_of_getElem? (i := 3) rfl)) (hw _ (List.mem_of_getElem? (i := 2) rfl)) (by decide) (by decide)) (g := (mkF m 122 #[.val (.long q1), .second, .val (.long q2), .second, .val (.long q3), .second, .val (.long (own_word q1 q2)), .second, .val (.int (1 : Int32)), .val (.int (1 : Int32)), .val (.long (q1 ^^^ ((1 : Int64) <<< ((q3 &&& (63 : Int64)).toInt32.toInt64 &&& 63)))), .second, .val (.int (1 : Int32)), .unset] [(.long (2 : Int64)), (.long (0 : Int64))])) rfl (by rw [hml]; rfl) (argsL := [(.long (0 : Int64)), (.long (2 : Int64))]) (rest := []) (lenOf pd_0 rfl) rfl (by show 2 * 0 + _ ≤ _; exact Nat.le_of_eq rfl) (hb hby at_122) (fun _ _ => ⟨rfl, e7, (by decide : 0 + 0 ≤ _), (by decide : 0 + 0 ≤ _)⟩)
  dsimp only [Pt.U, Pt.locs, Pt.cells, Pt.slots] at X8 l8 y8 z8 st8 hQ8
  subst l8 y8 z8
  obtain ⟨rfl, N8q, e8⟩ := hQ8
  have N8 := Fr.app N7 N8q
  refine own_go (fun t k => st8 t k) ?_
  show own_Go p.tables e below _ T8 (mkF m 125 #[.val (.long q1), .second, .val (.long q2), .second, .val (.long q3), .second, .val (.long (own_word q1 q2)), .second, .val (.int (1 : Int32)), .val (.int (1 : Int32)), .val (.long (q1 ^^^ ((1 : Int64) <<< ((q3 &&& (63 : Int64)).toInt32.toInt64 &&& 63)))), .second, .val (.int (1 : Int32)), .unset] [(.long (own_word (0 : Int64) (2 : Int64)))])
  refine own_go (fun t k => X8.ldc2J hx hown (mvT hZ (hw _ (List.mem_of_getElem? (i := 12) rfl))) rfl (hb hby at_125) k) ?_
  show own_Go p.tables e below _ T8 (mkF m 128 #[.val (.long q1), .second, .val (.long q2), .second, .val (.long q3), .second, .val (.long (own_word q1 q2)), .second, .val (.int (1 : Int32)), .val (.int (1 : Int32)), .val (.long (q1 ^^^ ((1 : Int64) <<< ((q3 &&& (63 : Int64)).toInt32.toInt64 &&& 63)))), .second, .val (.int (1 : Int32)), .unset] [(.long (487617019471545679 : Int64)), (.long (own_word (0 : Int64) (2 : Int64)))])
  refine own_go (fun t k => XT.lcmp X8.here hx rfl (hb hby at_128) rfl k) ?_
  show own_Go p.tables e below _ T8 (mkF m 129 #[.val (.long q1), .second, .val (.long q2), .second, .val (.long q3), .second, .val (.long (own_word q1 q2)), .second, .val (.int (1 : Int32)), .val (.int (1 : Int32)), .val (.long (q1 ^^^ ((1 : Int64) <<< ((q3 &&& (63 : Int64)).toInt32.toInt64 &&& 63)))), .second, .val (.int (1 : Int32)), .unset] [(.int (XT.cmpL (own_word (0 : Int64) (2 : Int64)) (487617019471545679 : Int64)))])
  refine own_go (fun t k => XS.ifNo X8.here hx rfl (hb hby at_129) rfl (XT.ll_ne_f own_v2) k) ?_
  show own_Go p.tables e below _ T8 (mkF m 132 #[.val (.long q1), .second, .val (.long q2), .second, .val (.long q3), .second, .val (.long (own_word q1 q2)), .second, .val (.int (1 : Int32)), .val (.int (1 : Int32)), .val (.long (q1 ^^^ ((1 : Int64) <<< ((q3 &&& (63 : Int64)).toInt32.toInt64 &&& 63)))), .second, .val (.int (1 : Int32)), .unset] [])
  refine own_go (fun t k => XS.iconst X8.here hx rfl (hb hby at_132) k) ?_
  show own_Go p.tables e below _ T8 (mkF m 133 #[.val (.long q1), .second, .val (.long q2), .second, .val (.long q3), .second, .val (.long (own_word q1 q2)), .second, .val (.int (1 : Int32)), .val (.int (1 : Int32)), .val (.long (q1 ^^^ ((1 : Int64) <<< ((q3 &&& (63 : Int64)).toInt32.toInt64 &&& 63)))), .second, .val (.int (1 : Int32)), .unset] [(.int (1 : Int32))])
  refine own_go (fun t k => XS.goto X8.here hx rfl (pc0 := 133) (pc' := 137) rfl (hb hby at_133) (by decide) (by decide) k) ?_
  show own_Go p.tables e below _ T8 (mkF m 137 #[.val (.long q1), .second, .val (.long q2), .second, .val (.long q3), .second, .val (.long (own_word q1 q2)), .second, .val (.int (1 : Int32)), .val (.int (1 : Int32)), .val (.long (q1 ^^^ ((1 : Int64) <<< ((q3 &&& (63 : Int64)).toInt32.toInt64 &&& 63)))), .second, .val (.int (1 : Int32)), .unset] [(.int (1 : Int32))])
  refine own_go (fun t k => XS.istore X8.here hx rfl (hb hby at_137) rfl (l' := #[.val (.long q1), .second, .val (.long q2), .second, .val (.long q3), .second, .val (.long (own_word q1 q2)), .second, .val (.int (1 : Int32)), .val (.int (1 : Int32)), .val (.long (q1 ^^^ ((1 : Int64) <<< ((q3 &&& (63 : Int64)).toInt32.toInt64 &&& 63)))), .second, .val (.int (1 : Int32)), .val (.int (1 : Int32))]) rfl k) ?_
  show own_Go p.tables e below _ T8 (mkF m 139 #[.val (.long q1), .second, .val (.long q2), .second, .val (.long q3), .second, .val (.long (own_word q1 q2)), .second, .val (.int (1 : Int32)), .val (.int (1 : Int32)), .val (.long (q1 ^^^ ((1 : Int64) <<< ((q3 &&& (63 : Int64)).toInt32.toInt64 &&& 63)))), .second, .val (.int (1 : Int32)), .val (.int (1 : Int32))] [])
  refine own_go (fun t k => XS.iload X8.here hx rfl (hb hby at_139) rfl k) ?_
  show own_Go p.tables e below _ T8 (mkF m 141 #[.val (.long q1), .second, .val (.long q2), .second, .val (.long q3), .second, .val (.long (own_word q1 q2)), .second, .val (.int (1 : Int32)), .val (.int (1 : Int32)), .val (.long (q1 ^^^ ((1 : Int64) <<< ((q3 &&& (63 : Int64)).toInt32.toInt64 &&& 63)))), .second, .val (.int (1 : Int32)), .val (.int (1 : Int32))] [(.int (1 : Int32))])
  refine own_go (fun t k => XS.ifNo X8.here hx rfl (hb hby at_141) rfl (XT.i0_eq_f (by decide)) k) ?_
  show own_Go p.tables e below _ T8 (mkF m 144 #[.val (.long q1), .second, .val (.long q2), .second, .val (.long q3), .second, .val (.long (own_word q1 q2)), .second, .val (.int (1 : Int32)), .val (.int (1 : Int32)), .val (.long (q1 ^^^ ((1 : Int64) <<< ((q3 &&& (63 : Int64)).toInt32.toInt64 &&& 63)))), .second, .val (.int (1 : Int32)), .val (.int (1 : Int32))] [])
  refine own_go (fun t k => XS.iload X8.here hx rfl (hb hby at_144) rfl k) ?_
  show own_Go p.tables e below _ T8 (mkF m 146 #[.val (.long q1), .second, .val (.long q2), .second, .val (.long q3), .second, .val (.long (own_word q1 q2)), .second, .val (.int (1 : Int32)), .val (.int (1 : Int32)), .val (.long (q1 ^^^ ((1 : Int64) <<< ((q3 &&& (63 : Int64)).toInt32.toInt64 &&& 63)))), .second, .val (.int (1 : Int32)), .val (.int (1 : Int32))] [(.int (1 : Int32))])
  refine own_go (fun t k => XS.ifNo X8.here hx rfl (hb hby at_146) rfl (XT.i0_eq_f (by decide)) k) ?_
  show own_Go p.tables e below _ T8 (mkF m 149 #[.val (.long q1), .second, .val (.long q2), .second, .val (.long q3), .second, .val (.long (own_word q1 q2)), .second, .val (.int (1 : Int32)), .val (.int (1 : Int32)), .val (.long (q1 ^^^ ((1 : Int64) <<< ((q3 &&& (63 : Int64)).toInt32.toInt64 &&& 63)))), .second, .val (.int (1 : Int32)), .val (.int (1 : Int32))] [])
  refine own_go (fun t k => XS.iload X8.here hx rfl (hb hby at_149) rfl k) ?_
  show own_Go p.tables e below _ T8 (mkF m 151 #[.val (.long q1), .second, .val (.long q2), .second, .val (.long q3), .second, .val (.long (own_word q1 q2)), .second, .val (.int (1 : Int32)), .val (.int (1 : Int32)), .val (.long (q1 ^^^ ((1 : Int64) <<< ((q3 &&& (63 : Int64)).toInt32.toInt64 &&& 63)))), .second, .val (.int (1 : Int32)), .val (.int (1 : Int32))] [(.int (1 : Int32))])
  refine own_go (fun t k => XS.ifNo X8.here hx rfl (hb hby at_151) rfl (XT.i0_eq_f (by decide)) k) ?_
  show own_Go p.tables e below _ T8 (mkF m 154 #[.val (.long q1), .second, .val (.long q2), .second, .val (.long q3), .second, .val (.long (own_word q1 q2)), .second, .val (.int (1 : Int32)), .val (.int (1 : Int32)), .val (.long (q1 ^^^ ((1 : Int64) <<< ((q3 &&& (63 : Int64)).toInt32.toInt64 &&& 63)))), .second, .val (.int (1 : Int32)), .val (.int (1 : Int32))] [])
  refine own_go (fun t k => XS.iload X8.here hx rfl (hb hby at_154) rfl k) ?_
  show own_Go p.tables e below _ T8 (mkF m 156 #[.val (.long q1), .second, .val (.long q2), .second, .val (.long q3), .second, .val (.long (own_word q1 q2)), .second, .val (.int (1 : Int32)), .val (.int (1 : Int32)), .val (.long (q1 ^^^ ((1 : Int64) <<< ((q3 &&& (63 : Int64)).toInt32.toInt64 &&& 63)))), .second, .val (.int (1 : Int32)), .val (.int (1 : Int32))] [(.int (1 : Int32))])
  refine own_go (fun t k => XS.ifNo X8.here hx rfl (hb hby at_156) rfl (XT.i0_eq_f (by decide)) k) ?_
  show own_Go p.tables e below _ T8 (mkF m 159 #[.val (.long q1), .second, .val (.long q2), .second, .val (.long q3), .second, .val (.long (own_word q1 q2)), .second, .val (.int (1 : Int32)), .val (.int (1 : Int32)), .val (.long (q1 ^^^ ((1 : Int64) <<< ((q3 &&& (63 : Int64)).toInt32.toInt64 &&& 63)))), .second, .val (.int (1 : Int32)), .val (.int (1 : Int32))] [])
  refine own_go (fun t k => XS.iconst X8.here hx rfl (hb hby at_159) k) ?_
  show own_Go p.tables e below _ T8 (mkF m 160 #[.val (.long q1), .second, .val (.long q2), .second, .val (.long q3), .second, .val (.long (own_word q1 q2)), .second, .val (.int (1 : Int32)), .val (.int (1 : Int32)), .val (.long (q1 ^^^ ((1 : Int64) <<< ((q3 &&& (63 : Int64)).toInt32.toInt64 &&& 63)))), .second, .val (.int (1 : Int32)), .val (.int (1 : Int32))] [(.int (1 : Int32))])
  refine own_go (fun t k => XS.goto X8.here hx rfl (pc0 := 160) (pc' := 164) rfl (hb hby at_160) (by decide) (by decide) k) ?_
  show own_Go p.tables e below _ T8 (mkF m 164 #[.val (.long q1), .second, .val (.long q2), .second, .val (.long q3), .second, .val (.long (own_word q1 q2)), .second, .val (.int (1 : Int32)), .val (.int (1 : Int32)), .val (.long (q1 ^^^ ((1 : Int64) <<< ((q3 &&& (63 : Int64)).toInt32.toInt64 &&& 63)))), .second, .val (.int (1 : Int32)), .val (.int (1 : Int32))] [(.int (1 : Int32))])
  obtain ⟨fs, hr, hrun, hended, hW, hsame⟩ := X8.leave (v := some (.int (1 : Int32))) (fun h => by rw [Bd.returns] at h; cases h)
  refine ⟨_, _, ?_, hrun, hended, _, _, rfl, ?_, ⟨_, rfl⟩, hW, hsame.mono (by decide) (by decide)⟩
  · exact retN X8 hx (t := .boolean) Bd.returns (by simp) (hb hby at_164) hr
  · show Q0 Z q1 q2 q3 h0 n0 _ T8.heap _
    rw [e8]
    exact ⟨rfl, N8⟩
set_option maxRecDepth 65536 in
set_option maxHeartbeats 40000000 in
theorem comes_1 {Post : Tables → Env → Array Value → State → Outcome → State → Prop} (hpost : ∀ tb e args s v u, (limb_1_1.after args s (.returned v) u = true ∧ limb_1_2.after args s (.returned v) u = true ∧ True) → FrameEnd s (.returned v) u (Jvm.fieldLocs frame_1_writes args s ++ Jvm.arrayLocs frame_1_arrays args s ++ Jvm.staticLocs frame_1_statics s) 0 0 → Post tb e args s (.returned v) u) :
    ArmFor flags0 classFile x code maxLocals ret World_1 tables_1 room_1 Calls_1 rest_1 Pre_1 Post := by
  intro l hfl _ _ p e ha hc hk s m args below hf hA hF happ hP
  obtain ⟨hcalls, hrest, hpre⟩ := hP
  obtain ⟨-, -, -, hnamed, -, -, -, hat⟩ := (Spec.applies_iff hf).mp happ
  obtain ⟨hg, hn⟩ := and_e (Cond.before_iff.mp (show (Jvm.Cond.and given_1 narrow_1).before args s = true from hpre))
  obtain ⟨gc, ga0⟩ := and_e hg
  obtain ⟨gv0, ga1⟩ := and_e ga0
  obtain ⟨gv1, ga2⟩ := and_e ga1
  have gv2 := ga2
  obtain ⟨w0, w1, w2, rfl⟩ : ∃ w0 w1 w2 : Value, args = #[w0, w1, w2] := by
    have hs : args.size = 3 := by simpa [Cond.value, given_1] using gc
    obtain ⟨L⟩ := args
    match L, hs with
    | [w0, w1, w2], _ => exact ⟨w0, w1, w2, rfl⟩
  have hw := fun d (hd : d ∈ tables_1) => atoms_spec (ws := Jvm.Cond.code x code maxLocals ret :: tables_1) hat d (List.mem_cons_of_mem _ hd)
  have hfit : Fit s := fun {y c} hc i hi => by
    obtain ⟨ha, rfl⟩ := Array.getElem?_eq_some_iff.mp hc
    have q := List.all_eq_true.mp ((Array.all_eq_true_iff_forall_mem.mp hF) _ (Array.getElem_mem ha)) i (List.mem_range.mpr hi)
    simpa [Array.getElem?_eq_getElem hi] using q
  obtain ⟨i0, ei0⟩ := isL_v gv0
  obtain rfl : w0 = (.long i0) := Option.some.inj ei0
  obtain ⟨i1, ei1⟩ := isL_v gv1
  obtain rfl : w1 = (.long i1) := Option.some.inj ei1
  obtain ⟨i2, ei2⟩ := isL_v gv2
  obtain rfl : w2 = (.long i2) := Option.some.inj ei2
  obtain ⟨n, o, h1, h2, h3, _, L, rfl, ⟨rfl, N⟩, hq⟩ := rm0 l s _ hw tables_1 i0 i1 i2  s.heap s.heap.size (Nat.le_refl _)  p e ha hc hk s m _ below hf ((Spec.applies_iff_loose hf).mp happ).1 ⟨rfl, State.Warmed39.refl s, rfl⟩ trivial
  exact ⟨n, _, h1, h2, h3, hpost _ _ _ _ _ _ ⟨Cond.after_iff.mpr rfl, Cond.after_iff.mpr (eq_i res_at (Term.int_eval (1)) rfl), trivial⟩ ⟨hq.1, hq.2.1, (hq.2.2.sift fun y hy => Or.inr (N y hy)).mono (by decide) (by decide)⟩⟩
theorem main_1_1 : Claimed_1_1 := comes_1 fun _ _ _ _ _ _ h hF => ⟨h.1, hF⟩
theorem main_1_2 : Claimed_1_2 := comes_1 fun _ _ _ _ _ _ h hF => ⟨h.2.1, hF⟩
end Jvm.Pilot.@@N@@
namespace Jvm.Pilot.@@N@@
open Jvm Jvm.ClassFile Sem Op Lib Jvm.Free Jvm.Stand Jvm.Pilot.@@N@@.Jvm.D
/-! MADE BY PROGRAM (witnessworld.py) out of the Statement's table words and the real class files: 7 classes; the members and pool entries that the words name. The judged class is class 1, her method 1. -/
namespace start1
open Jvm.ClassFile
def u (s : String) : CpInfo := .utf8 (stringToUtf16 s)
/-- a pool by its gaps: so many unusable entries, then the entry; so many at the end -/
def gap : Nat → List CpInfo → List CpInfo
  | 0, r => r
  | n + 1, r => .unusable :: gap n r
def poolList (es : List (Nat × CpInfo)) (last : Nat) : List CpInfo := es.foldr (fun e r => gap e.1 (e.2 :: r)) (gap last [])
def pool (es : List (Nat × CpInfo)) (last : Nat) : Array CpInfo := ⟨poolList es last⟩
def fileOf (pool : Array CpInfo) (this : Nat) (attrs : Array Attribute := #[]) (ms : Array MethodInfo := #[]) (fl : Nat := 33) (sup : Nat := 0) (ifs : Array Nat := #[]) (fds : Array FieldInfo := #[]) : ClassFile where
  minorVersion := 0
  majorVersion := 65
  constantPool := pool
  accessFlags := fl
  thisClass := this
  superClass := sup
  interfaces := ifs
  fields := fds
  methods := ms
  attributes := attrs
def plain (name : String) (sup : Option ClassId) : Class where
  name := name
  kind := .ordinary
  loader := none
  accessFlags := 33
  super := sup
  interfaces := #[]
  cf := none
  fields := #[]
  methods := #[]
  instanceTypes := #[]
  staticTypes := #[]
  resolved := #[]
  callSites := []
  init := .initialized
  statics := none
  mirror := none

def pool0 : Array CpInfo := pool [(5, u "<init>"), (0, u "()V"), (1, .class_ 10), (1, u "java/lang/Object")] 113

def k0m0 : Method := { name := "<init>", desc := "()V", sig := { parameters := [], returnType := none }, accessFlags := 1, code := none }
/-- java/lang/Object -/
def k0 : Class := { plain "java/lang/Object" none with
  accessFlags := 33
  interfaces := #[]
  cf := some (fileOf pool0 8 #[] #[{ accessFlags := 1, nameIndex := 5, descriptorIndex := 6, attributes := #[] }] 33 0 #[] #[])
  fields := #[]
  methods := #[k0m0]
  instanceTypes := #[]
  staticTypes := #[]
  resolved := Array.replicate 124 none
  statics := none }

def pool1 : Array CpInfo := pool [(2, .class_ 4), (1, u "java/lang/Object"), (0, u "<init>"), (0, u "()V"), (0, .methodref 8 9), (0, .class_ 10), (0, .nameAndType 11 12), (0, u "com/example/trellis/trellis/graph/SplitMix64"), (0, u "word"), (0, u "(JJ)J"), (0, .class_ 14), (0, u "com/example/trellis/trellis/graph/SplitMix64WordPinLaw"), (0, .long 11400714819323198485), (1, .long 63), (1, .long 16294208416658607535), (1, .long 7960286522194355700), (1, .long 2), (1, .long 487617019471545679), (1, u "G"), (0, u "J"), (3, u "law"), (0, u "(JJJ)Z")] 3

def k1m0 : Method := { name := "<init>", desc := "()V", sig := { parameters := [], returnType := none }, accessFlags := 1, code := none }
def k1c1 : Code := { maxStack := 8, maxLocals := 14, code := code, exceptionTable := #[], attributes := #[] }
def k1m1 : Method := { name := "law", desc := "(JJJ)Z", sig := { parameters := [.long, .long, .long], returnType := some .boolean }, accessFlags := 9, code := some k1c1 }
/-- com/example/trellis/trellis/graph/SplitMix64WordPinLaw -/
def k1 : Class := { plain "com/example/trellis/trellis/graph/SplitMix64WordPinLaw" (some 0) with
  accessFlags := 49
  interfaces := #[]
  cf := some (fileOf pool1 13 #[] #[{ accessFlags := 1, nameIndex := 5, descriptorIndex := 6, attributes := #[] }, { accessFlags := 9, nameIndex := 32, descriptorIndex := 33, attributes := #[] }] 49 2 #[] #[{ accessFlags := 26, nameIndex := 27, descriptorIndex := 28, attributes := #[] }])
  fields := #[{ name := "G", type := .long, accessFlags := 26, slot := 0, constantValue := 0 }]
  methods := #[k1m0, k1m1]
  instanceTypes := #[]
  staticTypes := #[.long]
  resolved := Array.replicate 37 none
  statics := none }

def pool2 : Array CpInfo := pool [(2, .class_ 4), (1, u "java/lang/Object"), (3, .class_ 10), (1, u "com/example/trellis/trellis/graph/SplitMix64"), (0, u "seed"), (0, u "J"), (2, u "position"), (0, .long 11400714819323198485), (1, .long 13787848793156543929), (1, .long 10723151780598845931), (3, u "word"), (0, u "(JJ)J"), (17, u "GAMMA"), (1, u "LOW_32_BITS")] 23

def k2c0 : Code := { maxStack := 6, maxLocals := 6, code := prog_104_method_2_code, exceptionTable := #[], attributes := #[] }
def k2m0 : Method := { name := "word", desc := "(JJ)J", sig := { parameters := [.long, .long], returnType := some .long }, accessFlags := 8, code := some k2c0 }
/-- com/example/trellis/trellis/graph/SplitMix64 -/
def k2 : Class := { plain "com/example/trellis/trellis/graph/SplitMix64" (some 0) with
  accessFlags := 48
  interfaces := #[]
  cf := some (fileOf pool2 8 #[] #[{ accessFlags := 8, nameIndex := 24, descriptorIndex := 25, attributes := #[] }] 48 2 #[] #[{ accessFlags := 26, nameIndex := 43, descriptorIndex := 12, attributes := #[] }, { accessFlags := 26, nameIndex := 45, descriptorIndex := 12, attributes := #[] }, { accessFlags := 18, nameIndex := 11, descriptorIndex := 12, attributes := #[] }, { accessFlags := 2, nameIndex := 15, descriptorIndex := 12, attributes := #[] }])
  fields := #[{ name := "GAMMA", type := .long, accessFlags := 26, slot := 0, constantValue := 0 }, { name := "LOW_32_BITS", type := .long, accessFlags := 26, slot := 1, constantValue := 0 }, { name := "seed", type := .long, accessFlags := 18, slot := 0, constantValue := 0 }, { name := "position", type := .long, accessFlags := 2, slot := 1, constantValue := 0 }]
  methods := #[k2m0]
  instanceTypes := #[.long, .long]
  staticTypes := #[.long, .long]
  resolved := Array.replicate 69 none
  statics := none }

def pool3 : Array CpInfo := pool [(1, u "java/lang/Cloneable"), (0, .class_ 1), (0, u "java/lang/Object"), (0, .class_ 3)] 3

/-- java/lang/Cloneable -/
def k3 : Class := { plain "java/lang/Cloneable" (some 0) with
  accessFlags := 1537
  interfaces := #[]
  cf := some (fileOf pool3 2 #[] #[] 1537 4 #[] #[])
  fields := #[]
  methods := #[]
  instanceTypes := #[]
  staticTypes := #[]
  resolved := Array.replicate 8 none
  statics := none }

def pool4 : Array CpInfo := pool [(1, u "java/io/Serializable"), (0, .class_ 1), (0, u "java/lang/Object"), (0, .class_ 3)] 3

/-- java/io/Serializable -/
def k4 : Class := { plain "java/io/Serializable" (some 0) with
  accessFlags := 1537
  interfaces := #[]
  cf := some (fileOf pool4 2 #[] #[] 1537 4 #[] #[])
  fields := #[]
  methods := #[]
  instanceTypes := #[]
  staticTypes := #[]
  resolved := Array.replicate 8 none
  statics := none }

/-- the primitive byte -/
def k5 : Class := { plain "byte" none with kind := .primitive 'B', accessFlags := 0x411 }
/-- [B -/
def k6 : Class := { plain "[B" (some 0) with kind := .array 5 .byte, interfaces := #[3, 4], accessFlags := 1041 }

def heap : Heap := #[]
def classes : Array Class := #[k0, k1, k2, k3, k4, k5, k6]
def interned : List (Array UInt16 × Addr) := []
def slotsUsed : Nat := 0
def theMethod : MethodId := ⟨1, 1⟩
def args0 : Array Value := #[.long 5, .long 300, .long 7]
def aboutOver (below : List Frame) : State where
  vm := { classes := classes, interned := interned.toArray }
  heap := heap
  slotsUsed := slotsUsed
  threads := #[{ frames := .invoking theMethod args0 :: below }]
def below0 : List Frame := [.native { method := ⟨0, 0⟩, args := #[] }]
def about1 : State := aboutOver below0
def p0 : Program := .bare "" "" ""
def e0 : Env := launch0.env 0 0 0
theorem w_frames : about1.frames = Frame.invoking theMethod args0 :: below0 := rfl
set_option maxRecDepth 65536 in
theorem w_args : argsFit about1.vm theMethod args0 = true := by decide +kernel
set_option maxRecDepth 65536 in
theorem w_heap : heapFits about1 = true := by decide +kernel
set_option maxRecDepth 65536 in
theorem w_runnable : about1.curStatus? = some .runnable := by decide +kernel
set_option maxRecDepth 65536 in
theorem w_alone : about1.alone = true := by decide +kernel
set_option maxRecDepth 65536 in
theorem w_named : about1.methodNamed? x = some theMethod := by decide +kernel
set_option maxRecDepth 65536 in
theorem w_hears : about1.hears theMethod below0 = true := by decide +kernel
set_option maxRecDepth 65536 in
theorem w_ripe : about1.ripe theMethod args0 below0 = true := by decide +kernel
theorem w_running : about1.status = .running := rfl
set_option maxRecDepth 65536 in
theorem w_room : about1.hasRoom e0.platform room_1 = true :=
  launch0.hasRoom_least _ room_1 (by decide +kernel) (by decide +kernel) (by decide +kernel) (by decide +kernel) (by decide +kernel) (by decide +kernel)
theorem allAtoms_all (ts : List Jvm.Cond) (a : Array Jvm.Value) (st : Jvm.State) : (allAtoms ts).before a st = ts.all (fun c => c.before a st) := by
  induction ts with
  | nil => rfl
  | cons c t ih =>
    show (Jvm.Cond.and c (allAtoms t)).before a st = _
    rw [Jvm.Cond.before_and, ih, List.all_cons]
def words1 : List Jvm.Cond := Jvm.Cond.code x code maxLocals ret :: tables_1
/-- a 'code' word, met by the world's own term for the bytes: nothing is compared byte by byte -/
theorem code_word {y : MethodName} {bytes : ByteArray} {mx : Nat} {rt : Option FieldType} {a : Array Value} {s : State} {m : MethodId} {meth : Method} {c : Code} (h1 : s.methodNamed? y = some m) (h2 : s.vm.method? m = some meth) (h3 : meth.code = some c) (h4 : c.code = bytes)
    (h5 : (c.maxLocals == mx && c.exceptionTable.isEmpty && decide (c.maxStack ≤ mostOperands) && decide (meth.sig.returnType = rt) && !meth.locks && decide (parseMethodDescriptor y.desc = some meth.sig)) = true) : (Jvm.Cond.code y bytes mx rt).before a s = true := by
  simp only [Bool.and_eq_true, beq_iff_eq, Bool.not_eq_true', decide_eq_true_eq] at h5
  obtain ⟨⟨⟨⟨⟨g1, g2⟩, g3⟩, g4⟩, g5⟩, g6⟩ := h5
  simp [Cond.before, Cond.holds, Cond.value, h1, h2, h3, h4, g1, g2, g3, g4, g5, g6]
def isCode : Jvm.Cond → Bool
  | .code _ _ _ _ => true
  | _ => false
theorem all_split {L : List Jvm.Cond} {P : Jvm.Cond → Bool} (h1 : L.all (fun c => isCode c || P c) = true) (h2 : ∀ c ∈ L.filter isCode, P c = true) : L.all P = true := by
  refine List.all_eq_true.mpr fun c hc => ?_
  have h := List.all_eq_true.mp h1 c hc
  rcases Bool.eq_false_or_eq_true (isCode c) with hi | hi
  · exact h2 c (List.mem_filter.mpr ⟨hc, hi⟩)
  · simpa [hi] using h
set_option maxRecDepth 65536 in
theorem w_c0 : (Jvm.Cond.code x code maxLocals ret).before args0 about1 = true := code_word (m := ⟨1, 1⟩) (meth := k1m1) (c := k1c1) (by decide +kernel) rfl rfl rfl (by decide +kernel)
set_option maxRecDepth 65536 in
theorem w_c1 : (Jvm.Cond.code ({ cls := "com/example/trellis/trellis/graph/SplitMix64", name := "word", desc := "(JJ)J" } : Jvm.MethodName) prog_104_method_2_code (6 : Nat) (Option.some Jvm.ClassFile.FieldType.long)).before args0 about1 = true := code_word (m := ⟨2, 0⟩) (meth := k2m0) (c := k2c0) (by decide +kernel) rfl rfl rfl (by decide +kernel)
def codes1 : List Jvm.Cond := [Jvm.Cond.code x code maxLocals ret, Jvm.Cond.code ({ cls := "com/example/trellis/trellis/graph/SplitMix64", name := "word", desc := "(JJ)J" } : Jvm.MethodName) prog_104_method_2_code (6 : Nat) (Option.some Jvm.ClassFile.FieldType.long)]
set_option maxRecDepth 65536 in
theorem codes_eq : words1.filter isCode = codes1 := rfl
theorem w_codes : ∀ c ∈ words1.filter isCode, c.before args0 about1 = true := by
  rw [codes_eq]
  intro c hc
  simp only [codes1, List.mem_cons, List.not_mem_nil, or_false] at hc
  rcases hc with rfl | rfl
  · exact w_c0
  · exact w_c1
set_option maxRecDepth 65536 in
theorem w_t1 : words1.all (fun c => isCode c || c.before args0 about1) = true := by decide +kernel
theorem w_tables : (allAtoms (Jvm.Cond.code x code maxLocals ret :: tables_1)).before args0 about1 = true := by
  rw [allAtoms_all]
  show words1.all (fun c => c.before args0 about1) = true
  refine all_split ?_ w_codes
  rw [w_t1]
set_option maxRecDepth 65536 in
theorem w_case : (Jvm.Cond.and given_1 narrow_1).before args0 about1 = true := by decide +kernel
theorem w_applies : (headSpec (Jvm.Cond.code x code maxLocals ret :: tables_1) room_1).applies x e0.platform about1 = true :=
  (Spec.applies_iff w_frames).mpr ⟨w_running, w_runnable, w_alone, w_named, w_hears, w_ripe, w_room, w_tables⟩
theorem atStart : AtStart classFile x code maxLocals ret World_1 tables_1 room_1 Calls_1 rest_1 Pre_1 launch0 p0 e0 about1 theMethod args0 below0 :=
  ⟨lists_1, trivial, launch0.admits_env _ _ _, launch0.least_env, fairChoices_fair.cas, fairChoices_fair.clock, w_frames, w_args, w_heap, w_applies, trivial, trivial, w_case⟩
end start1
theorem witness_1 : WitnessClaimed_1 := ⟨start1.p0, start1.e0, start1.about1, start1.theMethod, start1.args0, start1.below0, start1.atStart⟩
end Jvm.Pilot.@@N@@
