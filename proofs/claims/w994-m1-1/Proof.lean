import JvmDerived
import JvmDerived.Pilot.@@N@@Statement
import JvmDerived.Pilot.@@N@@Code
set_option linter.unusedVariables false
set_option linter.unusedSimpArgs false
namespace Jvm.RoadKit
open Sem ClassFile Op Lib Jvm.Stand Jvm.Free Jvm.LawKit
section New
variable {p : Program} {l : Launch} {e : Env} {R : Room} {s : State} {m : MethodId} {args : Array Value} {below : List Frame} {meth : Method} {c : Code} {T : State} {locs : List Loc} {cells slots : Nat}
theorem retI (X : Stand p l e R s m args below meth c T locs cells slots) (hx : p.tables.exec = Jvm.exec) {pc : Nat} {Ls : Array Slot} {z : Int32} {rest : List Value} (hret : meth.sig.returnType = some .int) (hd : decode c.code pc = .ok (.ireturn, 1)) {fs : List Frame}
    (hl : ∀ (f : JFrame) (acts : List Action), f.method = m → f.locked = none → f.entered = [] → (doReturn e (T.setTop f) acts (some (.int z))).1 = T.setFrames fs) : Steps p.tables e below (T.setTop (mkF m pc Ls (.int z :: rest))) (T.setFrames fs) := by
  have hm' : T.vm.method? m = some meth := X.method'
  have hn : narrow .int (.int z) = .int z := rfl
  show Steps p.tables e below (T.setTop { method := m, pc := pc, locals := Ls, stack := _ :: rest, locked := none }) _
  jvm_step X.here [X.here.top, hx, hd, hm', hret, hn]
  first | (intro acts; rw [hl _ acts rfl rfl rfl]) | rw [hl _ _ rfl rfl rfl]
  exact Steps.refl _
end New
end Jvm.RoadKit
namespace Jvm.Pilot.@@N@@
open Jvm Jvm.ClassFile Sem Op Lib Jvm.Free Jvm.Stand Jvm.LawKit Jvm.RoadKit Bundle Jvm.Pilot.@@N@@.Jvm.D
/-- the run from here ends well -/
def own_Go (tb : Tables) (e : Env) (below : List Frame) (P : Outcome → State → Prop) (T : State) (f : JFrame) : Prop := ∃ s₂ o, Steps tb e below (T.setTop f) s₂ ∧ s₂.status = .running ∧ Ended s₂ below o ∧ P o s₂
theorem own_go {tb : Tables} {e : Env} {below : List Frame} {P : Outcome → State → Prop} {T T' : State} {f f' : JFrame} (k : ∀ t, Steps tb e below (T'.setTop f') t → Steps tb e below (T.setTop f) t) (h : own_Go tb e below P T' f') : own_Go tb e below P T f := by
  obtain ⟨s₂, o, h1, h2⟩ := h
  exact ⟨s₂, o, k _ h1, h2⟩
theorem own_keep1 {h0 h h' : Heap} {ws : List Addr} {b : Addr} (K : Keep h0 h ws) (K' : Keep h h' [b]) (q : h0.size ≤ b) : Keep h0 h' ws := K.trans K' fun x hx => Or.inr (by cases List.mem_singleton.mp hx; exact q)
theorem own_eqi {a b : Term} {args : Array Value} {first s : State} {o : Option Outcome} {idx : List Nat} {y : Int32} (h : (Jvm.Cond.eq a b).value args first o s idx = some true) (hb : b.eval args first o idx s = some (.int y)) : a.eval args first o idx s = some (.int y) := by
  cases ha : a.eval args first o idx s with
  | none => simp [Cond.value, ha] at h
  | some x => cases x <;> simp [Cond.value, ha, hb] at h; subst h; rfl
theorem own_not1 {a b : Addr} (q : a ≠ b) : a ∉ [b] := fun h => q (List.mem_singleton.mp h)
def own_PW (s : State) (Q : Option Value → Heap → List Loc → Prop) (k n : Nat) (o : Outcome) (U : State) : Prop := ∃ v L, o = .returned v ∧ Q v U.heap L ∧ ReturnedEndW s o U L k n
def own_P (s : State) (Q : Option Value → Heap → List Loc → Prop) (k n : Nat) (o : Outcome) (U : State) : Prop := ∃ v L, o = .returned v ∧ Q v U.heap L ∧ FrameEnd s o U L k n
theorem own_ushrL (x : Int64) (k : Int32) (n : Nat) (hk : (k.toInt64.toUInt64 &&& Int64.toUInt64 63).toBitVec % 64 = BitVec.ofNat 64 n) (hn : n < 64) : (XT.ushrL x k).toBitVec = x.toBitVec >>> n := by
  unfold XT.ushrL
  show (x.toUInt64 >>> (k.toInt64.toUInt64 &&& Int64.toUInt64 63)).toBitVec = _
  rw [UInt64.toBitVec_shiftRight, hk]
  have e : (BitVec.ofNat 64 n).toNat = n := by rw [BitVec.toNat_ofNat]; exact Nat.mod_eq_of_lt (by omega)
  rw [BitVec.ushiftRight_eq', e]
  rfl
theorem own_unxor (z : Int64) (k k2 : Int32) (n : Nat) (h1 : (k.toInt64.toUInt64 &&& Int64.toUInt64 63).toBitVec % 64 = BitVec.ofNat 64 n) (h2 : (k2.toInt64.toUInt64 &&& Int64.toUInt64 63).toBitVec % 64 = BitVec.ofNat 64 (2 * n)) (hn : 2 * n < 64) (h3 : 64 ≤ 3 * n) :
    ((z ^^^ XT.ushrL z k) ^^^ XT.ushrL (z ^^^ XT.ushrL z k) k) ^^^ XT.ushrL (z ^^^ XT.ushrL z k) k2 = z := by
  apply Int64.toBitVec_inj.mp
  simp only [Int64.toBitVec_xor, own_ushrL _ k n h1 (by omega), own_ushrL _ k2 (2*n) h2 hn]
  apply BitVec.eq_of_getLsbD_eq
  intro i hi
  have h : z.toBitVec.getLsbD (n + (2 * n + i)) = false := BitVec.getLsbD_of_ge _ _ (by omega)
  have h' : n + (n + i) = 2 * n + i := by omega
  simp [BitVec.getLsbD_xor, BitVec.getLsbD_ushiftRight, h, h']
def own_m1 (z : Int64) : Int64 := (z ^^^ XT.ushrL z 30) * -4658895280553007687
def own_m2 (z : Int64) : Int64 := (z ^^^ XT.ushrL z 27) * -7723592293110705685
def own_m3 (z : Int64) : Int64 := z ^^^ XT.ushrL z 31
theorem own_inv1 : (-4658895280553007687 : Int64) * -7575587736534282103 = 1 := by decide
theorem own_inv2 : (-7723592293110705685 : Int64) * 3573116690164977347 = 1 := by decide
def own_mix (z : Int64) : Int64 := own_m3 (own_m2 (own_m1 z))
def own_it (a x : Int64) : Int64 := x * (2 - a * x)
def own_inv (a : Int64) : Int64 := own_it a (own_it a (own_it a (own_it a (own_it a a))))
def own_us (y : Int64) (k : Int32) : Int64 := (y ^^^ XT.ushrL y k) ^^^ XT.ushrL y (2 * k)
def own_un (y : Int64) : Int64 := own_us (own_us (own_us y 31 * own_inv (-7723592293110705685)) 27 * own_inv (-4658895280553007687)) 30
theorem own_us31 (z : Int64) : own_us (own_m3 z) 31 = z := own_unxor z 31 (2 * 31) 31 (by decide) (by decide) (by decide) (by decide)
theorem own_us27 (z : Int64) : own_us (z ^^^ XT.ushrL z 27) 27 = z := own_unxor z 27 (2 * 27) 27 (by decide) (by decide) (by decide) (by decide)
theorem own_us30 (z : Int64) : own_us (z ^^^ XT.ushrL z 30) 30 = z := own_unxor z 30 (2 * 30) 30 (by decide) (by decide) (by decide) (by decide)
theorem own_i2 : own_inv (-7723592293110705685) = 3573116690164977347 := by decide +kernel
theorem own_i1 : own_inv (-4658895280553007687) = -7575587736534282103 := by decide +kernel
theorem own_un_mix (z : Int64) : own_un (own_mix z) = z := by
  unfold own_un own_mix
  rw [own_us31, own_i2, own_i1]
  unfold own_m2
  rw [Int64.mul_assoc, own_inv2, Int64.mul_one, own_us27]
  unfold own_m1
  rw [Int64.mul_assoc, own_inv1, Int64.mul_one, own_us30]
theorem own_two (s c d : Int64) (h : c + c = d) : s + c + c = s + d := by rw [Int64.add_assoc, h]
theorem d1_0 : decode prog_96_method_1_code 0 = .ok (.aload_n 0, 1) := by decide +kernel
theorem d1_1 : decode prog_96_method_1_code 1 = .ok (.invokespecial 1, 3) := by decide +kernel
theorem d1_4 : decode prog_96_method_1_code 4 = .ok (.aload_n 0, 1) := by decide +kernel
theorem d1_5 : decode prog_96_method_1_code 5 = .ok (.lload_n 1, 1) := by decide +kernel
theorem d1_6 : decode prog_96_method_1_code 6 = .ok (.putfield 7, 3) := by decide +kernel
theorem d1_9 : decode prog_96_method_1_code 9 = .ok (.return_, 1) := by decide +kernel
theorem pn_0 : plainName "com/example/gunline/gunline/core/SeededDice" = true := by first | (simp [plainName, overriddenIn]; done) | decide +kernel
theorem ef_1 (m : MethodId) {a1 : Addr} {q2 : Int64} : entryFrame m #[(.ref a1), (.long q2)] 3 = mkF m 0 #[.val (.ref a1), .val (.long q2), .second] [] := by first | (simp [entryFrame, mkF, argsToLocals, Value.category]; done) | rfl
def Q1 (Z : State) (a1 : Addr) (q2 : Int64) (u : Value) (h0 : Heap) (n0 : Nat) (v : Option Value) (h : Heap) (L : List Loc) : Prop := v = none ∧ Fr n0 L ∧ Keep h0 h [a1] ∧ Exa Z h a1 "com/example/gunline/gunline/core/SeededDice" ∧ Fld Z h a1 "com/example/gunline/gunline/core/SeededDice" "state" "J" (.long q2)
set_option maxRecDepth 65536 in
set_option maxHeartbeats 40000000 in
theorem rm1 (l : Launch) (Z : State) (a0 : Array Value) (hw : ∀ d ∈ tables_1, d.before a0 Z = true) (ws : List Jvm.Cond) (a1 : Addr) (q2 : Int64) (u : Value) (h0 : Heap) (n0 : Nat) (Z0 : n0 ≤ h0.size) (F : Fld Z h0 a1 "com/example/gunline/gunline/core/SeededDice" "state" "J" u) (Ex : Exa Z h0 a1 "com/example/gunline/gunline/core/SeededDice") (g : n0 ≤ a1) :
    MetFree l (⟨"com/example/gunline/gunline/core/SeededDice", "<init>", "(J)V"⟩ : MethodName) (head1 (Jvm.Cond.code (⟨"com/example/gunline/gunline/core/SeededDice", "<init>", "(J)V"⟩ : MethodName) prog_96_method_1_code 3 none :: ws) ({ frames := 1, cells := 0, slots := 0, locals := 12 } : Room)) (fun a U => a = #[(.ref a1), (.long q2)] ∧ Z.Warmed39 U.vm ∧ U.heap = h0) (fun _ _ _ _ _ => True) (fun _ U o U' => ∃ v L, o = .returned v ∧ Q1 Z a1 q2 u h0 n0 v U'.heap L ∧ FrameEnd U o U' L (({ frames := 1, cells := 0, slots := 0, locals := 12 } : Room)).cells (({ frames := 1, cells := 0, slots := 0, locals := 12 } : Room)).slots) := by
  refine MetFree.of_bodySF (plainFor_of_name pn_0) hisR ?_
  intro p e s m args below meth c s₁ Bd hml0 hP hK
  obtain ⟨rfl, hZ, hh⟩ := hP
  have hx := Bd.exec
  have hby := Bd.bytes
  have hml : c.maxLocals = 3 := hml0
  have hown : s.vm.findClass "com/example/gunline/gunline/core/SeededDice" = some m.cls := findClass_of_methodNamed Bd.named
  have hnm := (name_of_methodNamed Bd.named Bd.method).1
  have X0 : Stand p l e ({ frames := 1, cells := 0, slots := 0, locals := 12 } : Room) s m #[(.ref a1), (.long q2)] below meth c s₁ [] 0 0 := Stand.of_body Bd
  have e0 : s₁.heap = h0 := by rw [← hh, Bd.state]; rfl
  have N0 := Fr.nil n0
  show own_Go p.tables e below (own_P s (Q1 Z a1 q2 u h0 n0) ({ frames := 1, cells := 0, slots := 0, locals := 12 } : Room).cells ({ frames := 1, cells := 0, slots := 0, locals := 12 } : Room).slots) s₁ _
  rw [ef_1]
  show own_Go p.tables e below _ s₁ (mkF m 0 #[.val (.ref a1), .val (.long q2), .second] [])
  refine own_go (fun t k => XS.aloadN X0.here hx rfl (hb hby d1_0) rfl rfl k) ?_
  show own_Go p.tables e below _ s₁ (mkF m 1 #[.val (.ref a1), .val (.long q2), .second] [(.ref a1)])
  obtain ⟨T1, X1, e1, st1⟩ := initO X0 hx hZ hown (hw _ (List.mem_of_getElem? (i := 6) rfl)) (hw _ (List.mem_of_getElem? (i := 7) rfl)) (hw _ (List.mem_of_getElem? (i := 8) rfl)) e0 (g := (mkF m 1 #[.val (.ref a1), .val (.long q2), .second] [(.ref a1)])) rfl (by rw [hml]; rfl) rfl (hb hby d1_1) (by decide) (W := 0) (by show 2 * 0 + _ ≤ _; exact Nat.le_of_eq rfl) (by decide)
  refine own_go st1 ?_
  show own_Go p.tables e below _ T1 (mkF m 4 #[.val (.ref a1), .val (.long q2), .second] [])
  refine own_go (fun t k => XS.aloadN X1.here hx rfl (hb hby d1_4) rfl rfl k) ?_
  show own_Go p.tables e below _ T1 (mkF m 5 #[.val (.ref a1), .val (.long q2), .second] [(.ref a1)])
  refine own_go (fun t k => XT.lloadN X1.here hx rfl (hb hby d1_5) rfl k) ?_
  show own_Go p.tables e below _ T1 (mkF m 6 #[.val (.ref a1), .val (.long q2), .second] [(.long q2), (.ref a1)])
  obtain ⟨T2, h2, X2, e2, W2, st2⟩ := putF X1 hx hZ hown (host := "") (Or.inl (hw _ (List.mem_of_getElem? (i := 9) rfl))) Via.refl e1 F Ex (Or.inl (hw _ (List.mem_of_getElem? (i := 10) rfl))) (hw _ (List.mem_of_getElem? (i := 1) rfl)) (ty := .long) (by decide) rfl rfl (g := (mkF m 6 #[.val (.ref a1), .val (.long q2), .second] [(.long q2), (.ref a1)])) rfl rfl (hb hby d1_6)
  have Fw2 := F.same W2
  have N2 := Fr.snoc X2 N0 g
  refine own_go st2 ?_
  show own_Go p.tables e below _ T2 (mkF m 9 #[.val (.ref a1), .val (.long q2), .second] [])
  obtain ⟨fs, hr, hrun, hended, hW, hsame⟩ := X2.leave (v := none) (fun _ => rfl)
  refine ⟨_, _, ?_, hrun, hended, _, _, rfl, ?_, ⟨_, rfl⟩, hW, hsame.mono (by decide) (by decide)⟩
  · exact X2.returnOut hx Bd.returns (hb hby d1_9) hr
  · show Q1 Z a1 q2 u h0 n0 _ T2.heap _
    rw [e2]
    exact ⟨rfl, N2, (Keep.refl _ _).wr W2 (Or.inl (List.mem_of_getElem? (i := 0) rfl)), Ex.wr W2, Fw2⟩
theorem d3_0 : decode prog_96_method_2_code 0 = .ok (.aload_n 0, 1) := by decide +kernel
theorem d3_1 : decode prog_96_method_2_code 1 = .ok (.dup, 1) := by decide +kernel
theorem d3_2 : decode prog_96_method_2_code 2 = .ok (.getfield 7, 3) := by decide +kernel
theorem d3_5 : decode prog_96_method_2_code 5 = .ok (.ldc2_w 13, 3) := by decide +kernel
theorem d3_8 : decode prog_96_method_2_code 8 = .ok (.ladd, 1) := by decide +kernel
theorem d3_9 : decode prog_96_method_2_code 9 = .ok (.putfield 7, 3) := by decide +kernel
theorem d3_12 : decode prog_96_method_2_code 12 = .ok (.aload_n 0, 1) := by decide +kernel
theorem d3_13 : decode prog_96_method_2_code 13 = .ok (.getfield 7, 3) := by decide +kernel
theorem d3_16 : decode prog_96_method_2_code 16 = .ok (.lstore_n 1, 1) := by decide +kernel
theorem d3_17 : decode prog_96_method_2_code 17 = .ok (.lload_n 1, 1) := by decide +kernel
theorem d3_18 : decode prog_96_method_2_code 18 = .ok (.lload_n 1, 1) := by decide +kernel
theorem d3_19 : decode prog_96_method_2_code 19 = .ok (.bipush 30, 2) := by decide +kernel
theorem d3_21 : decode prog_96_method_2_code 21 = .ok (.lushr, 1) := by decide +kernel
theorem d3_22 : decode prog_96_method_2_code 22 = .ok (.lxor, 1) := by decide +kernel
theorem d3_23 : decode prog_96_method_2_code 23 = .ok (.ldc2_w 15, 3) := by decide +kernel
theorem d3_26 : decode prog_96_method_2_code 26 = .ok (.lmul, 1) := by decide +kernel
theorem d3_27 : decode prog_96_method_2_code 27 = .ok (.lstore_n 1, 1) := by decide +kernel
theorem d3_28 : decode prog_96_method_2_code 28 = .ok (.lload_n 1, 1) := by decide +kernel
theorem d3_29 : decode prog_96_method_2_code 29 = .ok (.lload_n 1, 1) := by decide +kernel
theorem d3_30 : decode prog_96_method_2_code 30 = .ok (.bipush 27, 2) := by decide +kernel
theorem d3_32 : decode prog_96_method_2_code 32 = .ok (.lushr, 1) := by decide +kernel
theorem d3_33 : decode prog_96_method_2_code 33 = .ok (.lxor, 1) := by decide +kernel
theorem d3_34 : decode prog_96_method_2_code 34 = .ok (.ldc2_w 17, 3) := by decide +kernel
theorem d3_37 : decode prog_96_method_2_code 37 = .ok (.lmul, 1) := by decide +kernel
theorem d3_38 : decode prog_96_method_2_code 38 = .ok (.lstore_n 1, 1) := by decide +kernel
theorem d3_39 : decode prog_96_method_2_code 39 = .ok (.lload_n 1, 1) := by decide +kernel
theorem d3_40 : decode prog_96_method_2_code 40 = .ok (.lload_n 1, 1) := by decide +kernel
theorem d3_41 : decode prog_96_method_2_code 41 = .ok (.bipush 31, 2) := by decide +kernel
theorem d3_43 : decode prog_96_method_2_code 43 = .ok (.lushr, 1) := by decide +kernel
theorem d3_44 : decode prog_96_method_2_code 44 = .ok (.lxor, 1) := by decide +kernel
theorem d3_45 : decode prog_96_method_2_code 45 = .ok (.lreturn, 1) := by decide +kernel
theorem ef_3 (m : MethodId) {a1 : Addr} : entryFrame m #[(.ref a1)] 3 = mkF m 0 #[.val (.ref a1), .unset, .unset] [] := by first | (simp [entryFrame, mkF, argsToLocals, Value.category]; done) | rfl
def Q3 (Z : State) (a1 : Addr) (w : Int64) (h0 : Heap) (n0 : Nat) (v : Option Value) (h : Heap) (L : List Loc) : Prop := v = some (.long (own_mix (w + -7046029254386353131))) ∧ Fr n0 L ∧ Keep h0 h [a1] ∧ Exa Z h a1 "com/example/gunline/gunline/core/SeededDice" ∧ Fld Z h a1 "com/example/gunline/gunline/core/SeededDice" "state" "J" (.long (w + -7046029254386353131))
set_option maxRecDepth 65536 in
set_option maxHeartbeats 40000000 in
theorem rm3 (l : Launch) (Z : State) (a0 : Array Value) (hw : ∀ d ∈ tables_1, d.before a0 Z = true) (ws : List Jvm.Cond) (a1 : Addr) (w : Int64) (h0 : Heap) (n0 : Nat) (Z0 : n0 ≤ h0.size) (F : Fld Z h0 a1 "com/example/gunline/gunline/core/SeededDice" "state" "J" (.long w)) (Ex : Exa Z h0 a1 "com/example/gunline/gunline/core/SeededDice") (g : n0 ≤ a1) :
    MetFree l (⟨"com/example/gunline/gunline/core/SeededDice", "next", "()J"⟩ : MethodName) (head1 (Jvm.Cond.code (⟨"com/example/gunline/gunline/core/SeededDice", "next", "()J"⟩ : MethodName) prog_96_method_2_code 3 (some .long) :: ws) ({ frames := 0, cells := 0, slots := 0, locals := 0 } : Room)) (fun a U => a = #[(.ref a1)] ∧ Z.Warmed39 U.vm ∧ U.heap = h0) (fun _ _ _ _ _ => True) (fun _ U o U' => ∃ v L, o = .returned v ∧ Q3 Z a1 w h0 n0 v U'.heap L ∧ FrameEnd U o U' L (({ frames := 0, cells := 0, slots := 0, locals := 0 } : Room)).cells (({ frames := 0, cells := 0, slots := 0, locals := 0 } : Room)).slots) := by
  refine MetFree.of_bodySF (plainFor_of_name pn_0) hisR ?_
  intro p e s m args below meth c s₁ Bd hml0 hP hK
  obtain ⟨rfl, hZ, hh⟩ := hP
  have hx := Bd.exec
  have hby := Bd.bytes
  have hml : c.maxLocals = 3 := hml0
  have hown : s.vm.findClass "com/example/gunline/gunline/core/SeededDice" = some m.cls := findClass_of_methodNamed Bd.named
  have hnm := (name_of_methodNamed Bd.named Bd.method).1
  have X0 : Stand p l e ({ frames := 0, cells := 0, slots := 0, locals := 0 } : Room) s m #[(.ref a1)] below meth c s₁ [] 0 0 := Stand.of_body Bd
  have e0 : s₁.heap = h0 := by rw [← hh, Bd.state]; rfl
  have N0 := Fr.nil n0
  show own_Go p.tables e below (own_P s (Q3 Z a1 w h0 n0) ({ frames := 0, cells := 0, slots := 0, locals := 0 } : Room).cells ({ frames := 0, cells := 0, slots := 0, locals := 0 } : Room).slots) s₁ _
  rw [ef_3]
  show own_Go p.tables e below _ s₁ (mkF m 0 #[.val (.ref a1), .unset, .unset] [])
  refine own_go (fun t k => XS.aloadN X0.here hx rfl (hb hby d3_0) rfl rfl k) ?_
  show own_Go p.tables e below _ s₁ (mkF m 1 #[.val (.ref a1), .unset, .unset] [(.ref a1)])
  refine own_go (fun t k => XS.dup X0.here hx rfl (hb hby d3_1) rfl rfl k) ?_
  show own_Go p.tables e below _ s₁ (mkF m 2 #[.val (.ref a1), .unset, .unset] [(.ref a1), (.ref a1)])
  obtain ⟨T1, X1, e1, st1⟩ := getF X0 hx hZ hown (host := "") (Or.inl (hw _ (List.mem_of_getElem? (i := 9) rfl))) Via.refl e0 F (g := (mkF m 2 #[.val (.ref a1), .unset, .unset] [(.ref a1), (.ref a1)])) rfl rfl (hb hby d3_2)
  refine own_go st1 ?_
  show own_Go p.tables e below _ T1 (mkF m 5 #[.val (.ref a1), .unset, .unset] [(.long w), (.ref a1)])
  refine own_go (fun t k => X1.ldc2J hx hown (mvT hZ (hw _ (List.mem_of_getElem? (i := 16) rfl))) rfl (hb hby d3_5) k) ?_
  show own_Go p.tables e below _ T1 (mkF m 8 #[.val (.ref a1), .unset, .unset] [(.long (-7046029254386353131 : Int64)), (.long w), (.ref a1)])
  refine own_go (fun t k => XT.ladd X1.here hx rfl (hb hby d3_8) rfl k) ?_
  show own_Go p.tables e below _ T1 (mkF m 9 #[.val (.ref a1), .unset, .unset] [(.long (w + (-7046029254386353131 : Int64))), (.ref a1)])
  obtain ⟨T2, h2, X2, e2, W2, st2⟩ := putF X1 hx hZ hown (host := "") (Or.inl (hw _ (List.mem_of_getElem? (i := 9) rfl))) Via.refl e1 F Ex (Or.inl (hw _ (List.mem_of_getElem? (i := 10) rfl))) (hw _ (List.mem_of_getElem? (i := 1) rfl)) (ty := .long) (by decide) rfl rfl (g := (mkF m 9 #[.val (.ref a1), .unset, .unset] [(.long (w + (-7046029254386353131 : Int64))), (.ref a1)])) rfl rfl (hb hby d3_9)
  have Fw2 := F.same W2
  have N2 := Fr.snoc X2 N0 g
  refine own_go st2 ?_
  show own_Go p.tables e below _ T2 (mkF m 12 #[.val (.ref a1), .unset, .unset] [])
  refine own_go (fun t k => XS.aloadN X2.here hx rfl (hb hby d3_12) rfl rfl k) ?_
  show own_Go p.tables e below _ T2 (mkF m 13 #[.val (.ref a1), .unset, .unset] [(.ref a1)])
  obtain ⟨T3, X3, e3, st3⟩ := getF X2 hx hZ hown (host := "") (Or.inl (hw _ (List.mem_of_getElem? (i := 9) rfl))) Via.refl e2 Fw2 (g := (mkF m 13 #[.val (.ref a1), .unset, .unset] [(.ref a1)])) rfl rfl (hb hby d3_13)
  refine own_go st3 ?_
  show own_Go p.tables e below _ T3 (mkF m 16 #[.val (.ref a1), .unset, .unset] [(.long (w + (-7046029254386353131 : Int64)))])
  refine own_go (fun t k => XT.lstoreN X3.here hx rfl (hb hby d3_16) rfl (l' := #[.val (.ref a1), .val (.long (w + (-7046029254386353131 : Int64))), .second]) rfl k) ?_
  show own_Go p.tables e below _ T3 (mkF m 17 #[.val (.ref a1), .val (.long (w + (-7046029254386353131 : Int64))), .second] [])
  generalize gz : (w + (-7046029254386353131 : Int64)) = z
  show own_Go p.tables e below _ T3 (mkF m 17 #[.val (.ref a1), .val (.long z), .second] [])
  refine own_go (fun t k => XT.lloadN X3.here hx rfl (hb hby d3_17) rfl k) ?_
  show own_Go p.tables e below _ T3 (mkF m 18 #[.val (.ref a1), .val (.long z), .second] [(.long z)])
  refine own_go (fun t k => XT.lloadN X3.here hx rfl (hb hby d3_18) rfl k) ?_
  show own_Go p.tables e below _ T3 (mkF m 19 #[.val (.ref a1), .val (.long z), .second] [(.long z), (.long z)])
  refine own_go (fun t k => XS.bipush X3.here hx rfl (hb hby d3_19) k) ?_
  show own_Go p.tables e below _ T3 (mkF m 21 #[.val (.ref a1), .val (.long z), .second] [(.int (30 : Int32)), (.long z), (.long z)])
  refine own_go (fun t k => XT.lushr X3.here hx rfl (hb hby d3_21) rfl k) ?_
  show own_Go p.tables e below _ T3 (mkF m 22 #[.val (.ref a1), .val (.long z), .second] [(.long (XT.ushrL z (30 : Int32))), (.long z)])
  refine own_go (fun t k => XT.lxor X3.here hx rfl (hb hby d3_22) rfl k) ?_
  show own_Go p.tables e below _ T3 (mkF m 23 #[.val (.ref a1), .val (.long z), .second] [(.long (z ^^^ (XT.ushrL z (30 : Int32))))])
  refine own_go (fun t k => X3.ldc2J hx hown (mvT hZ (hw _ (List.mem_of_getElem? (i := 17) rfl))) rfl (hb hby d3_23) k) ?_
  show own_Go p.tables e below _ T3 (mkF m 26 #[.val (.ref a1), .val (.long z), .second] [(.long (-4658895280553007687 : Int64)), (.long (z ^^^ (XT.ushrL z (30 : Int32))))])
  refine own_go (fun t k => XT.lmul X3.here hx rfl (hb hby d3_26) rfl k) ?_
  show own_Go p.tables e below _ T3 (mkF m 27 #[.val (.ref a1), .val (.long z), .second] [(.long ((z ^^^ (XT.ushrL z (30 : Int32))) * (-4658895280553007687 : Int64)))])
  show own_Go p.tables e below _ T3 (mkF m 27 #[.val (.ref a1), .val (.long z), .second] [(.long (own_m1 z))])
  refine own_go (fun t k => XT.lstoreN X3.here hx rfl (hb hby d3_27) rfl (l' := #[.val (.ref a1), .val (.long (own_m1 z)), .second]) rfl k) ?_
  show own_Go p.tables e below _ T3 (mkF m 28 #[.val (.ref a1), .val (.long (own_m1 z)), .second] [])
  refine own_go (fun t k => XT.lloadN X3.here hx rfl (hb hby d3_28) rfl k) ?_
  show own_Go p.tables e below _ T3 (mkF m 29 #[.val (.ref a1), .val (.long (own_m1 z)), .second] [(.long (own_m1 z))])
  refine own_go (fun t k => XT.lloadN X3.here hx rfl (hb hby d3_29) rfl k) ?_
  show own_Go p.tables e below _ T3 (mkF m 30 #[.val (.ref a1), .val (.long (own_m1 z)), .second] [(.long (own_m1 z)), (.long (own_m1 z))])
  refine own_go (fun t k => XS.bipush X3.here hx rfl (hb hby d3_30) k) ?_
  show own_Go p.tables e below _ T3 (mkF m 32 #[.val (.ref a1), .val (.long (own_m1 z)), .second] [(.int (27 : Int32)), (.long (own_m1 z)), (.long (own_m1 z))])
  refine own_go (fun t k => XT.lushr X3.here hx rfl (hb hby d3_32) rfl k) ?_
  show own_Go p.tables e below _ T3 (mkF m 33 #[.val (.ref a1), .val (.long (own_m1 z)), .second] [(.long (XT.ushrL (own_m1 z) (27 : Int32))), (.long (own_m1 z))])
  refine own_go (fun t k => XT.lxor X3.here hx rfl (hb hby d3_33) rfl k) ?_
  show own_Go p.tables e below _ T3 (mkF m 34 #[.val (.ref a1), .val (.long (own_m1 z)), .second] [(.long ((own_m1 z) ^^^ (XT.ushrL (own_m1 z) (27 : Int32))))])
  refine own_go (fun t k => X3.ldc2J hx hown (mvT hZ (hw _ (List.mem_of_getElem? (i := 18) rfl))) rfl (hb hby d3_34) k) ?_
  show own_Go p.tables e below _ T3 (mkF m 37 #[.val (.ref a1), .val (.long (own_m1 z)), .second] [(.long (-7723592293110705685 : Int64)), (.long ((own_m1 z) ^^^ (XT.ushrL (own_m1 z) (27 : Int32))))])
  refine own_go (fun t k => XT.lmul X3.here hx rfl (hb hby d3_37) rfl k) ?_
  show own_Go p.tables e below _ T3 (mkF m 38 #[.val (.ref a1), .val (.long (own_m1 z)), .second] [(.long (((own_m1 z) ^^^ (XT.ushrL (own_m1 z) (27 : Int32))) * (-7723592293110705685 : Int64)))])
  show own_Go p.tables e below _ T3 (mkF m 38 #[.val (.ref a1), .val (.long (own_m1 z)), .second] [(.long (own_m2 (own_m1 z)))])
  refine own_go (fun t k => XT.lstoreN X3.here hx rfl (hb hby d3_38) rfl (l' := #[.val (.ref a1), .val (.long (own_m2 (own_m1 z))), .second]) rfl k) ?_
  show own_Go p.tables e below _ T3 (mkF m 39 #[.val (.ref a1), .val (.long (own_m2 (own_m1 z))), .second] [])
  refine own_go (fun t k => XT.lloadN X3.here hx rfl (hb hby d3_39) rfl k) ?_
  show own_Go p.tables e below _ T3 (mkF m 40 #[.val (.ref a1), .val (.long (own_m2 (own_m1 z))), .second] [(.long (own_m2 (own_m1 z)))])
  refine own_go (fun t k => XT.lloadN X3.here hx rfl (hb hby d3_40) rfl k) ?_
  show own_Go p.tables e below _ T3 (mkF m 41 #[.val (.ref a1), .val (.long (own_m2 (own_m1 z))), .second] [(.long (own_m2 (own_m1 z))), (.long (own_m2 (own_m1 z)))])
  refine own_go (fun t k => XS.bipush X3.here hx rfl (hb hby d3_41) k) ?_
  show own_Go p.tables e below _ T3 (mkF m 43 #[.val (.ref a1), .val (.long (own_m2 (own_m1 z))), .second] [(.int (31 : Int32)), (.long (own_m2 (own_m1 z))), (.long (own_m2 (own_m1 z)))])
  refine own_go (fun t k => XT.lushr X3.here hx rfl (hb hby d3_43) rfl k) ?_
  show own_Go p.tables e below _ T3 (mkF m 44 #[.val (.ref a1), .val (.long (own_m2 (own_m1 z))), .second] [(.long (XT.ushrL (own_m2 (own_m1 z)) (31 : Int32))), (.long (own_m2 (own_m1 z)))])
  refine own_go (fun t k => XT.lxor X3.here hx rfl (hb hby d3_44) rfl k) ?_
  show own_Go p.tables e below _ T3 (mkF m 45 #[.val (.ref a1), .val (.long (own_m2 (own_m1 z))), .second] [(.long ((own_m2 (own_m1 z)) ^^^ (XT.ushrL (own_m2 (own_m1 z)) (31 : Int32))))])
  show own_Go p.tables e below _ T3 (mkF m 45 #[.val (.ref a1), .val (.long (own_m2 (own_m1 z))), .second] [(.long (own_mix z))])
  obtain ⟨fs, hr, hrun, hended, hW, hsame⟩ := X3.leave (v := some (.long (own_mix z))) (fun h => by rw [Bd.returns] at h; cases h)
  refine ⟨_, _, ?_, hrun, hended, _, _, rfl, ?_, ⟨_, rfl⟩, hW, hsame.mono (by decide) (by decide)⟩
  · exact X3.lreturnOut hx Bd.returns (hb hby d3_45) hr
  · show Q3 Z a1 w h0 n0 _ T3.heap _
    rw [e3]
    exact ⟨(by rw [← gz]), N2, (Keep.refl _ _).wr W2 (Or.inl (List.mem_of_getElem? (i := 0) rfl)), Ex.wr W2, Fw2⟩
theorem d5_0 : decode method_3_code 0 = .ok (.lload_n 0, 1) := by decide +kernel
theorem d5_1 : decode method_3_code 1 = .ok (.lload_n 0, 1) := by decide +kernel
theorem d5_2 : decode method_3_code 2 = .ok (.iload_n 2, 1) := by decide +kernel
theorem d5_3 : decode method_3_code 3 = .ok (.lushr, 1) := by decide +kernel
theorem d5_4 : decode method_3_code 4 = .ok (.lxor, 1) := by decide +kernel
theorem d5_5 : decode method_3_code 5 = .ok (.lload_n 0, 1) := by decide +kernel
theorem d5_6 : decode method_3_code 6 = .ok (.iconst 2, 1) := by decide +kernel
theorem d5_7 : decode method_3_code 7 = .ok (.iload_n 2, 1) := by decide +kernel
theorem d5_8 : decode method_3_code 8 = .ok (.imul, 1) := by decide +kernel
theorem d5_9 : decode method_3_code 9 = .ok (.lushr, 1) := by decide +kernel
theorem d5_10 : decode method_3_code 10 = .ok (.lxor, 1) := by decide +kernel
theorem d5_11 : decode method_3_code 11 = .ok (.lreturn, 1) := by decide +kernel
theorem pn_1 : plainName "com/example/gunline/gunline/core/SeededDiceNextPinLaw" = true := by first | (simp [plainName, overriddenIn]; done) | decide +kernel
theorem ef_5 (m : MethodId) {q1 : Int64} {p2 : Int32} : entryFrame m #[(.long q1), (.int p2)] 3 = mkF m 0 #[.val (.long q1), .second, .val (.int p2)] [] := by first | (simp [entryFrame, mkF, argsToLocals, Value.category]; done) | rfl
def Q5 (Z : State) (q1 : Int64) (p2 : Int32) (h0 : Heap) (n0 : Nat) (v : Option Value) (h : Heap) (L : List Loc) : Prop := v = some (.long (own_us q1 p2)) ∧ Fr n0 L ∧ h = h0
set_option maxRecDepth 65536 in
set_option maxHeartbeats 40000000 in
theorem rm5 (l : Launch) (Z : State) (a0 : Array Value) (hw : ∀ d ∈ tables_1, d.before a0 Z = true) (ws : List Jvm.Cond) (q1 : Int64) (p2 : Int32) (h0 : Heap) (n0 : Nat) (Z0 : n0 ≤ h0.size) :
    MetFree l (⟨"com/example/gunline/gunline/core/SeededDiceNextPinLaw", "unshift", "(JI)J"⟩ : MethodName) (head1 (Jvm.Cond.code (⟨"com/example/gunline/gunline/core/SeededDiceNextPinLaw", "unshift", "(JI)J"⟩ : MethodName) method_3_code 3 (some .long) :: ws) ({ frames := 0, cells := 0, slots := 0, locals := 0 } : Room)) (fun a U => a = #[(.long q1), (.int p2)] ∧ Z.Warmed39 U.vm ∧ U.heap = h0) (fun _ _ _ _ _ => True) (fun _ U o U' => ∃ v L, o = .returned v ∧ Q5 Z q1 p2 h0 n0 v U'.heap L ∧ FrameEnd U o U' L (({ frames := 0, cells := 0, slots := 0, locals := 0 } : Room)).cells (({ frames := 0, cells := 0, slots := 0, locals := 0 } : Room)).slots) := by
  refine MetFree.of_bodySF (plainFor_of_name pn_1) hisR ?_
  intro p e s m args below meth c s₁ Bd hml0 hP hK
  obtain ⟨rfl, hZ, hh⟩ := hP
  have hx := Bd.exec
  have hby := Bd.bytes
  have hml : c.maxLocals = 3 := hml0
  have hown : s.vm.findClass "com/example/gunline/gunline/core/SeededDiceNextPinLaw" = some m.cls := findClass_of_methodNamed Bd.named
  have hnm := (name_of_methodNamed Bd.named Bd.method).1
  have X0 : Stand p l e ({ frames := 0, cells := 0, slots := 0, locals := 0 } : Room) s m #[(.long q1), (.int p2)] below meth c s₁ [] 0 0 := Stand.of_body Bd
  have e0 : s₁.heap = h0 := by rw [← hh, Bd.state]; rfl
  have N0 := Fr.nil n0
  show own_Go p.tables e below (own_P s (Q5 Z q1 p2 h0 n0) ({ frames := 0, cells := 0, slots := 0, locals := 0 } : Room).cells ({ frames := 0, cells := 0, slots := 0, locals := 0 } : Room).slots) s₁ _
  rw [ef_5]
  show own_Go p.tables e below _ s₁ (mkF m 0 #[.val (.long q1), .second, .val (.int p2)] [])
  refine own_go (fun t k => XT.lloadN X0.here hx rfl (hb hby d5_0) rfl k) ?_
  show own_Go p.tables e below _ s₁ (mkF m 1 #[.val (.long q1), .second, .val (.int p2)] [(.long q1)])
  refine own_go (fun t k => XT.lloadN X0.here hx rfl (hb hby d5_1) rfl k) ?_
  show own_Go p.tables e below _ s₁ (mkF m 2 #[.val (.long q1), .second, .val (.int p2)] [(.long q1), (.long q1)])
  refine own_go (fun t k => XS.iloadN X0.here hx rfl (hb hby d5_2) rfl k) ?_
  show own_Go p.tables e below _ s₁ (mkF m 3 #[.val (.long q1), .second, .val (.int p2)] [(.int p2), (.long q1), (.long q1)])
  refine own_go (fun t k => XT.lushr X0.here hx rfl (hb hby d5_3) rfl k) ?_
  show own_Go p.tables e below _ s₁ (mkF m 4 #[.val (.long q1), .second, .val (.int p2)] [(.long (XT.ushrL q1 p2)), (.long q1)])
  refine own_go (fun t k => XT.lxor X0.here hx rfl (hb hby d5_4) rfl k) ?_
  show own_Go p.tables e below _ s₁ (mkF m 5 #[.val (.long q1), .second, .val (.int p2)] [(.long (q1 ^^^ (XT.ushrL q1 p2)))])
  refine own_go (fun t k => XT.lloadN X0.here hx rfl (hb hby d5_5) rfl k) ?_
  show own_Go p.tables e below _ s₁ (mkF m 6 #[.val (.long q1), .second, .val (.int p2)] [(.long q1), (.long (q1 ^^^ (XT.ushrL q1 p2)))])
  refine own_go (fun t k => XS.iconst X0.here hx rfl (hb hby d5_6) k) ?_
  show own_Go p.tables e below _ s₁ (mkF m 7 #[.val (.long q1), .second, .val (.int p2)] [(.int (2 : Int32)), (.long q1), (.long (q1 ^^^ (XT.ushrL q1 p2)))])
  refine own_go (fun t k => XS.iloadN X0.here hx rfl (hb hby d5_7) rfl k) ?_
  show own_Go p.tables e below _ s₁ (mkF m 8 #[.val (.long q1), .second, .val (.int p2)] [(.int p2), (.int (2 : Int32)), (.long q1), (.long (q1 ^^^ (XT.ushrL q1 p2)))])
  refine own_go (fun t k => XS.imul X0.here hx rfl (hb hby d5_8) rfl k) ?_
  show own_Go p.tables e below _ s₁ (mkF m 9 #[.val (.long q1), .second, .val (.int p2)] [(.int ((2 : Int32) * p2)), (.long q1), (.long (q1 ^^^ (XT.ushrL q1 p2)))])
  refine own_go (fun t k => XT.lushr X0.here hx rfl (hb hby d5_9) rfl k) ?_
  show own_Go p.tables e below _ s₁ (mkF m 10 #[.val (.long q1), .second, .val (.int p2)] [(.long (XT.ushrL q1 ((2 : Int32) * p2))), (.long (q1 ^^^ (XT.ushrL q1 p2)))])
  refine own_go (fun t k => XT.lxor X0.here hx rfl (hb hby d5_10) rfl k) ?_
  show own_Go p.tables e below _ s₁ (mkF m 11 #[.val (.long q1), .second, .val (.int p2)] [(.long ((q1 ^^^ (XT.ushrL q1 p2)) ^^^ (XT.ushrL q1 ((2 : Int32) * p2))))])
  obtain ⟨fs, hr, hrun, hended, hW, hsame⟩ := X0.leave (v := some (.long ((q1 ^^^ (XT.ushrL q1 p2)) ^^^ (XT.ushrL q1 ((2 : Int32) * p2))))) (fun h => by rw [Bd.returns] at h; cases h)
  refine ⟨_, _, ?_, hrun, hended, _, _, rfl, ?_, ⟨_, rfl⟩, hW, hsame.mono (by decide) (by decide)⟩
  · exact X0.lreturnOut hx Bd.returns (hb hby d5_11) hr
  · show Q5 Z q1 p2 h0 n0 _ s₁.heap _
    rw [e0]
    exact ⟨rfl, N0, rfl⟩
theorem d6_0 : decode method_2_code 0 = .ok (.lload_n 0, 1) := by decide +kernel
theorem d6_1 : decode method_2_code 1 = .ok (.lstore_n 2, 1) := by decide +kernel
theorem d6_2 : decode method_2_code 2 = .ok (.lload_n 2, 1) := by decide +kernel
theorem d6_3 : decode method_2_code 3 = .ok (.ldc2_w 7, 3) := by decide +kernel
theorem d6_6 : decode method_2_code 6 = .ok (.lload_n 0, 1) := by decide +kernel
theorem d6_7 : decode method_2_code 7 = .ok (.lload_n 2, 1) := by decide +kernel
theorem d6_8 : decode method_2_code 8 = .ok (.lmul, 1) := by decide +kernel
theorem d6_9 : decode method_2_code 9 = .ok (.lsub, 1) := by decide +kernel
theorem d6_10 : decode method_2_code 10 = .ok (.lmul, 1) := by decide +kernel
theorem d6_11 : decode method_2_code 11 = .ok (.lstore_n 2, 1) := by decide +kernel
theorem d6_12 : decode method_2_code 12 = .ok (.lload_n 2, 1) := by decide +kernel
theorem d6_13 : decode method_2_code 13 = .ok (.ldc2_w 7, 3) := by decide +kernel
theorem d6_16 : decode method_2_code 16 = .ok (.lload_n 0, 1) := by decide +kernel
theorem d6_17 : decode method_2_code 17 = .ok (.lload_n 2, 1) := by decide +kernel
theorem d6_18 : decode method_2_code 18 = .ok (.lmul, 1) := by decide +kernel
theorem d6_19 : decode method_2_code 19 = .ok (.lsub, 1) := by decide +kernel
theorem d6_20 : decode method_2_code 20 = .ok (.lmul, 1) := by decide +kernel
theorem d6_21 : decode method_2_code 21 = .ok (.lstore_n 2, 1) := by decide +kernel
theorem d6_22 : decode method_2_code 22 = .ok (.lload_n 2, 1) := by decide +kernel
theorem d6_23 : decode method_2_code 23 = .ok (.ldc2_w 7, 3) := by decide +kernel
theorem d6_26 : decode method_2_code 26 = .ok (.lload_n 0, 1) := by decide +kernel
theorem d6_27 : decode method_2_code 27 = .ok (.lload_n 2, 1) := by decide +kernel
theorem d6_28 : decode method_2_code 28 = .ok (.lmul, 1) := by decide +kernel
theorem d6_29 : decode method_2_code 29 = .ok (.lsub, 1) := by decide +kernel
theorem d6_30 : decode method_2_code 30 = .ok (.lmul, 1) := by decide +kernel
theorem d6_31 : decode method_2_code 31 = .ok (.lstore_n 2, 1) := by decide +kernel
theorem d6_32 : decode method_2_code 32 = .ok (.lload_n 2, 1) := by decide +kernel
theorem d6_33 : decode method_2_code 33 = .ok (.ldc2_w 7, 3) := by decide +kernel
theorem d6_36 : decode method_2_code 36 = .ok (.lload_n 0, 1) := by decide +kernel
theorem d6_37 : decode method_2_code 37 = .ok (.lload_n 2, 1) := by decide +kernel
theorem d6_38 : decode method_2_code 38 = .ok (.lmul, 1) := by decide +kernel
theorem d6_39 : decode method_2_code 39 = .ok (.lsub, 1) := by decide +kernel
theorem d6_40 : decode method_2_code 40 = .ok (.lmul, 1) := by decide +kernel
theorem d6_41 : decode method_2_code 41 = .ok (.lstore_n 2, 1) := by decide +kernel
theorem d6_42 : decode method_2_code 42 = .ok (.lload_n 2, 1) := by decide +kernel
theorem d6_43 : decode method_2_code 43 = .ok (.ldc2_w 7, 3) := by decide +kernel
theorem d6_46 : decode method_2_code 46 = .ok (.lload_n 0, 1) := by decide +kernel
theorem d6_47 : decode method_2_code 47 = .ok (.lload_n 2, 1) := by decide +kernel
theorem d6_48 : decode method_2_code 48 = .ok (.lmul, 1) := by decide +kernel
theorem d6_49 : decode method_2_code 49 = .ok (.lsub, 1) := by decide +kernel
theorem d6_50 : decode method_2_code 50 = .ok (.lmul, 1) := by decide +kernel
theorem d6_51 : decode method_2_code 51 = .ok (.lstore_n 2, 1) := by decide +kernel
theorem d6_52 : decode method_2_code 52 = .ok (.lload_n 2, 1) := by decide +kernel
theorem d6_53 : decode method_2_code 53 = .ok (.lreturn, 1) := by decide +kernel
theorem ef_6 (m : MethodId) {q1 : Int64} : entryFrame m #[(.long q1)] 4 = mkF m 0 #[.val (.long q1), .second, .unset, .unset] [] := by first | (simp [entryFrame, mkF, argsToLocals, Value.category]; done) | rfl
def Q6 (Z : State) (q1 : Int64) (h0 : Heap) (n0 : Nat) (v : Option Value) (h : Heap) (L : List Loc) : Prop := v = some (.long (own_inv q1)) ∧ Fr n0 L ∧ h = h0
set_option maxRecDepth 65536 in
set_option maxHeartbeats 40000000 in
theorem rm6 (l : Launch) (Z : State) (a0 : Array Value) (hw : ∀ d ∈ tables_1, d.before a0 Z = true) (ws : List Jvm.Cond) (q1 : Int64) (h0 : Heap) (n0 : Nat) (Z0 : n0 ≤ h0.size) :
    MetFree l (⟨"com/example/gunline/gunline/core/SeededDiceNextPinLaw", "inv", "(J)J"⟩ : MethodName) (head1 (Jvm.Cond.code (⟨"com/example/gunline/gunline/core/SeededDiceNextPinLaw", "inv", "(J)J"⟩ : MethodName) method_2_code 4 (some .long) :: ws) ({ frames := 0, cells := 0, slots := 0, locals := 0 } : Room)) (fun a U => a = #[(.long q1)] ∧ Z.Warmed39 U.vm ∧ U.heap = h0) (fun _ _ _ _ _ => True) (fun _ U o U' => ∃ v L, o = .returned v ∧ Q6 Z q1 h0 n0 v U'.heap L ∧ FrameEnd U o U' L (({ frames := 0, cells := 0, slots := 0, locals := 0 } : Room)).cells (({ frames := 0, cells := 0, slots := 0, locals := 0 } : Room)).slots) := by
  refine MetFree.of_bodySF (plainFor_of_name pn_1) hisR ?_
  intro p e s m args below meth c s₁ Bd hml0 hP hK
  obtain ⟨rfl, hZ, hh⟩ := hP
  have hx := Bd.exec
  have hby := Bd.bytes
  have hml : c.maxLocals = 4 := hml0
  have hown : s.vm.findClass "com/example/gunline/gunline/core/SeededDiceNextPinLaw" = some m.cls := findClass_of_methodNamed Bd.named
  have hnm := (name_of_methodNamed Bd.named Bd.method).1
  have X0 : Stand p l e ({ frames := 0, cells := 0, slots := 0, locals := 0 } : Room) s m #[(.long q1)] below meth c s₁ [] 0 0 := Stand.of_body Bd
  have e0 : s₁.heap = h0 := by rw [← hh, Bd.state]; rfl
  have N0 := Fr.nil n0
  show own_Go p.tables e below (own_P s (Q6 Z q1 h0 n0) ({ frames := 0, cells := 0, slots := 0, locals := 0 } : Room).cells ({ frames := 0, cells := 0, slots := 0, locals := 0 } : Room).slots) s₁ _
  rw [ef_6]
  show own_Go p.tables e below _ s₁ (mkF m 0 #[.val (.long q1), .second, .unset, .unset] [])
  refine own_go (fun t k => XT.lloadN X0.here hx rfl (hb hby d6_0) rfl k) ?_
  show own_Go p.tables e below _ s₁ (mkF m 1 #[.val (.long q1), .second, .unset, .unset] [(.long q1)])
  refine own_go (fun t k => XT.lstoreN X0.here hx rfl (hb hby d6_1) rfl (l' := #[.val (.long q1), .second, .val (.long q1), .second]) rfl k) ?_
  show own_Go p.tables e below _ s₁ (mkF m 2 #[.val (.long q1), .second, .val (.long q1), .second] [])
  refine own_go (fun t k => XT.lloadN X0.here hx rfl (hb hby d6_2) rfl k) ?_
  show own_Go p.tables e below _ s₁ (mkF m 3 #[.val (.long q1), .second, .val (.long q1), .second] [(.long q1)])
  refine own_go (fun t k => X0.ldc2J hx hown (mvT hZ (hw _ (List.mem_of_getElem? (i := 30) rfl))) rfl (hb hby d6_3) k) ?_
  show own_Go p.tables e below _ s₁ (mkF m 6 #[.val (.long q1), .second, .val (.long q1), .second] [(.long (2 : Int64)), (.long q1)])
  refine own_go (fun t k => XT.lloadN X0.here hx rfl (hb hby d6_6) rfl k) ?_
  show own_Go p.tables e below _ s₁ (mkF m 7 #[.val (.long q1), .second, .val (.long q1), .second] [(.long q1), (.long (2 : Int64)), (.long q1)])
  refine own_go (fun t k => XT.lloadN X0.here hx rfl (hb hby d6_7) rfl k) ?_
  show own_Go p.tables e below _ s₁ (mkF m 8 #[.val (.long q1), .second, .val (.long q1), .second] [(.long q1), (.long q1), (.long (2 : Int64)), (.long q1)])
  refine own_go (fun t k => XT.lmul X0.here hx rfl (hb hby d6_8) rfl k) ?_
  show own_Go p.tables e below _ s₁ (mkF m 9 #[.val (.long q1), .second, .val (.long q1), .second] [(.long (q1 * q1)), (.long (2 : Int64)), (.long q1)])
  refine own_go (fun t k => XT.lsub X0.here hx rfl (hb hby d6_9) rfl k) ?_
  show own_Go p.tables e below _ s₁ (mkF m 10 #[.val (.long q1), .second, .val (.long q1), .second] [(.long ((2 : Int64) - (q1 * q1))), (.long q1)])
  refine own_go (fun t k => XT.lmul X0.here hx rfl (hb hby d6_10) rfl k) ?_
  show own_Go p.tables e below _ s₁ (mkF m 11 #[.val (.long q1), .second, .val (.long q1), .second] [(.long (q1 * ((2 : Int64) - (q1 * q1))))])
  show own_Go p.tables e below _ s₁ (mkF m 11 #[.val (.long q1), .second, .val (.long q1), .second] [(.long (own_it q1 q1))])
  refine own_go (fun t k => XT.lstoreN X0.here hx rfl (hb hby d6_11) rfl (l' := #[.val (.long q1), .second, .val (.long (own_it q1 q1)), .second]) rfl k) ?_
  show own_Go p.tables e below _ s₁ (mkF m 12 #[.val (.long q1), .second, .val (.long (own_it q1 q1)), .second] [])
  refine own_go (fun t k => XT.lloadN X0.here hx rfl (hb hby d6_12) rfl k) ?_
  show own_Go p.tables e below _ s₁ (mkF m 13 #[.val (.long q1), .second, .val (.long (own_it q1 q1)), .second] [(.long (own_it q1 q1))])
  refine own_go (fun t k => X0.ldc2J hx hown (mvT hZ (hw _ (List.mem_of_getElem? (i := 30) rfl))) rfl (hb hby d6_13) k) ?_
  show own_Go p.tables e below _ s₁ (mkF m 16 #[.val (.long q1), .second, .val (.long (own_it q1 q1)), .second] [(.long (2 : Int64)), (.long (own_it q1 q1))])
  refine own_go (fun t k => XT.lloadN X0.here hx rfl (hb hby d6_16) rfl k) ?_
  show own_Go p.tables e below _ s₁ (mkF m 17 #[.val (.long q1), .second, .val (.long (own_it q1 q1)), .second] [(.long q1), (.long (2 : Int64)), (.long (own_it q1 q1))])
  refine own_go (fun t k => XT.lloadN X0.here hx rfl (hb hby d6_17) rfl k) ?_
  show own_Go p.tables e below _ s₁ (mkF m 18 #[.val (.long q1), .second, .val (.long (own_it q1 q1)), .second] [(.long (own_it q1 q1)), (.long q1), (.long (2 : Int64)), (.long (own_it q1 q1))])
  refine own_go (fun t k => XT.lmul X0.here hx rfl (hb hby d6_18) rfl k) ?_
  show own_Go p.tables e below _ s₁ (mkF m 19 #[.val (.long q1), .second, .val (.long (own_it q1 q1)), .second] [(.long (q1 * (own_it q1 q1))), (.long (2 : Int64)), (.long (own_it q1 q1))])
  refine own_go (fun t k => XT.lsub X0.here hx rfl (hb hby d6_19) rfl k) ?_
  show own_Go p.tables e below _ s₁ (mkF m 20 #[.val (.long q1), .second, .val (.long (own_it q1 q1)), .second] [(.long ((2 : Int64) - (q1 * (own_it q1 q1)))), (.long (own_it q1 q1))])
  refine own_go (fun t k => XT.lmul X0.here hx rfl (hb hby d6_20) rfl k) ?_
  show own_Go p.tables e below _ s₁ (mkF m 21 #[.val (.long q1), .second, .val (.long (own_it q1 q1)), .second] [(.long ((own_it q1 q1) * ((2 : Int64) - (q1 * (own_it q1 q1)))))])
  show own_Go p.tables e below _ s₁ (mkF m 21 #[.val (.long q1), .second, .val (.long (own_it q1 q1)), .second] [(.long (own_it q1 (own_it q1 q1)))])
  refine own_go (fun t k => XT.lstoreN X0.here hx rfl (hb hby d6_21) rfl (l' := #[.val (.long q1), .second, .val (.long (own_it q1 (own_it q1 q1))), .second]) rfl k) ?_
  show own_Go p.tables e below _ s₁ (mkF m 22 #[.val (.long q1), .second, .val (.long (own_it q1 (own_it q1 q1))), .second] [])
  refine own_go (fun t k => XT.lloadN X0.here hx rfl (hb hby d6_22) rfl k) ?_
  show own_Go p.tables e below _ s₁ (mkF m 23 #[.val (.long q1), .second, .val (.long (own_it q1 (own_it q1 q1))), .second] [(.long (own_it q1 (own_it q1 q1)))])
  refine own_go (fun t k => X0.ldc2J hx hown (mvT hZ (hw _ (List.mem_of_getElem? (i := 30) rfl))) rfl (hb hby d6_23) k) ?_
  show own_Go p.tables e below _ s₁ (mkF m 26 #[.val (.long q1), .second, .val (.long (own_it q1 (own_it q1 q1))), .second] [(.long (2 : Int64)), (.long (own_it q1 (own_it q1 q1)))])
  refine own_go (fun t k => XT.lloadN X0.here hx rfl (hb hby d6_26) rfl k) ?_
  show own_Go p.tables e below _ s₁ (mkF m 27 #[.val (.long q1), .second, .val (.long (own_it q1 (own_it q1 q1))), .second] [(.long q1), (.long (2 : Int64)), (.long (own_it q1 (own_it q1 q1)))])
  refine own_go (fun t k => XT.lloadN X0.here hx rfl (hb hby d6_27) rfl k) ?_
  show own_Go p.tables e below _ s₁ (mkF m 28 #[.val (.long q1), .second, .val (.long (own_it q1 (own_it q1 q1))), .second] [(.long (own_it q1 (own_it q1 q1))), (.long q1), (.long (2 : Int64)), (.long (own_it q1 (own_it q1 q1)))])
  refine own_go (fun t k => XT.lmul X0.here hx rfl (hb hby d6_28) rfl k) ?_
  show own_Go p.tables e below _ s₁ (mkF m 29 #[.val (.long q1), .second, .val (.long (own_it q1 (own_it q1 q1))), .second] [(.long (q1 * (own_it q1 (own_it q1 q1)))), (.long (2 : Int64)), (.long (own_it q1 (own_it q1 q1)))])
  refine own_go (fun t k => XT.lsub X0.here hx rfl (hb hby d6_29) rfl k) ?_
  show own_Go p.tables e below _ s₁ (mkF m 30 #[.val (.long q1), .second, .val (.long (own_it q1 (own_it q1 q1))), .second] [(.long ((2 : Int64) - (q1 * (own_it q1 (own_it q1 q1))))), (.long (own_it q1 (own_it q1 q1)))])
  refine own_go (fun t k => XT.lmul X0.here hx rfl (hb hby d6_30) rfl k) ?_
  show own_Go p.tables e below _ s₁ (mkF m 31 #[.val (.long q1), .second, .val (.long (own_it q1 (own_it q1 q1))), .second] [(.long ((own_it q1 (own_it q1 q1)) * ((2 : Int64) - (q1 * (own_it q1 (own_it q1 q1))))))])
  show own_Go p.tables e below _ s₁ (mkF m 31 #[.val (.long q1), .second, .val (.long (own_it q1 (own_it q1 q1))), .second] [(.long (own_it q1 (own_it q1 (own_it q1 q1))))])
  refine own_go (fun t k => XT.lstoreN X0.here hx rfl (hb hby d6_31) rfl (l' := #[.val (.long q1), .second, .val (.long (own_it q1 (own_it q1 (own_it q1 q1)))), .second]) rfl k) ?_
  show own_Go p.tables e below _ s₁ (mkF m 32 #[.val (.long q1), .second, .val (.long (own_it q1 (own_it q1 (own_it q1 q1)))), .second] [])
  refine own_go (fun t k => XT.lloadN X0.here hx rfl (hb hby d6_32) rfl k) ?_
  show own_Go p.tables e below _ s₁ (mkF m 33 #[.val (.long q1), .second, .val (.long (own_it q1 (own_it q1 (own_it q1 q1)))), .second] [(.long (own_it q1 (own_it q1 (own_it q1 q1))))])
  refine own_go (fun t k => X0.ldc2J hx hown (mvT hZ (hw _ (List.mem_of_getElem? (i := 30) rfl))) rfl (hb hby d6_33) k) ?_
  show own_Go p.tables e below _ s₁ (mkF m 36 #[.val (.long q1), .second, .val (.long (own_it q1 (own_it q1 (own_it q1 q1)))), .second] [(.long (2 : Int64)), (.long (own_it q1 (own_it q1 (own_it q1 q1))))])
  refine own_go (fun t k => XT.lloadN X0.here hx rfl (hb hby d6_36) rfl k) ?_
  show own_Go p.tables e below _ s₁ (mkF m 37 #[.val (.long q1), .second, .val (.long (own_it q1 (own_it q1 (own_it q1 q1)))), .second] [(.long q1), (.long (2 : Int64)), (.long (own_it q1 (own_it q1 (own_it q1 q1))))])
  refine own_go (fun t k => XT.lloadN X0.here hx rfl (hb hby d6_37) rfl k) ?_
  show own_Go p.tables e below _ s₁ (mkF m 38 #[.val (.long q1), .second, .val (.long (own_it q1 (own_it q1 (own_it q1 q1)))), .second] [(.long (own_it q1 (own_it q1 (own_it q1 q1)))), (.long q1), (.long (2 : Int64)), (.long (own_it q1 (own_it q1 (own_it q1 q1))))])
  refine own_go (fun t k => XT.lmul X0.here hx rfl (hb hby d6_38) rfl k) ?_
  show own_Go p.tables e below _ s₁ (mkF m 39 #[.val (.long q1), .second, .val (.long (own_it q1 (own_it q1 (own_it q1 q1)))), .second] [(.long (q1 * (own_it q1 (own_it q1 (own_it q1 q1))))), (.long (2 : Int64)), (.long (own_it q1 (own_it q1 (own_it q1 q1))))])
  refine own_go (fun t k => XT.lsub X0.here hx rfl (hb hby d6_39) rfl k) ?_
  show own_Go p.tables e below _ s₁ (mkF m 40 #[.val (.long q1), .second, .val (.long (own_it q1 (own_it q1 (own_it q1 q1)))), .second] [(.long ((2 : Int64) - (q1 * (own_it q1 (own_it q1 (own_it q1 q1)))))), (.long (own_it q1 (own_it q1 (own_it q1 q1))))])
  refine own_go (fun t k => XT.lmul X0.here hx rfl (hb hby d6_40) rfl k) ?_
  show own_Go p.tables e below _ s₁ (mkF m 41 #[.val (.long q1), .second, .val (.long (own_it q1 (own_it q1 (own_it q1 q1)))), .second] [(.long ((own_it q1 (own_it q1 (own_it q1 q1))) * ((2 : Int64) - (q1 * (own_it q1 (own_it q1 (own_it q1 q1)))))))])
  show own_Go p.tables e below _ s₁ (mkF m 41 #[.val (.long q1), .second, .val (.long (own_it q1 (own_it q1 (own_it q1 q1)))), .second] [(.long (own_it q1 (own_it q1 (own_it q1 (own_it q1 q1)))))])
  refine own_go (fun t k => XT.lstoreN X0.here hx rfl (hb hby d6_41) rfl (l' := #[.val (.long q1), .second, .val (.long (own_it q1 (own_it q1 (own_it q1 (own_it q1 q1))))), .second]) rfl k) ?_
  show own_Go p.tables e below _ s₁ (mkF m 42 #[.val (.long q1), .second, .val (.long (own_it q1 (own_it q1 (own_it q1 (own_it q1 q1))))), .second] [])
  refine own_go (fun t k => XT.lloadN X0.here hx rfl (hb hby d6_42) rfl k) ?_
  show own_Go p.tables e below _ s₁ (mkF m 43 #[.val (.long q1), .second, .val (.long (own_it q1 (own_it q1 (own_it q1 (own_it q1 q1))))), .second] [(.long (own_it q1 (own_it q1 (own_it q1 (own_it q1 q1)))))])
  refine own_go (fun t k => X0.ldc2J hx hown (mvT hZ (hw _ (List.mem_of_getElem? (i := 30) rfl))) rfl (hb hby d6_43) k) ?_
  show own_Go p.tables e below _ s₁ (mkF m 46 #[.val (.long q1), .second, .val (.long (own_it q1 (own_it q1 (own_it q1 (own_it q1 q1))))), .second] [(.long (2 : Int64)), (.long (own_it q1 (own_it q1 (own_it q1 (own_it q1 q1)))))])
  refine own_go (fun t k => XT.lloadN X0.here hx rfl (hb hby d6_46) rfl k) ?_
  show own_Go p.tables e below _ s₁ (mkF m 47 #[.val (.long q1), .second, .val (.long (own_it q1 (own_it q1 (own_it q1 (own_it q1 q1))))), .second] [(.long q1), (.long (2 : Int64)), (.long (own_it q1 (own_it q1 (own_it q1 (own_it q1 q1)))))])
  refine own_go (fun t k => XT.lloadN X0.here hx rfl (hb hby d6_47) rfl k) ?_
  show own_Go p.tables e below _ s₁ (mkF m 48 #[.val (.long q1), .second, .val (.long (own_it q1 (own_it q1 (own_it q1 (own_it q1 q1))))), .second] [(.long (own_it q1 (own_it q1 (own_it q1 (own_it q1 q1))))), (.long q1), (.long (2 : Int64)), (.long (own_it q1 (own_it q1 (own_it q1 (own_it q1 q1)))))])
  refine own_go (fun t k => XT.lmul X0.here hx rfl (hb hby d6_48) rfl k) ?_
  show own_Go p.tables e below _ s₁ (mkF m 49 #[.val (.long q1), .second, .val (.long (own_it q1 (own_it q1 (own_it q1 (own_it q1 q1))))), .second] [(.long (q1 * (own_it q1 (own_it q1 (own_it q1 (own_it q1 q1)))))), (.long (2 : Int64)), (.long (own_it q1 (own_it q1 (own_it q1 (own_it q1 q1)))))])
  refine own_go (fun t k => XT.lsub X0.here hx rfl (hb hby d6_49) rfl k) ?_
  show own_Go p.tables e below _ s₁ (mkF m 50 #[.val (.long q1), .second, .val (.long (own_it q1 (own_it q1 (own_it q1 (own_it q1 q1))))), .second] [(.long ((2 : Int64) - (q1 * (own_it q1 (own_it q1 (own_it q1 (own_it q1 q1))))))), (.long (own_it q1 (own_it q1 (own_it q1 (own_it q1 q1)))))])
  refine own_go (fun t k => XT.lmul X0.here hx rfl (hb hby d6_50) rfl k) ?_
  show own_Go p.tables e below _ s₁ (mkF m 51 #[.val (.long q1), .second, .val (.long (own_it q1 (own_it q1 (own_it q1 (own_it q1 q1))))), .second] [(.long ((own_it q1 (own_it q1 (own_it q1 (own_it q1 q1)))) * ((2 : Int64) - (q1 * (own_it q1 (own_it q1 (own_it q1 (own_it q1 q1))))))))])
  show own_Go p.tables e below _ s₁ (mkF m 51 #[.val (.long q1), .second, .val (.long (own_it q1 (own_it q1 (own_it q1 (own_it q1 q1))))), .second] [(.long (own_it q1 (own_it q1 (own_it q1 (own_it q1 (own_it q1 q1))))))])
  refine own_go (fun t k => XT.lstoreN X0.here hx rfl (hb hby d6_51) rfl (l' := #[.val (.long q1), .second, .val (.long (own_it q1 (own_it q1 (own_it q1 (own_it q1 (own_it q1 q1)))))), .second]) rfl k) ?_
  show own_Go p.tables e below _ s₁ (mkF m 52 #[.val (.long q1), .second, .val (.long (own_it q1 (own_it q1 (own_it q1 (own_it q1 (own_it q1 q1)))))), .second] [])
  refine own_go (fun t k => XT.lloadN X0.here hx rfl (hb hby d6_52) rfl k) ?_
  show own_Go p.tables e below _ s₁ (mkF m 53 #[.val (.long q1), .second, .val (.long (own_it q1 (own_it q1 (own_it q1 (own_it q1 (own_it q1 q1)))))), .second] [(.long (own_it q1 (own_it q1 (own_it q1 (own_it q1 (own_it q1 q1))))))])
  obtain ⟨fs, hr, hrun, hended, hW, hsame⟩ := X0.leave (v := some (.long (own_it q1 (own_it q1 (own_it q1 (own_it q1 (own_it q1 q1))))))) (fun h => by rw [Bd.returns] at h; cases h)
  refine ⟨_, _, ?_, hrun, hended, _, _, rfl, ?_, ⟨_, rfl⟩, hW, hsame.mono (by decide) (by decide)⟩
  · exact X0.lreturnOut hx Bd.returns (hb hby d6_53) hr
  · show Q6 Z q1 h0 n0 _ s₁.heap _
    rw [e0]
    exact ⟨rfl, N0, rfl⟩
theorem d4_0 : decode method_4_code 0 = .ok (.lload_n 0, 1) := by decide +kernel
theorem d4_1 : decode method_4_code 1 = .ok (.bipush 31, 2) := by decide +kernel
theorem d4_3 : decode method_4_code 3 = .ok (.invokestatic 9, 3) := by decide +kernel
theorem d4_6 : decode method_4_code 6 = .ok (.lstore_n 2, 1) := by decide +kernel
theorem d4_7 : decode method_4_code 7 = .ok (.lload_n 2, 1) := by decide +kernel
theorem d4_8 : decode method_4_code 8 = .ok (.ldc2_w 15, 3) := by decide +kernel
theorem d4_11 : decode method_4_code 11 = .ok (.invokestatic 17, 3) := by decide +kernel
theorem d4_14 : decode method_4_code 14 = .ok (.lmul, 1) := by decide +kernel
theorem d4_15 : decode method_4_code 15 = .ok (.lstore_n 2, 1) := by decide +kernel
theorem d4_16 : decode method_4_code 16 = .ok (.lload_n 2, 1) := by decide +kernel
theorem d4_17 : decode method_4_code 17 = .ok (.bipush 27, 2) := by decide +kernel
theorem d4_19 : decode method_4_code 19 = .ok (.invokestatic 9, 3) := by decide +kernel
theorem d4_22 : decode method_4_code 22 = .ok (.lstore_n 2, 1) := by decide +kernel
theorem d4_23 : decode method_4_code 23 = .ok (.lload_n 2, 1) := by decide +kernel
theorem d4_24 : decode method_4_code 24 = .ok (.ldc2_w 21, 3) := by decide +kernel
theorem d4_27 : decode method_4_code 27 = .ok (.invokestatic 17, 3) := by decide +kernel
theorem d4_30 : decode method_4_code 30 = .ok (.lmul, 1) := by decide +kernel
theorem d4_31 : decode method_4_code 31 = .ok (.lstore_n 2, 1) := by decide +kernel
theorem d4_32 : decode method_4_code 32 = .ok (.lload_n 2, 1) := by decide +kernel
theorem d4_33 : decode method_4_code 33 = .ok (.bipush 30, 2) := by decide +kernel
theorem d4_35 : decode method_4_code 35 = .ok (.invokestatic 9, 3) := by decide +kernel
theorem d4_38 : decode method_4_code 38 = .ok (.lreturn, 1) := by decide +kernel
theorem pd_0 : parseMethodDescriptor "(JI)J" = some ⟨[.long, .int], some .long⟩ := by decide +kernel
theorem pd_1 : parseMethodDescriptor "(J)J" = some ⟨[.long], some .long⟩ := by decide +kernel
theorem ef_4 (m : MethodId) {q1 : Int64} : entryFrame m #[(.long q1)] 4 = mkF m 0 #[.val (.long q1), .second, .unset, .unset] [] := by first | (simp [entryFrame, mkF, argsToLocals, Value.category]; done) | rfl
def Q4 (Z : State) (q1 : Int64) (h0 : Heap) (n0 : Nat) (v : Option Value) (h : Heap) (L : List Loc) : Prop := v = some (.long (own_un q1)) ∧ Fr n0 L ∧ h = h0
set_option maxRecDepth 65536 in
set_option maxHeartbeats 40000000 in
theorem rm4 (l : Launch) (Z : State) (a0 : Array Value) (hw : ∀ d ∈ tables_1, d.before a0 Z = true) (ws : List Jvm.Cond) (q1 : Int64) (h0 : Heap) (n0 : Nat) (Z0 : n0 ≤ h0.size) :
    MetFree l (⟨"com/example/gunline/gunline/core/SeededDiceNextPinLaw", "unmix", "(J)J"⟩ : MethodName) (head1 (Jvm.Cond.code (⟨"com/example/gunline/gunline/core/SeededDiceNextPinLaw", "unmix", "(J)J"⟩ : MethodName) method_4_code 4 (some .long) :: ws) ({ frames := 1, cells := 0, slots := 0, locals := 17 } : Room)) (fun a U => a = #[(.long q1)] ∧ Z.Warmed39 U.vm ∧ U.heap = h0) (fun _ _ _ _ _ => True) (fun _ U o U' => ∃ v L, o = .returned v ∧ Q4 Z q1 h0 n0 v U'.heap L ∧ FrameEnd U o U' L (({ frames := 1, cells := 0, slots := 0, locals := 17 } : Room)).cells (({ frames := 1, cells := 0, slots := 0, locals := 17 } : Room)).slots) := by
  refine MetFree.of_bodySF (plainFor_of_name pn_1) hisR ?_
  intro p e s m args below meth c s₁ Bd hml0 hP hK
  obtain ⟨rfl, hZ, hh⟩ := hP
  have hx := Bd.exec
  have hby := Bd.bytes
  have hml : c.maxLocals = 4 := hml0
  have hown : s.vm.findClass "com/example/gunline/gunline/core/SeededDiceNextPinLaw" = some m.cls := findClass_of_methodNamed Bd.named
  have hnm := (name_of_methodNamed Bd.named Bd.method).1
  have X0 : Stand p l e ({ frames := 1, cells := 0, slots := 0, locals := 17 } : Room) s m #[(.long q1)] below meth c s₁ [] 0 0 := Stand.of_body Bd
  have e0 : s₁.heap = h0 := by rw [← hh, Bd.state]; rfl
  have N0 := Fr.nil n0
  show own_Go p.tables e below (own_P s (Q4 Z q1 h0 n0) ({ frames := 1, cells := 0, slots := 0, locals := 17 } : Room).cells ({ frames := 1, cells := 0, slots := 0, locals := 17 } : Room).slots) s₁ _
  rw [ef_4]
  show own_Go p.tables e below _ s₁ (mkF m 0 #[.val (.long q1), .second, .unset, .unset] [])
  refine own_go (fun t k => XT.lloadN X0.here hx rfl (hb hby d4_0) rfl k) ?_
  show own_Go p.tables e below _ s₁ (mkF m 1 #[.val (.long q1), .second, .unset, .unset] [(.long q1)])
  refine own_go (fun t k => XS.bipush X0.here hx rfl (hb hby d4_1) k) ?_
  show own_Go p.tables e below _ s₁ (mkF m 3 #[.val (.long q1), .second, .unset, .unset] [(.int (31 : Int32)), (.long q1)])
  obtain ⟨_, _, ⟨T1, L1, k1, n1⟩, -, X1, ⟨Lc1, hQ1, l1, y1, z1⟩, st1⟩ := Jvm.LawKit.callS X0 hx (y := (⟨"com/example/gunline/gunline/core/SeededDiceNextPinLaw", "unshift", "(JI)J"⟩ : MethodName)) hown (mvT hZ (hw _ (List.mem_of_getElem? (i := 23) rfl))) (mvT hZ (hw _ (List.mem_of_getElem? (i := 24) rfl))) (mvT hZ (hw _ (List.mem_of_getElem? (i := 21) rfl))) (mvT hZ (hw _ (List.mem_of_getElem? (i := 25) rfl))) (by decide) (backOf (W := 0) (rm5 l Z a0 hw [] q1 (31 : Int32) h0 n0 Z0) hZ (hw _ (List.mem_of_getElem? (i := 25) rfl)) (hw _ (List.mem_of_getElem? (i := 21) rfl)) (by decide) (by decide)) (g := (mkF m 3 #[.val (.long q1), .second, .unset, .unset] [(.int (31 : Int32)), (.long q1)])) rfl (by rw [hml]; rfl) (argsL := [(.long q1), (.int (31 : Int32))]) (rest := []) (lenOf pd_0 rfl) rfl (by show 2 * 0 + _ ≤ _; exact Nat.le_of_eq rfl) (hb hby d4_3) (fun _ _ => ⟨rfl, e0, (by decide : 0 + 0 ≤ _), (by decide : 0 + 0 ≤ _)⟩)
  dsimp only [Pt.U, Pt.locs, Pt.cells, Pt.slots] at X1 l1 y1 z1 st1 hQ1
  subst l1 y1 z1
  obtain ⟨rfl, N1q, e1⟩ := hQ1
  have N1 := Fr.app N0 N1q
  refine own_go (fun t k => st1 t k) ?_
  show own_Go p.tables e below _ T1 (mkF m 6 #[.val (.long q1), .second, .unset, .unset] [(.long (own_us q1 (31 : Int32)))])
  refine own_go (fun t k => XT.lstoreN X1.here hx rfl (hb hby d4_6) rfl (l' := #[.val (.long q1), .second, .val (.long (own_us q1 (31 : Int32))), .second]) rfl k) ?_
  show own_Go p.tables e below _ T1 (mkF m 7 #[.val (.long q1), .second, .val (.long (own_us q1 (31 : Int32))), .second] [])
  refine own_go (fun t k => XT.lloadN X1.here hx rfl (hb hby d4_7) rfl k) ?_
  show own_Go p.tables e below _ T1 (mkF m 8 #[.val (.long q1), .second, .val (.long (own_us q1 (31 : Int32))), .second] [(.long (own_us q1 (31 : Int32)))])
  refine own_go (fun t k => X1.ldc2J hx hown (mvT hZ (hw _ (List.mem_of_getElem? (i := 26) rfl))) rfl (hb hby d4_8) k) ?_
  show own_Go p.tables e below _ T1 (mkF m 11 #[.val (.long q1), .second, .val (.long (own_us q1 (31 : Int32))), .second] [(.long (-7723592293110705685 : Int64)), (.long (own_us q1 (31 : Int32)))])
  obtain ⟨_, _, ⟨T2, L2, k2, n2⟩, -, X2, ⟨Lc2, hQ2, l2, y2, z2⟩, st2⟩ := Jvm.LawKit.callS X1 hx (y := (⟨"com/example/gunline/gunline/core/SeededDiceNextPinLaw", "inv", "(J)J"⟩ : MethodName)) hown (mvT hZ (hw _ (List.mem_of_getElem? (i := 27) rfl))) (mvT hZ (hw _ (List.mem_of_getElem? (i := 28) rfl))) (mvT hZ (hw _ (List.mem_of_getElem? (i := 21) rfl))) (mvT hZ (hw _ (List.mem_of_getElem? (i := 29) rfl))) (by decide) (backOf (W := 2) (rm6 l Z a0 hw [] (-7723592293110705685 : Int64) h0 n0 Z0) hZ (hw _ (List.mem_of_getElem? (i := 29) rfl)) (hw _ (List.mem_of_getElem? (i := 21) rfl)) (by decide) (by decide)) (g := (mkF m 11 #[.val (.long q1), .second, .val (.long (own_us q1 (31 : Int32))), .second] [(.long (-7723592293110705685 : Int64)), (.long (own_us q1 (31 : Int32)))])) rfl (by rw [hml]; rfl) (argsL := [(.long (-7723592293110705685 : Int64))]) (rest := [(.long (own_us q1 (31 : Int32)))]) (lenOf pd_1 rfl) rfl (by show 2 * 0 + _ ≤ _; exact Nat.le_of_eq rfl) (hb hby d4_11) (fun _ _ => ⟨rfl, e1, (by decide : 0 + 0 ≤ _), (by decide : 0 + 0 ≤ _)⟩)
  dsimp only [Pt.U, Pt.locs, Pt.cells, Pt.slots] at X2 l2 y2 z2 st2 hQ2
  subst l2 y2 z2
  obtain ⟨rfl, N2q, e2⟩ := hQ2
  have N2 := Fr.app N1 N2q
  refine own_go (fun t k => st2 t k) ?_
  show own_Go p.tables e below _ T2 (mkF m 14 #[.val (.long q1), .second, .val (.long (own_us q1 (31 : Int32))), .second] [(.long (own_inv (-7723592293110705685 : Int64))), (.long (own_us q1 (31 : Int32)))])
  refine own_go (fun t k => XT.lmul X2.here hx rfl (hb hby d4_14) rfl k) ?_
  show own_Go p.tables e below _ T2 (mkF m 15 #[.val (.long q1), .second, .val (.long (own_us q1 (31 : Int32))), .second] [(.long ((own_us q1 (31 : Int32)) * (own_inv (-7723592293110705685 : Int64))))])
  refine own_go (fun t k => XT.lstoreN X2.here hx rfl (hb hby d4_15) rfl (l' := #[.val (.long q1), .second, .val (.long ((own_us q1 (31 : Int32)) * (own_inv (-7723592293110705685 : Int64)))), .second]) rfl k) ?_
  show own_Go p.tables e below _ T2 (mkF m 16 #[.val (.long q1), .second, .val (.long ((own_us q1 (31 : Int32)) * (own_inv (-7723592293110705685 : Int64)))), .second] [])
  refine own_go (fun t k => XT.lloadN X2.here hx rfl (hb hby d4_16) rfl k) ?_
  show own_Go p.tables e below _ T2 (mkF m 17 #[.val (.long q1), .second, .val (.long ((own_us q1 (31 : Int32)) * (own_inv (-7723592293110705685 : Int64)))), .second] [(.long ((own_us q1 (31 : Int32)) * (own_inv (-7723592293110705685 : Int64))))])
  refine own_go (fun t k => XS.bipush X2.here hx rfl (hb hby d4_17) k) ?_
  show own_Go p.tables e below _ T2 (mkF m 19 #[.val (.long q1), .second, .val (.long ((own_us q1 (31 : Int32)) * (own_inv (-7723592293110705685 : Int64)))), .second] [(.int (27 : Int32)), (.long ((own_us q1 (31 : Int32)) * (own_inv (-7723592293110705685 : Int64))))])
  obtain ⟨_, _, ⟨T3, L3, k3, n3⟩, -, X3, ⟨Lc3, hQ3, l3, y3, z3⟩, st3⟩ := Jvm.LawKit.callS X2 hx (y := (⟨"com/example/gunline/gunline/core/SeededDiceNextPinLaw", "unshift", "(JI)J"⟩ : MethodName)) hown (mvT hZ (hw _ (List.mem_of_getElem? (i := 23) rfl))) (mvT hZ (hw _ (List.mem_of_getElem? (i := 24) rfl))) (mvT hZ (hw _ (List.mem_of_getElem? (i := 21) rfl))) (mvT hZ (hw _ (List.mem_of_getElem? (i := 25) rfl))) (by decide) (backOf (W := 0) (rm5 l Z a0 hw [] ((own_us q1 (31 : Int32)) * (own_inv (-7723592293110705685 : Int64))) (27 : Int32) h0 n0 Z0) hZ (hw _ (List.mem_of_getElem? (i := 25) rfl)) (hw _ (List.mem_of_getElem? (i := 21) rfl)) (by decide) (by decide)) (g := (mkF m 19 #[.val (.long q1), .second, .val (.long ((own_us q1 (31 : Int32)) * (own_inv (-7723592293110705685 : Int64)))), .second] [(.int (27 : Int32)), (.long ((own_us q1 (31 : Int32)) * (own_inv (-7723592293110705685 : Int64))))])) rfl (by rw [hml]; rfl) (argsL := [(.long ((own_us q1 (31 : Int32)) * (own_inv (-7723592293110705685 : Int64)))), (.int (27 : Int32))]) (rest := []) (lenOf pd_0 rfl) rfl (by show 2 * 0 + _ ≤ _; exact Nat.le_of_eq rfl) (hb hby d4_19) (fun _ _ => ⟨rfl, e2, (by decide : 0 + 0 ≤ _), (by decide : 0 + 0 ≤ _)⟩)
  dsimp only [Pt.U, Pt.locs, Pt.cells, Pt.slots] at X3 l3 y3 z3 st3 hQ3
  subst l3 y3 z3
  obtain ⟨rfl, N3q, e3⟩ := hQ3
  have N3 := Fr.app N2 N3q
  refine own_go (fun t k => st3 t k) ?_
  show own_Go p.tables e below _ T3 (mkF m 22 #[.val (.long q1), .second, .val (.long ((own_us q1 (31 : Int32)) * (own_inv (-7723592293110705685 : Int64)))), .second] [(.long (own_us ((own_us q1 (31 : Int32)) * (own_inv (-7723592293110705685 : Int64))) (27 : Int32)))])
  refine own_go (fun t k => XT.lstoreN X3.here hx rfl (hb hby d4_22) rfl (l' := #[.val (.long q1), .second, .val (.long (own_us ((own_us q1 (31 : Int32)) * (own_inv (-7723592293110705685 : Int64))) (27 : Int32))), .second]) rfl k) ?_
  show own_Go p.tables e below _ T3 (mkF m 23 #[.val (.long q1), .second, .val (.long (own_us ((own_us q1 (31 : Int32)) * (own_inv (-7723592293110705685 : Int64))) (27 : Int32))), .second] [])
  refine own_go (fun t k => XT.lloadN X3.here hx rfl (hb hby d4_23) rfl k) ?_
  show own_Go p.tables e below _ T3 (mkF m 24 #[.val (.long q1), .second, .val (.long (own_us ((own_us q1 (31 : Int32)) * (own_inv (-7723592293110705685 : Int64))) (27 : Int32))), .second] [(.long (own_us ((own_us q1 (31 : Int32)) * (own_inv (-7723592293110705685 : Int64))) (27 : Int32)))])
  refine own_go (fun t k => X3.ldc2J hx hown (mvT hZ (hw _ (List.mem_of_getElem? (i := 31) rfl))) rfl (hb hby d4_24) k) ?_
  show own_Go p.tables e below _ T3 (mkF m 27 #[.val (.long q1), .second, .val (.long (own_us ((own_us q1 (31 : Int32)) * (own_inv (-7723592293110705685 : Int64))) (27 : Int32))), .second] [(.long (-4658895280553007687 : Int64)), (.long (own_us ((own_us q1 (31 : Int32)) * (own_inv (-7723592293110705685 : Int64))) (27 : Int32)))])
  obtain ⟨_, _, ⟨T4, L4, k4, n4⟩, -, X4, ⟨Lc4, hQ4, l4, y4, z4⟩, st4⟩ := Jvm.LawKit.callS X3 hx (y := (⟨"com/example/gunline/gunline/core/SeededDiceNextPinLaw", "inv", "(J)J"⟩ : MethodName)) hown (mvT hZ (hw _ (List.mem_of_getElem? (i := 27) rfl))) (mvT hZ (hw _ (List.mem_of_getElem? (i := 28) rfl))) (mvT hZ (hw _ (List.mem_of_getElem? (i := 21) rfl))) (mvT hZ (hw _ (List.mem_of_getElem? (i := 29) rfl))) (by decide) (backOf (W := 2) (rm6 l Z a0 hw [] (-4658895280553007687 : Int64) h0 n0 Z0) hZ (hw _ (List.mem_of_getElem? (i := 29) rfl)) (hw _ (List.mem_of_getElem? (i := 21) rfl)) (by decide) (by decide)) (g := (mkF m 27 #[.val (.long q1), .second, .val (.long (own_us ((own_us q1 (31 : Int32)) * (own_inv (-7723592293110705685 : Int64))) (27 : Int32))), .second] [(.long (-4658895280553007687 : Int64)), (.long (own_us ((own_us q1 (31 : Int32)) * (own_inv (-7723592293110705685 : Int64))) (27 : Int32)))])) rfl (by rw [hml]; rfl) (argsL := [(.long (-4658895280553007687 : Int64))]) (rest := [(.long (own_us ((own_us q1 (31 : Int32)) * (own_inv (-7723592293110705685 : Int64))) (27 : Int32)))]) (lenOf pd_1 rfl) rfl (by show 2 * 0 + _ ≤ _; exact Nat.le_of_eq rfl) (hb hby d4_27) (fun _ _ => ⟨rfl, e3, (by decide : 0 + 0 ≤ _), (by decide : 0 + 0 ≤ _)⟩)
  dsimp only [Pt.U, Pt.locs, Pt.cells, Pt.slots] at X4 l4 y4 z4 st4 hQ4
  subst l4 y4 z4
  obtain ⟨rfl, N4q, e4⟩ := hQ4
  have N4 := Fr.app N3 N4q
  refine own_go (fun t k => st4 t k) ?_
  show own_Go p.tables e below _ T4 (mkF m 30 #[.val (.long q1), .second, .val (.long (own_us ((own_us q1 (31 : Int32)) * (own_inv (-7723592293110705685 : Int64))) (27 : Int32))), .second] [(.long (own_inv (-4658895280553007687 : Int64))), (.long (own_us ((own_us q1 (31 : Int32)) * (own_inv (-7723592293110705685 : Int64))) (27 : Int32)))])
  refine own_go (fun t k => XT.lmul X4.here hx rfl (hb hby d4_30) rfl k) ?_
  show own_Go p.tables e below _ T4 (mkF m 31 #[.val (.long q1), .second, .val (.long (own_us ((own_us q1 (31 : Int32)) * (own_inv (-7723592293110705685 : Int64))) (27 : Int32))), .second] [(.long ((own_us ((own_us q1 (31 : Int32)) * (own_inv (-7723592293110705685 : Int64))) (27 : Int32)) * (own_inv (-4658895280553007687 : Int64))))])
  refine own_go (fun t k => XT.lstoreN X4.here hx rfl (hb hby d4_31) rfl (l' := #[.val (.long q1), .second, .val (.long ((own_us ((own_us q1 (31 : Int32)) * (own_inv (-7723592293110705685 : Int64))) (27 : Int32)) * (own_inv (-4658895280553007687 : Int64)))), .second]) rfl k) ?_
  show own_Go p.tables e below _ T4 (mkF m 32 #[.val (.long q1), .second, .val (.long ((own_us ((own_us q1 (31 : Int32)) * (own_inv (-7723592293110705685 : Int64))) (27 : Int32)) * (own_inv (-4658895280553007687 : Int64)))), .second] [])
  refine own_go (fun t k => XT.lloadN X4.here hx rfl (hb hby d4_32) rfl k) ?_
  show own_Go p.tables e below _ T4 (mkF m 33 #[.val (.long q1), .second, .val (.long ((own_us ((own_us q1 (31 : Int32)) * (own_inv (-7723592293110705685 : Int64))) (27 : Int32)) * (own_inv (-4658895280553007687 : Int64)))), .second] [(.long ((own_us ((own_us q1 (31 : Int32)) * (own_inv (-7723592293110705685 : Int64))) (27 : Int32)) * (own_inv (-4658895280553007687 : Int64))))])
  refine own_go (fun t k => XS.bipush X4.here hx rfl (hb hby d4_33) k) ?_
  show own_Go p.tables e below _ T4 (mkF m 35 #[.val (.long q1), .second, .val (.long ((own_us ((own_us q1 (31 : Int32)) * (own_inv (-7723592293110705685 : Int64))) (27 : Int32)) * (own_inv (-4658895280553007687 : Int64)))), .second] [(.int (30 : Int32)), (.long ((own_us ((own_us q1 (31 : Int32)) * (own_inv (-7723592293110705685 : Int64))) (27 : Int32)) * (own_inv (-4658895280553007687 : Int64))))])
  obtain ⟨_, _, ⟨T5, L5, k5, n5⟩, -, X5, ⟨Lc5, hQ5, l5, y5, z5⟩, st5⟩ := Jvm.LawKit.callS X4 hx (y := (⟨"com/example/gunline/gunline/core/SeededDiceNextPinLaw", "unshift", "(JI)J"⟩ : MethodName)) hown (mvT hZ (hw _ (List.mem_of_getElem? (i := 23) rfl))) (mvT hZ (hw _ (List.mem_of_getElem? (i := 24) rfl))) (mvT hZ (hw _ (List.mem_of_getElem? (i := 21) rfl))) (mvT hZ (hw _ (List.mem_of_getElem? (i := 25) rfl))) (by decide) (backOf (W := 0) (rm5 l Z a0 hw [] ((own_us ((own_us q1 (31 : Int32)) * (own_inv (-7723592293110705685 : Int64))) (27 : Int32)) * (own_inv (-4658895280553007687 : Int64))) (30 : Int32) h0 n0 Z0) hZ (hw _ (List.mem_of_getElem? (i := 25) rfl)) (hw _ (List.mem_of_getElem? (i := 21) rfl)) (by decide) (by decide)) (g := (mkF m 35 #[.val (.long q1), .second, .val (.long ((own_us ((own_us q1 (31 : Int32)) * (own_inv (-7723592293110705685 : Int64))) (27 : Int32)) * (own_inv (-4658895280553007687 : Int64)))), .second] [(.int (30 : Int32)), (.long ((own_us ((own_us q1 (31 : Int32)) * (own_inv (-7723592293110705685 : Int64))) (27 : Int32)) * (own_inv (-4658895280553007687 : Int64))))])) rfl (by rw [hml]; rfl) (argsL := [(.long ((own_us ((own_us q1 (31 : Int32)) * (own_inv (-7723592293110705685 : Int64))) (27 : Int32)) * (own_inv (-4658895280553007687 : Int64)))), (.int (30 : Int32))]) (rest := []) (lenOf pd_0 rfl) rfl (by show 2 * 0 + _ ≤ _; exact Nat.le_of_eq rfl) (hb hby d4_35) (fun _ _ => ⟨rfl, e4, (by decide : 0 + 0 ≤ _), (by decide : 0 + 0 ≤ _)⟩)
  dsimp only [Pt.U, Pt.locs, Pt.cells, Pt.slots] at X5 l5 y5 z5 st5 hQ5
  subst l5 y5 z5
  obtain ⟨rfl, N5q, e5⟩ := hQ5
  have N5 := Fr.app N4 N5q
  refine own_go (fun t k => st5 t k) ?_
  show own_Go p.tables e below _ T5 (mkF m 38 #[.val (.long q1), .second, .val (.long ((own_us ((own_us q1 (31 : Int32)) * (own_inv (-7723592293110705685 : Int64))) (27 : Int32)) * (own_inv (-4658895280553007687 : Int64)))), .second] [(.long (own_us ((own_us ((own_us q1 (31 : Int32)) * (own_inv (-7723592293110705685 : Int64))) (27 : Int32)) * (own_inv (-4658895280553007687 : Int64))) (30 : Int32)))])
  obtain ⟨fs, hr, hrun, hended, hW, hsame⟩ := X5.leave (v := some (.long (own_us ((own_us ((own_us q1 (31 : Int32)) * (own_inv (-7723592293110705685 : Int64))) (27 : Int32)) * (own_inv (-4658895280553007687 : Int64))) (30 : Int32)))) (fun h => by rw [Bd.returns] at h; cases h)
  refine ⟨_, _, ?_, hrun, hended, _, _, rfl, ?_, ⟨_, rfl⟩, hW, hsame.mono (by decide) (by decide)⟩
  · exact X5.lreturnOut hx Bd.returns (hb hby d4_38) hr
  · show Q4 Z q1 h0 n0 _ T5.heap _
    rw [e5]
    exact ⟨rfl, N5, rfl⟩
theorem pd_2 : parseMethodDescriptor "(J)V" = some ⟨[.long], none⟩ := by decide +kernel
theorem pd_3 : parseMethodDescriptor "()J" = some ⟨[], some .long⟩ := by decide +kernel
theorem ef_0 (m : MethodId) {q1 : Int64} : entryFrame m #[(.long q1)] maxLocals = mkF m 0 #[.val (.long q1), .second, .unset, .unset, .unset, .unset, .unset] [] := by first | (simp [entryFrame, mkF, argsToLocals, Value.category, maxLocals]; done) | rfl
def Q0 (Z : State) (q1 : Int64) (h0 : Heap) (n0 : Nat) (v : Option Value) (h : Heap) (L : List Loc) : Prop := v = some (.int 1) ∧ Fr n0 L
set_option maxRecDepth 65536 in
set_option maxHeartbeats 40000000 in
theorem rm0 (l : Launch) (Z : State) (a0 : Array Value) (hw : ∀ d ∈ tables_1, d.before a0 Z = true) (ws : List Jvm.Cond) (q1 : Int64) (h0 : Heap) (n0 : Nat) (Z0 : n0 ≤ h0.size) :
    MetFree l x (head1 (Jvm.Cond.code x code maxLocals ret :: ws) room_1) (fun a U => a = #[(.long q1)] ∧ Z.Warmed39 U.vm ∧ U.heap = h0) (fun _ _ _ _ _ => True) (fun _ U o U' => ∃ v L, o = .returned v ∧ Q0 Z q1 h0 n0 v U'.heap L ∧ FrameEnd U o U' L (room_1).cells (room_1).slots) := by
  refine MetFree.of_bodySF (plainFor_of_name pn_1) hisR ?_
  intro p e s m args below meth c s₁ Bd hml0 hP hK
  obtain ⟨rfl, hZ, hh⟩ := hP
  have hx := Bd.exec
  have hby := Bd.bytes
  have hml : c.maxLocals = 7 := hml0
  have hown : s.vm.findClass "com/example/gunline/gunline/core/SeededDiceNextPinLaw" = some m.cls := findClass_of_methodNamed Bd.named
  have hnm := (name_of_methodNamed Bd.named Bd.method).1
  have X0 : Stand p l e room_1 s m #[(.long q1)] below meth c s₁ [] 0 0 := Stand.of_body Bd
  have e0 : s₁.heap = h0 := by rw [← hh, Bd.state]; rfl
  have N0 := Fr.nil n0
  show own_Go p.tables e below (own_P s (Q0 Z q1 h0 n0) room_1.cells room_1.slots) s₁ _
  rw [ef_0]
  show own_Go p.tables e below _ s₁ (mkF m 0 #[.val (.long q1), .second, .unset, .unset, .unset, .unset, .unset] [])
  obtain ⟨T1, h1, X1, e1, E1, A1, D1, -, st1⟩ := newO X0 hx hZ hown (hw _ (List.mem_of_getElem? (i := 0) rfl)) (hw _ (List.mem_of_getElem? (i := 1) rfl)) (hw _ (List.mem_of_getElem? (i := 2) rfl)) e0 (g := (mkF m 0 #[.val (.long q1), .second, .unset, .unset, .unset, .unset, .unset] [])) rfl (hb hby at_0) (by decide) (by decide)
  obtain ⟨b, eq_b⟩ : ∃ z, z = (h0).size := ⟨_, rfl⟩
  rw [← eq_b] at A1 D1 st1
  have g_b : n0 ≤ b := Nat.le_trans Z0 (Nat.le_of_eq eq_b.symm)
  have F_state_b : Fld Z h1 b "com/example/gunline/gunline/core/SeededDice" "state" "J" (.long (0 : Int64)) := D1 (Or.inl (hw _ (List.mem_of_getElem? (i := 10) rfl))) (ty := .long) (by decide)
  refine own_go st1 ?_
  show own_Go p.tables e below _ T1 (mkF m 3 #[.val (.long q1), .second, .unset, .unset, .unset, .unset, .unset] [(.ref b)])
  refine own_go (fun t k => XS.dup X1.here hx rfl (hb hby at_3) rfl rfl k) ?_
  show own_Go p.tables e below _ T1 (mkF m 4 #[.val (.long q1), .second, .unset, .unset, .unset, .unset, .unset] [(.ref b), (.ref b)])
  refine own_go (fun t k => XT.lloadN X1.here hx rfl (hb hby at_4) rfl k) ?_
  show own_Go p.tables e below _ T1 (mkF m 5 #[.val (.long q1), .second, .unset, .unset, .unset, .unset, .unset] [(.long q1), (.ref b), (.ref b)])
  obtain ⟨_, _, ⟨T2, L2, k2, n2⟩, -, X2, ⟨Lc2, hQ2, l2, y2, z2⟩, st2⟩ := X1.specialBack hx (y := (⟨"com/example/gunline/gunline/core/SeededDice", "<init>", "(J)V"⟩ : MethodName)) rfl hown (mvT hZ (hw _ (List.mem_of_getElem? (i := 3) rfl))) (mvT hZ (hw _ (List.mem_of_getElem? (i := 4) rfl))) (mvT hZ (hw _ (List.mem_of_getElem? (i := 5) rfl))) (by decide) (backOf (W := 1) (rm1 l Z a0 hw [] b q1 _ h1 n0 (Nat.le_trans Z0 E1.1) F_state_b A1 g_b) hZ (hw _ (List.mem_of_getElem? (i := 5) rfl)) (hw _ (List.mem_of_getElem? (i := 2) rfl)) (by decide) (by decide)) (g := (mkF m 5 #[.val (.long q1), .second, .unset, .unset, .unset, .unset, .unset] [(.long q1), (.ref b), (.ref b)])) rfl (by rw [hml]; rfl) (Steps.refl _) (a := b) (argsL := [(.long q1)]) (rest := [(.ref b)]) (lenOf pd_2 rfl) rfl (by show 2 * 0 + _ ≤ _; exact Nat.le_of_eq rfl) (hb hby at_5) (fun _ _ => ⟨rfl, e1, (by decide : 1 + 0 ≤ _), (by decide : 1 + 0 ≤ _)⟩)
  dsimp only [Pt.U, Pt.locs, Pt.cells, Pt.slots] at X2 l2 y2 z2 st2 hQ2
  subst l2 y2 z2
  obtain ⟨rfl, N2q, K2, Ex1, F1⟩ := hQ2
  have N2 := Fr.app N0 N2q
  refine own_go (fun t k => st2.trans k) ?_
  show own_Go p.tables e below _ T2 (mkF m 8 #[.val (.long q1), .second, .unset, .unset, .unset, .unset, .unset] [(.ref b)])
  refine own_go (fun t k => XS.astoreN X2.here hx rfl (hb hby at_8) rfl rfl (l' := #[.val (.long q1), .second, .val (.ref b), .unset, .unset, .unset, .unset]) rfl k) ?_
  show own_Go p.tables e below _ T2 (mkF m 9 #[.val (.long q1), .second, .val (.ref b), .unset, .unset, .unset, .unset] [])
  refine own_go (fun t k => XS.aloadN X2.here hx rfl (hb hby at_9) rfl rfl k) ?_
  show own_Go p.tables e below _ T2 (mkF m 10 #[.val (.long q1), .second, .val (.ref b), .unset, .unset, .unset, .unset] [(.ref b)])
  obtain ⟨cq3, kq3, q3a, q3b, q3c⟩ := isOf hZ rfl Ex1
  obtain ⟨_, _, ⟨T3, L3, k3, n3⟩, -, X3, ⟨Lc3, hQ3, l3, y3, z3⟩, st3⟩ := X2.virtualBack hx (y := (⟨"com/example/gunline/gunline/core/SeededDice", "next", "()J"⟩ : MethodName)) (z := (⟨"com/example/gunline/gunline/core/SeededDice", "next", "()J"⟩ : MethodName)) hown (mvT hZ (hw _ (List.mem_of_getElem? (i := 11) rfl))) (mvT hZ (hw _ (List.mem_of_getElem? (i := 12) rfl))) (notFace_of_selects (args := #[]) (mvT hZ (hw _ (List.mem_of_getElem? (i := 14) rfl)))) (mvT hZ (hw _ (List.mem_of_getElem? (i := 14) rfl))) (mvT hZ (hw _ (List.mem_of_getElem? (i := 13) rfl))) (by decide) (backOf (W := 0) (rm3 l Z a0 hw [] b q1 T2.heap n0 (Nat.le_trans (Nat.le_trans Z0 E1.1) K2.1) F1 Ex1 g_b) hZ (hw _ (List.mem_of_getElem? (i := 15) rfl)) (hw _ (List.mem_of_getElem? (i := 2) rfl)) (by decide) (by decide)) q3a q3c (g := (mkF m 10 #[.val (.long q1), .second, .val (.ref b), .unset, .unset, .unset, .unset] [(.ref b)])) rfl (by rw [hml]; rfl) (Steps.refl _) (argsL := []) (rest := []) (lenOf pd_3 rfl) rfl (by show 2 * 0 + _ ≤ _; exact Nat.le_of_eq rfl) (hb hby at_10) (fun _ _ => ⟨rfl, rfl, (by decide : 1 + 0 ≤ _), (by decide : 1 + 0 ≤ _)⟩)
  dsimp only [Pt.U, Pt.locs, Pt.cells, Pt.slots] at X3 l3 y3 z3 st3 hQ3
  subst l3 y3 z3
  obtain ⟨rfl, N3q, K3, Ex2, F2⟩ := hQ3
  have N3 := Fr.app N2 N3q
  refine own_go (fun t k => st3.trans k) ?_
  show own_Go p.tables e below _ T3 (mkF m 13 #[.val (.long q1), .second, .val (.ref b), .unset, .unset, .unset, .unset] [(.long (own_mix (q1 + (-7046029254386353131 : Int64))))])
  refine own_go (fun t k => XT.lstoreN X3.here hx rfl (hb hby at_13) rfl (l' := #[.val (.long q1), .second, .val (.ref b), .val (.long (own_mix (q1 + (-7046029254386353131 : Int64)))), .second, .unset, .unset]) rfl k) ?_
  show own_Go p.tables e below _ T3 (mkF m 14 #[.val (.long q1), .second, .val (.ref b), .val (.long (own_mix (q1 + (-7046029254386353131 : Int64)))), .second, .unset, .unset] [])
  refine own_go (fun t k => XS.aloadN X3.here hx rfl (hb hby at_14) rfl rfl k) ?_
  show own_Go p.tables e below _ T3 (mkF m 15 #[.val (.long q1), .second, .val (.ref b), .val (.long (own_mix (q1 + (-7046029254386353131 : Int64)))), .second, .unset, .unset] [(.ref b)])
  obtain ⟨cq4, kq4, q4a, q4b, q4c⟩ := isOf hZ rfl Ex2
  obtain ⟨_, _, ⟨T4, L4, k4, n4⟩, -, X4, ⟨Lc4, hQ4, l4, y4, z4⟩, st4⟩ := X3.virtualBack hx (y := (⟨"com/example/gunline/gunline/core/SeededDice", "next", "()J"⟩ : MethodName)) (z := (⟨"com/example/gunline/gunline/core/SeededDice", "next", "()J"⟩ : MethodName)) hown (mvT hZ (hw _ (List.mem_of_getElem? (i := 11) rfl))) (mvT hZ (hw _ (List.mem_of_getElem? (i := 12) rfl))) (notFace_of_selects (args := #[]) (mvT hZ (hw _ (List.mem_of_getElem? (i := 14) rfl)))) (mvT hZ (hw _ (List.mem_of_getElem? (i := 14) rfl))) (mvT hZ (hw _ (List.mem_of_getElem? (i := 13) rfl))) (by decide) (backOf (W := 0) (rm3 l Z a0 hw [] b (q1 + (-7046029254386353131 : Int64)) T3.heap n0 (Nat.le_trans (Nat.le_trans (Nat.le_trans Z0 E1.1) K2.1) K3.1) F2 Ex2 g_b) hZ (hw _ (List.mem_of_getElem? (i := 15) rfl)) (hw _ (List.mem_of_getElem? (i := 2) rfl)) (by decide) (by decide)) q4a q4c (g := (mkF m 15 #[.val (.long q1), .second, .val (.ref b), .val (.long (own_mix (q1 + (-7046029254386353131 : Int64)))), .second, .unset, .unset] [(.ref b)])) rfl (by rw [hml]; rfl) (Steps.refl _) (argsL := []) (rest := []) (lenOf pd_3 rfl) rfl (by show 2 * 0 + _ ≤ _; exact Nat.le_of_eq rfl) (hb hby at_15) (fun _ _ => ⟨rfl, rfl, (by decide : 1 + 0 ≤ _), (by decide : 1 + 0 ≤ _)⟩)
  dsimp only [Pt.U, Pt.locs, Pt.cells, Pt.slots] at X4 l4 y4 z4 st4 hQ4
  subst l4 y4 z4
  obtain ⟨rfl, N4q, K4, Ex3, F3⟩ := hQ4
  have N4 := Fr.app N3 N4q
  refine own_go (fun t k => st4.trans k) ?_
  show own_Go p.tables e below _ T4 (mkF m 18 #[.val (.long q1), .second, .val (.ref b), .val (.long (own_mix (q1 + (-7046029254386353131 : Int64)))), .second, .unset, .unset] [(.long (own_mix ((q1 + (-7046029254386353131 : Int64)) + (-7046029254386353131 : Int64))))])
  refine own_go (fun t k => XT.lstore X4.here hx rfl (hb hby at_18) rfl (l' := #[.val (.long q1), .second, .val (.ref b), .val (.long (own_mix (q1 + (-7046029254386353131 : Int64)))), .second, .val (.long (own_mix ((q1 + (-7046029254386353131 : Int64)) + (-7046029254386353131 : Int64)))), .second]) rfl k) ?_
  show own_Go p.tables e below _ T4 (mkF m 20 #[.val (.long q1), .second, .val (.ref b), .val (.long (own_mix (q1 + (-7046029254386353131 : Int64)))), .second, .val (.long (own_mix ((q1 + (-7046029254386353131 : Int64)) + (-7046029254386353131 : Int64)))), .second] [])
  refine own_go (fun t k => XT.lloadN X4.here hx rfl (hb hby at_20) rfl k) ?_
  show own_Go p.tables e below _ T4 (mkF m 21 #[.val (.long q1), .second, .val (.ref b), .val (.long (own_mix (q1 + (-7046029254386353131 : Int64)))), .second, .val (.long (own_mix ((q1 + (-7046029254386353131 : Int64)) + (-7046029254386353131 : Int64)))), .second] [(.long (own_mix (q1 + (-7046029254386353131 : Int64))))])
  obtain ⟨_, _, ⟨T5, L5, k5, n5⟩, -, X5, ⟨Lc5, hQ5, l5, y5, z5⟩, st5⟩ := Jvm.LawKit.callS X4 hx (y := (⟨"com/example/gunline/gunline/core/SeededDiceNextPinLaw", "unmix", "(J)J"⟩ : MethodName)) hown (mvT hZ (hw _ (List.mem_of_getElem? (i := 19) rfl))) (mvT hZ (hw _ (List.mem_of_getElem? (i := 20) rfl))) (mvT hZ (hw _ (List.mem_of_getElem? (i := 21) rfl))) (mvT hZ (hw _ (List.mem_of_getElem? (i := 22) rfl))) (by decide) (backOf (W := 0) (rm4 l Z a0 hw [] (own_mix (q1 + (-7046029254386353131 : Int64))) T4.heap n0 (Nat.le_trans (Nat.le_trans (Nat.le_trans (Nat.le_trans Z0 E1.1) K2.1) K3.1) K4.1)) hZ (hw _ (List.mem_of_getElem? (i := 22) rfl)) (hw _ (List.mem_of_getElem? (i := 21) rfl)) (by decide) (by decide)) (g := (mkF m 21 #[.val (.long q1), .second, .val (.ref b), .val (.long (own_mix (q1 + (-7046029254386353131 : Int64)))), .second, .val (.long (own_mix ((q1 + (-7046029254386353131 : Int64)) + (-7046029254386353131 : Int64)))), .second] [(.long (own_mix (q1 + (-7046029254386353131 : Int64))))])) rfl (by rw [hml]; rfl) (argsL := [(.long (own_mix (q1 + (-7046029254386353131 : Int64))))]) (rest := []) (lenOf pd_1 rfl) rfl (by show 2 * 0 + _ ≤ _; exact Nat.le_of_eq rfl) (hb hby at_21) (fun _ _ => ⟨rfl, rfl, (by decide : 1 + 0 ≤ _), (by decide : 1 + 0 ≤ _)⟩)
  dsimp only [Pt.U, Pt.locs, Pt.cells, Pt.slots] at X5 l5 y5 z5 st5 hQ5
  subst l5 y5 z5
  obtain ⟨rfl, N5q, e5⟩ := hQ5
  have N5 := Fr.app N4 N5q
  refine own_go (fun t k => st5 t k) ?_
  show own_Go p.tables e below _ T5 (mkF m 24 #[.val (.long q1), .second, .val (.ref b), .val (.long (own_mix (q1 + (-7046029254386353131 : Int64)))), .second, .val (.long (own_mix ((q1 + (-7046029254386353131 : Int64)) + (-7046029254386353131 : Int64)))), .second] [(.long (own_un (own_mix (q1 + (-7046029254386353131 : Int64)))))])
  refine own_go (fun t k => XT.lloadN X5.here hx rfl (hb hby at_24) rfl k) ?_
  show own_Go p.tables e below _ T5 (mkF m 25 #[.val (.long q1), .second, .val (.ref b), .val (.long (own_mix (q1 + (-7046029254386353131 : Int64)))), .second, .val (.long (own_mix ((q1 + (-7046029254386353131 : Int64)) + (-7046029254386353131 : Int64)))), .second] [(.long q1), (.long (own_un (own_mix (q1 + (-7046029254386353131 : Int64)))))])
  refine own_go (fun t k => X5.ldc2J hx hown (mvT hZ (hw _ (List.mem_of_getElem? (i := 32) rfl))) rfl (hb hby at_25) k) ?_
  show own_Go p.tables e below _ T5 (mkF m 28 #[.val (.long q1), .second, .val (.ref b), .val (.long (own_mix (q1 + (-7046029254386353131 : Int64)))), .second, .val (.long (own_mix ((q1 + (-7046029254386353131 : Int64)) + (-7046029254386353131 : Int64)))), .second] [(.long (-7046029254386353131 : Int64)), (.long q1), (.long (own_un (own_mix (q1 + (-7046029254386353131 : Int64)))))])
  refine own_go (fun t k => XT.ladd X5.here hx rfl (hb hby at_28) rfl k) ?_
  show own_Go p.tables e below _ T5 (mkF m 29 #[.val (.long q1), .second, .val (.ref b), .val (.long (own_mix (q1 + (-7046029254386353131 : Int64)))), .second, .val (.long (own_mix ((q1 + (-7046029254386353131 : Int64)) + (-7046029254386353131 : Int64)))), .second] [(.long (q1 + (-7046029254386353131 : Int64))), (.long (own_un (own_mix (q1 + (-7046029254386353131 : Int64)))))])
  refine own_go (fun t k => XT.lcmp X5.here hx rfl (hb hby at_29) rfl k) ?_
  show own_Go p.tables e below _ T5 (mkF m 30 #[.val (.long q1), .second, .val (.ref b), .val (.long (own_mix (q1 + (-7046029254386353131 : Int64)))), .second, .val (.long (own_mix ((q1 + (-7046029254386353131 : Int64)) + (-7046029254386353131 : Int64)))), .second] [(.int (XT.cmpL (own_un (own_mix (q1 + (-7046029254386353131 : Int64)))) (q1 + (-7046029254386353131 : Int64))))])
  refine own_go (fun t k => XS.ifNo X5.here hx rfl (hb hby at_30) rfl (XT.ll_ne_f (own_un_mix _)) k) ?_
  show own_Go p.tables e below _ T5 (mkF m 33 #[.val (.long q1), .second, .val (.ref b), .val (.long (own_mix (q1 + (-7046029254386353131 : Int64)))), .second, .val (.long (own_mix ((q1 + (-7046029254386353131 : Int64)) + (-7046029254386353131 : Int64)))), .second] [])
  refine own_go (fun t k => XT.lload X5.here hx rfl (hb hby at_33) rfl k) ?_
  show own_Go p.tables e below _ T5 (mkF m 35 #[.val (.long q1), .second, .val (.ref b), .val (.long (own_mix (q1 + (-7046029254386353131 : Int64)))), .second, .val (.long (own_mix ((q1 + (-7046029254386353131 : Int64)) + (-7046029254386353131 : Int64)))), .second] [(.long (own_mix ((q1 + (-7046029254386353131 : Int64)) + (-7046029254386353131 : Int64))))])
  obtain ⟨_, _, ⟨T6, L6, k6, n6⟩, -, X6, ⟨Lc6, hQ6, l6, y6, z6⟩, st6⟩ := Jvm.LawKit.callS X5 hx (y := (⟨"com/example/gunline/gunline/core/SeededDiceNextPinLaw", "unmix", "(J)J"⟩ : MethodName)) hown (mvT hZ (hw _ (List.mem_of_getElem? (i := 19) rfl))) (mvT hZ (hw _ (List.mem_of_getElem? (i := 20) rfl))) (mvT hZ (hw _ (List.mem_of_getElem? (i := 21) rfl))) (mvT hZ (hw _ (List.mem_of_getElem? (i := 22) rfl))) (by decide) (backOf (W := 0) (rm4 l Z a0 hw [] (own_mix ((q1 + (-7046029254386353131 : Int64)) + (-7046029254386353131 : Int64))) T4.heap n0 (Nat.le_trans (Nat.le_trans (Nat.le_trans (Nat.le_trans Z0 E1.1) K2.1) K3.1) K4.1)) hZ (hw _ (List.mem_of_getElem? (i := 22) rfl)) (hw _ (List.mem_of_getElem? (i := 21) rfl)) (by decide) (by decide)) (g := (mkF m 35 #[.val (.long q1), .second, .val (.ref b), .val (.long (own_mix (q1 + (-7046029254386353131 : Int64)))), .second, .val (.long (own_mix ((q1 + (-7046029254386353131 : Int64)) + (-7046029254386353131 : Int64)))), .second] [(.long (own_mix ((q1 + (-7046029254386353131 : Int64)) + (-7046029254386353131 : Int64))))])) rfl (by rw [hml]; rfl) (argsL := [(.long (own_mix ((q1 + (-7046029254386353131 : Int64)) + (-7046029254386353131 : Int64))))]) (rest := []) (lenOf pd_1 rfl) rfl (by show 2 * 0 + _ ≤ _; exact Nat.le_of_eq rfl) (hb hby at_35) (fun _ _ => ⟨rfl, e5, (by decide : 1 + 0 ≤ _), (by decide : 1 + 0 ≤ _)⟩)
  dsimp only [Pt.U, Pt.locs, Pt.cells, Pt.slots] at X6 l6 y6 z6 st6 hQ6
  subst l6 y6 z6
  obtain ⟨rfl, N6q, e6⟩ := hQ6
  have N6 := Fr.app N5 N6q
  refine own_go (fun t k => st6 t k) ?_
  show own_Go p.tables e below _ T6 (mkF m 38 #[.val (.long q1), .second, .val (.ref b), .val (.long (own_mix (q1 + (-7046029254386353131 : Int64)))), .second, .val (.long (own_mix ((q1 + (-7046029254386353131 : Int64)) + (-7046029254386353131 : Int64)))), .second] [(.long (own_un (own_mix ((q1 + (-7046029254386353131 : Int64)) + (-7046029254386353131 : Int64)))))])
  refine own_go (fun t k => XT.lloadN X6.here hx rfl (hb hby at_38) rfl k) ?_
  show own_Go p.tables e below _ T6 (mkF m 39 #[.val (.long q1), .second, .val (.ref b), .val (.long (own_mix (q1 + (-7046029254386353131 : Int64)))), .second, .val (.long (own_mix ((q1 + (-7046029254386353131 : Int64)) + (-7046029254386353131 : Int64)))), .second] [(.long q1), (.long (own_un (own_mix ((q1 + (-7046029254386353131 : Int64)) + (-7046029254386353131 : Int64)))))])
  refine own_go (fun t k => X6.ldc2J hx hown (mvT hZ (hw _ (List.mem_of_getElem? (i := 33) rfl))) rfl (hb hby at_39) k) ?_
  show own_Go p.tables e below _ T6 (mkF m 42 #[.val (.long q1), .second, .val (.ref b), .val (.long (own_mix (q1 + (-7046029254386353131 : Int64)))), .second, .val (.long (own_mix ((q1 + (-7046029254386353131 : Int64)) + (-7046029254386353131 : Int64)))), .second] [(.long (4354685564936845354 : Int64)), (.long q1), (.long (own_un (own_mix ((q1 + (-7046029254386353131 : Int64)) + (-7046029254386353131 : Int64)))))])
  refine own_go (fun t k => XT.ladd X6.here hx rfl (hb hby at_42) rfl k) ?_
  show own_Go p.tables e below _ T6 (mkF m 43 #[.val (.long q1), .second, .val (.ref b), .val (.long (own_mix (q1 + (-7046029254386353131 : Int64)))), .second, .val (.long (own_mix ((q1 + (-7046029254386353131 : Int64)) + (-7046029254386353131 : Int64)))), .second] [(.long (q1 + (4354685564936845354 : Int64))), (.long (own_un (own_mix ((q1 + (-7046029254386353131 : Int64)) + (-7046029254386353131 : Int64)))))])
  refine own_go (fun t k => XT.lcmp X6.here hx rfl (hb hby at_43) rfl k) ?_
  show own_Go p.tables e below _ T6 (mkF m 44 #[.val (.long q1), .second, .val (.ref b), .val (.long (own_mix (q1 + (-7046029254386353131 : Int64)))), .second, .val (.long (own_mix ((q1 + (-7046029254386353131 : Int64)) + (-7046029254386353131 : Int64)))), .second] [(.int (XT.cmpL (own_un (own_mix ((q1 + (-7046029254386353131 : Int64)) + (-7046029254386353131 : Int64)))) (q1 + (4354685564936845354 : Int64))))])
  refine own_go (fun t k => XS.ifNo X6.here hx rfl (hb hby at_44) rfl (XT.ll_ne_f ((own_un_mix _).trans (own_two _ _ _ (by decide)))) k) ?_
  show own_Go p.tables e below _ T6 (mkF m 47 #[.val (.long q1), .second, .val (.ref b), .val (.long (own_mix (q1 + (-7046029254386353131 : Int64)))), .second, .val (.long (own_mix ((q1 + (-7046029254386353131 : Int64)) + (-7046029254386353131 : Int64)))), .second] [])
  refine own_go (fun t k => XS.iconst X6.here hx rfl (hb hby at_47) k) ?_
  show own_Go p.tables e below _ T6 (mkF m 48 #[.val (.long q1), .second, .val (.ref b), .val (.long (own_mix (q1 + (-7046029254386353131 : Int64)))), .second, .val (.long (own_mix ((q1 + (-7046029254386353131 : Int64)) + (-7046029254386353131 : Int64)))), .second] [(.int (1 : Int32))])
  refine own_go (fun t k => XS.goto X6.here hx rfl (pc0 := 48) (pc' := 52) rfl (hb hby at_48) (by decide) (by decide) k) ?_
  show own_Go p.tables e below _ T6 (mkF m 52 #[.val (.long q1), .second, .val (.ref b), .val (.long (own_mix (q1 + (-7046029254386353131 : Int64)))), .second, .val (.long (own_mix ((q1 + (-7046029254386353131 : Int64)) + (-7046029254386353131 : Int64)))), .second] [(.int (1 : Int32))])
  obtain ⟨fs, hr, hrun, hended, hW, hsame⟩ := X6.leave (v := some (.int (1 : Int32))) (fun h => by rw [Bd.returns] at h; cases h)
  refine ⟨_, _, ?_, hrun, hended, _, _, rfl, ?_, ⟨_, rfl⟩, hW, hsame.mono (by decide) (by decide)⟩
  · exact retN X6 hx (t := .boolean) Bd.returns (by simp) (hb hby at_52) hr
  · show Q0 Z q1 h0 n0 _ T6.heap _
    rw [e6]
    exact ⟨rfl, N6⟩
set_option maxRecDepth 65536 in
set_option maxHeartbeats 40000000 in
theorem comes_1 {Post : Tables → Env → Array Value → State → Outcome → State → Prop} (hpost : ∀ tb e args s v u, (limb_1_1.after args s (.returned v) u = true ∧ limb_1_2.after args s (.returned v) u = true ∧ True) → FrameEnd s (.returned v) u (Jvm.fieldLocs frame_1_writes args s ++ Jvm.arrayLocs frame_1_arrays args s ++ Jvm.staticLocs frame_1_statics s) 16 128 → Post tb e args s (.returned v) u) :
    ArmFor flags0 classFile x code maxLocals ret World_1 tables_1 room_1 Calls_1 rest_1 Pre_1 Post := by
  intro l hfl _ _ p e ha hc hk s m args below hf hA hF happ hP
  obtain ⟨hcalls, hrest, hpre⟩ := hP
  obtain ⟨-, -, -, hnamed, -, -, -, hat⟩ := (Spec.applies_iff hf).mp happ
  obtain ⟨hg, hn⟩ := and_e (Cond.before_iff.mp (show (Jvm.Cond.and given_1 narrow_1).before args s = true from hpre))
  obtain ⟨gc, ga0⟩ := and_e hg
  have gv0 := ga0
  obtain ⟨w0, rfl⟩ : ∃ w0 : Value, args = #[w0] := by
    have hs : args.size = 1 := by simpa [Cond.value, given_1] using gc
    obtain ⟨L⟩ := args
    match L, hs with
    | [w0], _ => exact ⟨w0, rfl⟩
  have hw := fun d (hd : d ∈ tables_1) => atoms_spec (ws := Jvm.Cond.code x code maxLocals ret :: tables_1) hat d (List.mem_cons_of_mem _ hd)
  have hfit : Fit s := fun {y c} hc i hi => by
    obtain ⟨ha, rfl⟩ := Array.getElem?_eq_some_iff.mp hc
    have q := List.all_eq_true.mp ((Array.all_eq_true_iff_forall_mem.mp hF) _ (Array.getElem_mem ha)) i (List.mem_range.mpr hi)
    simpa [Array.getElem?_eq_getElem hi] using q
  obtain ⟨i0, ei0⟩ := isL_v gv0
  obtain rfl : w0 = (.long i0) := Option.some.inj ei0
  obtain ⟨n, o, h1, h2, h3, _, L, rfl, ⟨rfl, N⟩, hq⟩ := rm0 l s _ hw tables_1 i0  s.heap s.heap.size (Nat.le_refl _)  p e ha hc hk s m _ below hf ((Spec.applies_iff_loose hf).mp happ).1 ⟨rfl, State.Warmed39.refl s, rfl⟩ trivial
  exact ⟨n, _, h1, h2, h3, hpost _ _ _ _ _ _ ⟨Cond.after_iff.mpr rfl, Cond.after_iff.mpr (eq_i res_at (Term.int_eval (1)) rfl), trivial⟩ ⟨hq.1, hq.2.1, (hq.2.2.sift fun y hy => Or.inr (N y hy)).mono (by decide) (by decide)⟩⟩
theorem main_1_1 : Claimed_1_1 := comes_1 fun _ _ _ _ _ _ h hF => ⟨h.1, hF⟩
theorem main_1_2 : Claimed_1_2 := comes_1 fun _ _ _ _ _ _ h hF => ⟨h.2.1, hF⟩
end Jvm.Pilot.@@N@@
namespace Jvm.Pilot.@@N@@
open Jvm Jvm.ClassFile Sem Op Lib Jvm.Free Jvm.Stand Jvm.Pilot.@@N@@.Jvm.D
/-! MADE BY PROGRAM (witnessworld.py) out of the Statement's table words and the real class files: 8 classes; the members and pool entries that the words name. The judged class is class 1, her method 4. -/
namespace start1
open Jvm.ClassFile
def u (s : String) : CpInfo := .utf8 (stringToUtf16 s)
/-- a pool by its gaps: so many unusable entries, then the entry; so many at the end -/
def gap : Nat → List CpInfo → List CpInfo
  | 0, r => r
  | n + 1, r => .unusable :: gap n r
def poolList (es : List (Nat × CpInfo)) (last : Nat) : List CpInfo := es.foldr (fun e r => gap e.1 (e.2 :: r)) (gap last [])
def pool (es : List (Nat × CpInfo)) (last : Nat) : Array CpInfo := ⟨poolList es last⟩
def fileOf (pool : Array CpInfo) (this : Nat) (attrs : Array Attribute := #[]) (ms : Array MethodInfo := #[]) (fl : Nat := 33) (sup : Nat := 0) (ifs : Array Nat := #[]) (fds : Array FieldInfo := #[]) : ClassFile where
  minorVersion := 0
  majorVersion := 65
  constantPool := pool
  accessFlags := fl
  thisClass := this
  superClass := sup
  interfaces := ifs
  fields := fds
  methods := ms
  attributes := attrs
def plain (name : String) (sup : Option ClassId) : Class where
  name := name
  kind := .ordinary
  loader := none
  accessFlags := 33
  super := sup
  interfaces := #[]
  cf := none
  fields := #[]
  methods := #[]
  instanceTypes := #[]
  staticTypes := #[]
  resolved := #[]
  callSites := []
  init := .initialized
  statics := none
  mirror := none

def pool0 : Array CpInfo := pool [(5, u "<init>"), (0, u "()V"), (1, .class_ 10), (1, u "java/lang/Object")] 113

def k0c0 : Code := { maxStack := 0, maxLocals := 1, code := object_method_1_code, exceptionTable := #[], attributes := #[] }
def k0m0 : Method := { name := "<init>", desc := "()V", sig := { parameters := [], returnType := none }, accessFlags := 1, code := some k0c0 }
/-- java/lang/Object -/
def k0 : Class := { plain "java/lang/Object" none with
  accessFlags := 33
  interfaces := #[]
  cf := some (fileOf pool0 8 #[] #[{ accessFlags := 1, nameIndex := 5, descriptorIndex := 6, attributes := #[] }] 33 0 #[] #[])
  fields := #[]
  methods := #[k0m0]
  instanceTypes := #[]
  staticTypes := #[]
  resolved := Array.replicate 124 none
  statics := none }

def pool1 : Array CpInfo := pool [(2, .class_ 4), (1, u "java/lang/Object"), (0, u "<init>"), (0, u "()V"), (0, .long 2), (1, .methodref 10 11), (0, .class_ 12), (0, .nameAndType 13 14), (0, u "com/example/gunline/gunline/core/SeededDiceNextPinLaw"), (0, u "unshift"), (0, u "(JI)J"), (0, .long 10723151780598845931), (1, .methodref 10 18), (0, .nameAndType 19 20), (0, u "inv"), (0, u "(J)J"), (0, .long 13787848793156543929), (1, .class_ 24), (0, u "com/example/gunline/gunline/core/SeededDice"), (0, .methodref 23 26), (0, .nameAndType 5 27), (0, u "(J)V"), (0, .methodref 23 29), (0, .nameAndType 30 31), (0, u "next"), (0, u "()J"), (0, .methodref 10 33), (0, .nameAndType 34 20), (0, u "unmix"), (0, .long 11400714819323198485), (1, .long 4354685564936845354), (3, u "law"), (0, u "(J)Z")] 3

def k1m0 : Method := { name := "<init>", desc := "()V", sig := { parameters := [], returnType := none }, accessFlags := 2, code := none }
def k1c1 : Code := { maxStack := 8, maxLocals := 4, code := method_2_code, exceptionTable := #[], attributes := #[] }
def k1m1 : Method := { name := "inv", desc := "(J)J", sig := { parameters := [.long], returnType := some .long }, accessFlags := 10, code := some k1c1 }
def k1c2 : Code := { maxStack := 6, maxLocals := 3, code := method_3_code, exceptionTable := #[], attributes := #[] }
def k1m2 : Method := { name := "unshift", desc := "(JI)J", sig := { parameters := [.long, .int], returnType := some .long }, accessFlags := 10, code := some k1c2 }
def k1c3 : Code := { maxStack := 4, maxLocals := 4, code := method_4_code, exceptionTable := #[], attributes := #[] }
def k1m3 : Method := { name := "unmix", desc := "(J)J", sig := { parameters := [.long], returnType := some .long }, accessFlags := 10, code := some k1c3 }
def k1c4 : Code := { maxStack := 6, maxLocals := 7, code := code, exceptionTable := #[], attributes := #[] }
def k1m4 : Method := { name := "law", desc := "(J)Z", sig := { parameters := [.long], returnType := some .boolean }, accessFlags := 9, code := some k1c4 }
/-- com/example/gunline/gunline/core/SeededDiceNextPinLaw -/
def k1 : Class := { plain "com/example/gunline/gunline/core/SeededDiceNextPinLaw" (some 0) with
  accessFlags := 49
  interfaces := #[]
  cf := some (fileOf pool1 10 #[] #[{ accessFlags := 2, nameIndex := 5, descriptorIndex := 6, attributes := #[] }, { accessFlags := 10, nameIndex := 19, descriptorIndex := 20, attributes := #[] }, { accessFlags := 10, nameIndex := 13, descriptorIndex := 14, attributes := #[] }, { accessFlags := 10, nameIndex := 34, descriptorIndex := 20, attributes := #[] }, { accessFlags := 9, nameIndex := 41, descriptorIndex := 42, attributes := #[] }] 49 2 #[] #[])
  fields := #[]
  methods := #[k1m0, k1m1, k1m2, k1m3, k1m4]
  instanceTypes := #[]
  staticTypes := #[]
  resolved := Array.replicate 46 none
  statics := none }

def pool2 : Array CpInfo := pool [(12, .class_ 13), (0, u "com/example/gunline/gunline/core/Dice"), (0, .class_ 15), (0, u "java/lang/Object")] 18

/-- com/example/gunline/gunline/core/Dice -/
def k2 : Class := { plain "com/example/gunline/gunline/core/Dice" (some 0) with
  accessFlags := 1537
  interfaces := #[]
  cf := some (fileOf pool2 12 #[] #[] 1537 14 #[] #[])
  fields := #[]
  methods := #[]
  instanceTypes := #[]
  staticTypes := #[]
  resolved := Array.replicate 34 none
  statics := none }

def pool3 : Array CpInfo := pool [(1, .methodref 2 3), (0, .class_ 4), (0, .nameAndType 5 6), (0, u "java/lang/Object"), (0, u "<init>"), (0, u "()V"), (0, .fieldref 8 9), (0, .class_ 10), (0, .nameAndType 11 12), (0, u "com/example/gunline/gunline/core/SeededDice"), (0, u "state"), (0, u "J"), (0, .long 11400714819323198485), (1, .long 13787848793156543929), (1, .long 10723151780598845931), (16, u "next"), (0, u "()J"), (4, .class_ 41), (0, u "com/example/gunline/gunline/core/Dice"), (0, u "GAMMA"), (1, u "MIX_1"), (0, u "MIX_2"), (0, u "(J)V")] 25

def k3c0 : Code := { maxStack := 3, maxLocals := 3, code := prog_96_method_1_code, exceptionTable := #[], attributes := #[] }
def k3m0 : Method := { name := "<init>", desc := "(J)V", sig := { parameters := [.long], returnType := none }, accessFlags := 0, code := some k3c0 }
def k3c1 : Code := { maxStack := 5, maxLocals := 3, code := prog_96_method_2_code, exceptionTable := #[], attributes := #[] }
def k3m1 : Method := { name := "next", desc := "()J", sig := { parameters := [], returnType := some .long }, accessFlags := 0, code := some k3c1 }
/-- com/example/gunline/gunline/core/SeededDice -/
def k3 : Class := { plain "com/example/gunline/gunline/core/SeededDice" (some 0) with
  accessFlags := 48
  interfaces := #[2]
  cf := some (fileOf pool3 8 #[] #[{ accessFlags := 0, nameIndex := 5, descriptorIndex := 46, attributes := #[] }, { accessFlags := 0, nameIndex := 34, descriptorIndex := 35, attributes := #[] }] 48 2 #[40] #[{ accessFlags := 26, nameIndex := 42, descriptorIndex := 12, attributes := #[] }, { accessFlags := 26, nameIndex := 44, descriptorIndex := 12, attributes := #[] }, { accessFlags := 26, nameIndex := 45, descriptorIndex := 12, attributes := #[] }, { accessFlags := 2, nameIndex := 11, descriptorIndex := 12, attributes := #[] }])
  fields := #[{ name := "GAMMA", type := .long, accessFlags := 26, slot := 0, constantValue := 0 }, { name := "MIX_1", type := .long, accessFlags := 26, slot := 1, constantValue := 0 }, { name := "MIX_2", type := .long, accessFlags := 26, slot := 2, constantValue := 0 }, { name := "state", type := .long, accessFlags := 2, slot := 0, constantValue := 0 }]
  methods := #[k3m0, k3m1]
  instanceTypes := #[.long]
  staticTypes := #[.long, .long, .long]
  resolved := Array.replicate 72 none
  statics := none }

def pool4 : Array CpInfo := pool [(1, u "java/lang/Cloneable"), (0, .class_ 1), (0, u "java/lang/Object"), (0, .class_ 3)] 3

/-- java/lang/Cloneable -/
def k4 : Class := { plain "java/lang/Cloneable" (some 0) with
  accessFlags := 1537
  interfaces := #[]
  cf := some (fileOf pool4 2 #[] #[] 1537 4 #[] #[])
  fields := #[]
  methods := #[]
  instanceTypes := #[]
  staticTypes := #[]
  resolved := Array.replicate 8 none
  statics := none }

def pool5 : Array CpInfo := pool [(1, u "java/io/Serializable"), (0, .class_ 1), (0, u "java/lang/Object"), (0, .class_ 3)] 3

/-- java/io/Serializable -/
def k5 : Class := { plain "java/io/Serializable" (some 0) with
  accessFlags := 1537
  interfaces := #[]
  cf := some (fileOf pool5 2 #[] #[] 1537 4 #[] #[])
  fields := #[]
  methods := #[]
  instanceTypes := #[]
  staticTypes := #[]
  resolved := Array.replicate 8 none
  statics := none }

/-- the primitive byte -/
def k6 : Class := { plain "byte" none with kind := .primitive 'B', accessFlags := 0x411 }
/-- [B -/
def k7 : Class := { plain "[B" (some 0) with kind := .array 6 .byte, interfaces := #[4, 5], accessFlags := 1041 }

def heap : Heap := #[]
def classes : Array Class := #[k0, k1, k2, k3, k4, k5, k6, k7]
def interned : List (Array UInt16 × Addr) := []
def slotsUsed : Nat := 0
def theMethod : MethodId := ⟨1, 4⟩
def args0 : Array Value := #[.long 5]
def aboutOver (below : List Frame) : State where
  vm := { classes := classes, interned := interned.toArray }
  heap := heap
  slotsUsed := slotsUsed
  threads := #[{ frames := .invoking theMethod args0 :: below }]
def below0 : List Frame := [.native { method := ⟨0, 0⟩, args := #[] }]
def about1 : State := aboutOver below0
def p0 : Program := .bare "" "" ""
def e0 : Env := launch0.env 0 0 0
theorem w_frames : about1.frames = Frame.invoking theMethod args0 :: below0 := rfl
set_option maxRecDepth 65536 in
theorem w_args : argsFit about1.vm theMethod args0 = true := by decide +kernel
set_option maxRecDepth 65536 in
theorem w_heap : heapFits about1 = true := by decide +kernel
set_option maxRecDepth 65536 in
theorem w_runnable : about1.curStatus? = some .runnable := by decide +kernel
set_option maxRecDepth 65536 in
theorem w_alone : about1.alone = true := by decide +kernel
set_option maxRecDepth 65536 in
theorem w_named : about1.methodNamed? x = some theMethod := by decide +kernel
set_option maxRecDepth 65536 in
theorem w_hears : about1.hears theMethod below0 = true := by decide +kernel
set_option maxRecDepth 65536 in
theorem w_ripe : about1.ripe theMethod args0 below0 = true := by decide +kernel
theorem w_running : about1.status = .running := rfl
set_option maxRecDepth 65536 in
theorem w_room : about1.hasRoom e0.platform room_1 = true :=
  launch0.hasRoom_least _ room_1 (by decide +kernel) (by decide +kernel) (by decide +kernel) (by decide +kernel) (by decide +kernel) (by decide +kernel)
theorem allAtoms_all (ts : List Jvm.Cond) (a : Array Jvm.Value) (st : Jvm.State) : (allAtoms ts).before a st = ts.all (fun c => c.before a st) := by
  induction ts with
  | nil => rfl
  | cons c t ih =>
    show (Jvm.Cond.and c (allAtoms t)).before a st = _
    rw [Jvm.Cond.before_and, ih, List.all_cons]
def words1 : List Jvm.Cond := Jvm.Cond.code x code maxLocals ret :: tables_1
/-- a 'code' word, met by the world's own term for the bytes: nothing is compared byte by byte -/
theorem code_word {y : MethodName} {bytes : ByteArray} {mx : Nat} {rt : Option FieldType} {a : Array Value} {s : State} {m : MethodId} {meth : Method} {c : Code} (h1 : s.methodNamed? y = some m) (h2 : s.vm.method? m = some meth) (h3 : meth.code = some c) (h4 : c.code = bytes)
    (h5 : (c.maxLocals == mx && c.exceptionTable.isEmpty && decide (c.maxStack ≤ mostOperands) && decide (meth.sig.returnType = rt) && !meth.locks && decide (parseMethodDescriptor y.desc = some meth.sig)) = true) : (Jvm.Cond.code y bytes mx rt).before a s = true := by
  simp only [Bool.and_eq_true, beq_iff_eq, Bool.not_eq_true', decide_eq_true_eq] at h5
  obtain ⟨⟨⟨⟨⟨g1, g2⟩, g3⟩, g4⟩, g5⟩, g6⟩ := h5
  simp [Cond.before, Cond.holds, Cond.value, h1, h2, h3, h4, g1, g2, g3, g4, g5, g6]
def isCode : Jvm.Cond → Bool
  | .code _ _ _ _ => true
  | _ => false
theorem all_split {L : List Jvm.Cond} {P : Jvm.Cond → Bool} (h1 : L.all (fun c => isCode c || P c) = true) (h2 : ∀ c ∈ L.filter isCode, P c = true) : L.all P = true := by
  refine List.all_eq_true.mpr fun c hc => ?_
  have h := List.all_eq_true.mp h1 c hc
  rcases Bool.eq_false_or_eq_true (isCode c) with hi | hi
  · exact h2 c (List.mem_filter.mpr ⟨hc, hi⟩)
  · simpa [hi] using h
set_option maxRecDepth 65536 in
theorem w_c0 : (Jvm.Cond.code x code maxLocals ret).before args0 about1 = true := code_word (m := ⟨1, 4⟩) (meth := k1m4) (c := k1c4) (by decide +kernel) rfl rfl rfl (by decide +kernel)
set_option maxRecDepth 65536 in
theorem w_c1 : (Jvm.Cond.code ({ cls := "com/example/gunline/gunline/core/SeededDice", name := "<init>", desc := "(J)V" } : Jvm.MethodName) prog_96_method_1_code (3 : Nat) (Option.none : Option Jvm.ClassFile.FieldType)).before args0 about1 = true := code_word (m := ⟨3, 0⟩) (meth := k3m0) (c := k3c0) (by decide +kernel) rfl rfl rfl (by decide +kernel)
set_option maxRecDepth 65536 in
theorem w_c2 : (Jvm.Cond.code ({ cls := "java/lang/Object", name := "<init>", desc := "()V" } : Jvm.MethodName) object_method_1_code (1 : Nat) (Option.none : Option Jvm.ClassFile.FieldType)).before args0 about1 = true := code_word (m := ⟨0, 0⟩) (meth := k0m0) (c := k0c0) (by decide +kernel) rfl rfl rfl (by decide +kernel)
set_option maxRecDepth 65536 in
theorem w_c3 : (Jvm.Cond.code ({ cls := "com/example/gunline/gunline/core/SeededDice", name := "next", desc := "()J" } : Jvm.MethodName) prog_96_method_2_code (3 : Nat) (Option.some Jvm.ClassFile.FieldType.long)).before args0 about1 = true := code_word (m := ⟨3, 1⟩) (meth := k3m1) (c := k3c1) (by decide +kernel) rfl rfl rfl (by decide +kernel)
set_option maxRecDepth 65536 in
theorem w_c4 : (Jvm.Cond.code ({ cls := "com/example/gunline/gunline/core/SeededDiceNextPinLaw", name := "unmix", desc := "(J)J" } : Jvm.MethodName) method_4_code (4 : Nat) (Option.some Jvm.ClassFile.FieldType.long)).before args0 about1 = true := code_word (m := ⟨1, 3⟩) (meth := k1m3) (c := k1c3) (by decide +kernel) rfl rfl rfl (by decide +kernel)
set_option maxRecDepth 65536 in
theorem w_c5 : (Jvm.Cond.code ({ cls := "com/example/gunline/gunline/core/SeededDiceNextPinLaw", name := "unshift", desc := "(JI)J" } : Jvm.MethodName) method_3_code (3 : Nat) (Option.some Jvm.ClassFile.FieldType.long)).before args0 about1 = true := code_word (m := ⟨1, 2⟩) (meth := k1m2) (c := k1c2) (by decide +kernel) rfl rfl rfl (by decide +kernel)
set_option maxRecDepth 65536 in
theorem w_c6 : (Jvm.Cond.code ({ cls := "com/example/gunline/gunline/core/SeededDiceNextPinLaw", name := "inv", desc := "(J)J" } : Jvm.MethodName) method_2_code (4 : Nat) (Option.some Jvm.ClassFile.FieldType.long)).before args0 about1 = true := code_word (m := ⟨1, 1⟩) (meth := k1m1) (c := k1c1) (by decide +kernel) rfl rfl rfl (by decide +kernel)
def codes1 : List Jvm.Cond := [Jvm.Cond.code x code maxLocals ret, Jvm.Cond.code ({ cls := "com/example/gunline/gunline/core/SeededDice", name := "<init>", desc := "(J)V" } : Jvm.MethodName) prog_96_method_1_code (3 : Nat) (Option.none : Option Jvm.ClassFile.FieldType), Jvm.Cond.code ({ cls := "java/lang/Object", name := "<init>", desc := "()V" } : Jvm.MethodName) object_method_1_code (1 : Nat) (Option.none : Option Jvm.ClassFile.FieldType), Jvm.Cond.code ({ cls := "com/example/gunline/gunline/core/SeededDice", name := "next", desc := "()J" } : Jvm.MethodName) prog_96_method_2_code (3 : Nat) (Option.some Jvm.ClassFile.FieldType.long), Jvm.Cond.code ({ cls := "com/example/gunline/gunline/core/SeededDiceNextPinLaw", name := "unmix", desc := "(J)J" } : Jvm.MethodName) method_4_code (4 : Nat) (Option.some Jvm.ClassFile.FieldType.long), Jvm.Cond.code ({ cls := "com/example/gunline/gunline/core/SeededDiceNextPinLaw", name := "unshift", desc := "(JI)J" } : Jvm.MethodName) method_3_code (3 : Nat) (Option.some Jvm.ClassFile.FieldType.long), Jvm.Cond.code ({ cls := "com/example/gunline/gunline/core/SeededDiceNextPinLaw", name := "inv", desc := "(J)J" } : Jvm.MethodName) method_2_code (4 : Nat) (Option.some Jvm.ClassFile.FieldType.long)]
set_option maxRecDepth 65536 in
theorem codes_eq : words1.filter isCode = codes1 := rfl
theorem w_codes : ∀ c ∈ words1.filter isCode, c.before args0 about1 = true := by
  rw [codes_eq]
  intro c hc
  simp only [codes1, List.mem_cons, List.not_mem_nil, or_false] at hc
  rcases hc with rfl | rfl | rfl | rfl | rfl | rfl | rfl
  · exact w_c0
  · exact w_c1
  · exact w_c2
  · exact w_c3
  · exact w_c4
  · exact w_c5
  · exact w_c6
set_option maxRecDepth 65536 in
theorem w_t1 : (words1.take 24).all (fun c => isCode c || c.before args0 about1) = true := by decide +kernel
set_option maxRecDepth 65536 in
theorem w_t2 : (words1.drop 24).all (fun c => isCode c || c.before args0 about1) = true := by decide +kernel
theorem w_tables : (allAtoms (Jvm.Cond.code x code maxLocals ret :: tables_1)).before args0 about1 = true := by
  rw [allAtoms_all]
  show words1.all (fun c => c.before args0 about1) = true
  refine all_split ?_ w_codes
  rw [← List.take_append_drop 24 words1, List.all_append, w_t1, w_t2]
  rfl
set_option maxRecDepth 65536 in
theorem w_case : (Jvm.Cond.and given_1 narrow_1).before args0 about1 = true := by decide +kernel
theorem w_applies : (headSpec (Jvm.Cond.code x code maxLocals ret :: tables_1) room_1).applies x e0.platform about1 = true :=
  (Spec.applies_iff w_frames).mpr ⟨w_running, w_runnable, w_alone, w_named, w_hears, w_ripe, w_room, w_tables⟩
theorem atStart : AtStart classFile x code maxLocals ret World_1 tables_1 room_1 Calls_1 rest_1 Pre_1 launch0 p0 e0 about1 theMethod args0 below0 :=
  ⟨lists_1, trivial, launch0.admits_env _ _ _, launch0.least_env, fairChoices_fair.cas, fairChoices_fair.clock, w_frames, w_args, w_heap, w_applies, trivial, trivial, w_case⟩
end start1
theorem witness_1 : WitnessClaimed_1 := ⟨start1.p0, start1.e0, start1.about1, start1.theMethod, start1.args0, start1.below0, start1.atStart⟩
end Jvm.Pilot.@@N@@
