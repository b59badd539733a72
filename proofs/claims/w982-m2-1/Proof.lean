import JvmDerived
import JvmDerived.Pilot.@@N@@Statement
import JvmDerived.Pilot.@@N@@Code
set_option linter.unusedVariables false
set_option linter.unusedSimpArgs false
namespace Jvm.RoadKit
open Sem ClassFile Op Lib Jvm.Stand Jvm.Free Jvm.LawKit
section New
variable {p : Program} {l : Launch} {e : Env} {R : Room} {s : State} {m : MethodId} {args : Array Value} {below : List Frame} {meth : Method} {c : Code} {T : State} {locs : List Loc} {cells slots : Nat}
theorem retI (X : Stand p l e R s m args below meth c T locs cells slots) (hx : p.tables.exec = Jvm.exec) {pc : Nat} {Ls : Array Slot} {z : Int32} {rest : List Value} (hret : meth.sig.returnType = some .int) (hd : decode c.code pc = .ok (.ireturn, 1)) {fs : List Frame}
    (hl : ∀ (f : JFrame) (acts : List Action), f.method = m → f.locked = none → f.entered = [] → (doReturn e (T.setTop f) acts (some (.int z))).1 = T.setFrames fs) : Steps p.tables e below (T.setTop (mkF m pc Ls (.int z :: rest))) (T.setFrames fs) := by
  have hm' : T.vm.method? m = some meth := X.method'
  have hn : narrow .int (.int z) = .int z := rfl
  show Steps p.tables e below (T.setTop { method := m, pc := pc, locals := Ls, stack := _ :: rest, locked := none }) _
  jvm_step X.here [X.here.top, hx, hd, hm', hret, hn]
  first | (intro acts; rw [hl _ acts rfl rfl rfl]) | rw [hl _ _ rfl rfl rfl]
  exact Steps.refl _
end New
end Jvm.RoadKit
namespace Jvm.Pilot.@@N@@
open Jvm Jvm.ClassFile Sem Op Lib Jvm.Free Jvm.Stand Jvm.LawKit Jvm.RoadKit Bundle Jvm.Pilot.@@N@@.Jvm.D
/-- the run from here ends well -/
def own_Go (tb : Tables) (e : Env) (below : List Frame) (P : Outcome → State → Prop) (T : State) (f : JFrame) : Prop := ∃ s₂ o, Steps tb e below (T.setTop f) s₂ ∧ s₂.status = .running ∧ Ended s₂ below o ∧ P o s₂
theorem own_go {tb : Tables} {e : Env} {below : List Frame} {P : Outcome → State → Prop} {T T' : State} {f f' : JFrame} (k : ∀ t, Steps tb e below (T'.setTop f') t → Steps tb e below (T.setTop f) t) (h : own_Go tb e below P T' f') : own_Go tb e below P T f := by
  obtain ⟨s₂, o, h1, h2⟩ := h
  exact ⟨s₂, o, k _ h1, h2⟩
theorem own_keep1 {h0 h h' : Heap} {ws : List Addr} {b : Addr} (K : Keep h0 h ws) (K' : Keep h h' [b]) (q : h0.size ≤ b) : Keep h0 h' ws := K.trans K' fun x hx => Or.inr (by cases List.mem_singleton.mp hx; exact q)
theorem own_eqi {a b : Term} {args : Array Value} {first s : State} {o : Option Outcome} {idx : List Nat} {y : Int32} (h : (Jvm.Cond.eq a b).value args first o s idx = some true) (hb : b.eval args first o idx s = some (.int y)) : a.eval args first o idx s = some (.int y) := by
  cases ha : a.eval args first o idx s with
  | none => simp [Cond.value, ha] at h
  | some x => cases x <;> simp [Cond.value, ha, hb] at h; subst h; rfl
theorem own_not1 {a b : Addr} (q : a ≠ b) : a ∉ [b] := fun h => q (List.mem_singleton.mp h)
def own_PW (s : State) (Q : Option Value → Heap → List Loc → Prop) (k n : Nat) (o : Outcome) (U : State) : Prop := ∃ v L, o = .returned v ∧ Q v U.heap L ∧ ReturnedEndW s o U L k n
def own_P (s : State) (Q : Option Value → Heap → List Loc → Prop) (k n : Nat) (o : Outcome) (U : State) : Prop := ∃ v L, o = .returned v ∧ Q v U.heap L ∧ FrameEnd s o U L k n
theorem own_nn (x : Int64) : 0 ≤ (x &&& 9223372036854775807).toInt := by
  have h : (x &&& 9223372036854775807).toBitVec.msb = false := by
    rw [Int64.toBitVec_and, BitVec.msb_and, show (9223372036854775807 : Int64).toBitVec.msb = false from by decide, Bool.and_false]
  exact BitVec.toInt_nonneg_of_msb_false h
theorem own_max : (9223372036854775807 : Int64).toInt = 9223372036854775807 := by decide
def own_sum (a b : Int64) : Int64 := if 9223372036854775807 - b < a then 9223372036854775807 else a + b
def own_exp (s : Int64) : Int64 := if s < 0 then 9223372036854775807 else s
theorem own_sum_eq (a b : Int64) (ha : 0 ≤ a.toInt) (hbb : 0 ≤ b.toInt) : own_sum a b = own_exp (a + b) := by
  have h1 := a.toInt_lt; have h2 := b.toInt_lt
  have e1 : (9223372036854775807 - b).toInt = 9223372036854775807 - b.toInt := by
    rw [Int64.toInt_sub, own_max, Int.bmod_eq_of_le] <;> omega
  unfold own_sum own_exp
  by_cases h : a.toInt + b.toInt < 2 ^ 63
  · have e2 : (a + b).toInt = a.toInt + b.toInt := by rw [Int64.toInt_add, Int.bmod_eq_of_le] <;> omega
    rw [if_neg (by rw [Int64.lt_iff_toInt_lt, e1]; omega), if_neg (by rw [Int64.lt_iff_toInt_lt, e2, Int64.toInt_zero]; omega)]
  · have e2 : (a + b).toInt < 0 := by
      have := Int64.toInt_add a b
      rw [this]
      have q : (a.toInt + b.toInt).bmod (2 ^ 64) = a.toInt + b.toInt - 2 ^ 64 := by
        rw [Int.bmod_def, Int.emod_eq_of_lt (by omega) (by omega)]; split <;> omega
      rw [q]; omega
    rw [if_pos (by rw [Int64.lt_iff_toInt_lt, e1]; omega), if_pos (by rw [Int64.lt_iff_toInt_lt, Int64.toInt_zero]; omega)]
theorem own_sum_comm (a b : Int64) (ha : 0 ≤ a.toInt) (hbb : 0 ≤ b.toInt) : own_sum b a = own_exp (a + b) := by
  rw [own_sum_eq b a hbb ha, Int64.add_comm]
theorem d1_0 : decode prog_82_method_6_code 0 = .ok (.lload_n 0, 1) := by decide +kernel
theorem d1_1 : decode prog_82_method_6_code 1 = .ok (.ldc2_w 38, 3) := by decide +kernel
theorem d1_4 : decode prog_82_method_6_code 4 = .ok (.lload_n 2, 1) := by decide +kernel
theorem d1_5 : decode prog_82_method_6_code 5 = .ok (.lsub, 1) := by decide +kernel
theorem d1_6 : decode prog_82_method_6_code 6 = .ok (.lcmp, 1) := by decide +kernel
theorem d1_7 : decode prog_82_method_6_code 7 = .ok (.ifCond .le 9, 3) := by decide +kernel
theorem d1_10 : decode prog_82_method_6_code 10 = .ok (.ldc2_w 38, 3) := by decide +kernel
theorem d1_13 : decode prog_82_method_6_code 13 = .ok (.goto 6, 3) := by decide +kernel
theorem d1_16 : decode prog_82_method_6_code 16 = .ok (.lload_n 0, 1) := by decide +kernel
theorem d1_17 : decode prog_82_method_6_code 17 = .ok (.lload_n 2, 1) := by decide +kernel
theorem d1_18 : decode prog_82_method_6_code 18 = .ok (.ladd, 1) := by decide +kernel
theorem d1_19 : decode prog_82_method_6_code 19 = .ok (.lreturn, 1) := by decide +kernel
theorem pn_0 : plainName "com/example/tallyflow/tallyflow/Operations" = true := by first | (simp [plainName, overriddenIn]; done) | decide +kernel
theorem ef_1 (m : MethodId) {q1 : Int64} {q2 : Int64} : entryFrame m #[(.long q1), (.long q2)] 4 = mkF m 0 #[.val (.long q1), .second, .val (.long q2), .second] [] := by first | (simp [entryFrame, mkF, argsToLocals, Value.category]; done) | rfl
def Q1 (Z : State) (q1 : Int64) (q2 : Int64) (h0 : Heap) (n0 : Nat) (v : Option Value) (h : Heap) (L : List Loc) : Prop := v = some (.long (own_sum q1 q2)) ∧ Fr n0 L ∧ h = h0
set_option maxRecDepth 65536 in
set_option maxHeartbeats 40000000 in
theorem rm1 (l : Launch) (Z : State) (a0 : Array Value) (hw : ∀ d ∈ tables_1, d.before a0 Z = true) (ws : List Jvm.Cond) (q1 : Int64) (q2 : Int64) (h0 : Heap) (n0 : Nat) (Z0 : n0 ≤ h0.size) :
    MetFree l (⟨"com/example/tallyflow/tallyflow/Operations", "sum", "(JJ)J"⟩ : MethodName) (head1 (Jvm.Cond.code (⟨"com/example/tallyflow/tallyflow/Operations", "sum", "(JJ)J"⟩ : MethodName) prog_82_method_6_code 4 (some .long) :: ws) ({ frames := 0, cells := 0, slots := 0, locals := 0 } : Room)) (fun a U => a = #[(.long q1), (.long q2)] ∧ Z.Warmed39 U.vm ∧ U.heap = h0) (fun _ _ _ _ _ => True) (fun _ U o U' => ∃ v L, o = .returned v ∧ Q1 Z q1 q2 h0 n0 v U'.heap L ∧ FrameEnd U o U' L (({ frames := 0, cells := 0, slots := 0, locals := 0 } : Room)).cells (({ frames := 0, cells := 0, slots := 0, locals := 0 } : Room)).slots) := by
  refine MetFree.of_bodySF (plainFor_of_name pn_0) hisR ?_
  intro p e s m args below meth c s₁ Bd hml0 hP hK
  obtain ⟨rfl, hZ, hh⟩ := hP
  have hx := Bd.exec
  have hby := Bd.bytes
  have hml : c.maxLocals = 4 := hml0
  have hown : s.vm.findClass "com/example/tallyflow/tallyflow/Operations" = some m.cls := findClass_of_methodNamed Bd.named
  have hnm := (name_of_methodNamed Bd.named Bd.method).1
  have X0 : Stand p l e ({ frames := 0, cells := 0, slots := 0, locals := 0 } : Room) s m #[(.long q1), (.long q2)] below meth c s₁ [] 0 0 := Stand.of_body Bd
  have e0 : s₁.heap = h0 := by rw [← hh, Bd.state]; rfl
  have N0 := Fr.nil n0
  show own_Go p.tables e below (own_P s (Q1 Z q1 q2 h0 n0) ({ frames := 0, cells := 0, slots := 0, locals := 0 } : Room).cells ({ frames := 0, cells := 0, slots := 0, locals := 0 } : Room).slots) s₁ _
  rw [ef_1]
  show own_Go p.tables e below _ s₁ (mkF m 0 #[.val (.long q1), .second, .val (.long q2), .second] [])
  refine own_go (fun tz kz => XT.lloadN X0.here hx rfl (hb hby d1_0) rfl kz) ?_
  show own_Go p.tables e below _ s₁ (mkF m 1 #[.val (.long q1), .second, .val (.long q2), .second] [(.long q1)])
  refine own_go (fun tz kz => X0.ldc2J hx hown (mvT hZ (hw _ (List.mem_of_getElem? (i := 5) rfl))) rfl (hb hby d1_1) kz) ?_
  show own_Go p.tables e below _ s₁ (mkF m 4 #[.val (.long q1), .second, .val (.long q2), .second] [(.long (9223372036854775807 : Int64)), (.long q1)])
  refine own_go (fun tz kz => XT.lloadN X0.here hx rfl (hb hby d1_4) rfl kz) ?_
  show own_Go p.tables e below _ s₁ (mkF m 5 #[.val (.long q1), .second, .val (.long q2), .second] [(.long q2), (.long (9223372036854775807 : Int64)), (.long q1)])
  refine own_go (fun tz kz => XT.lsub X0.here hx rfl (hb hby d1_5) rfl kz) ?_
  show own_Go p.tables e below _ s₁ (mkF m 6 #[.val (.long q1), .second, .val (.long q2), .second] [(.long ((9223372036854775807 : Int64) - q2)), (.long q1)])
  refine own_go (fun tz kz => XT.lcmp X0.here hx rfl (hb hby d1_6) rfl kz) ?_
  show own_Go p.tables e below _ s₁ (mkF m 7 #[.val (.long q1), .second, .val (.long q2), .second] [(.int (XT.cmpL q1 ((9223372036854775807 : Int64) - q2)))])
  by_cases hc : ((9223372036854775807 : Int64) - q2) < q1
  ·
    refine own_go (fun tz kz => XS.ifNo X0.here hx rfl (hb hby d1_7) rfl (XT.ll_le_f hc) kz) ?_
    show own_Go p.tables e below _ s₁ (mkF m 10 #[.val (.long q1), .second, .val (.long q2), .second] [])
    refine own_go (fun tz kz => X0.ldc2J hx hown (mvT hZ (hw _ (List.mem_of_getElem? (i := 5) rfl))) rfl (hb hby d1_10) kz) ?_
    show own_Go p.tables e below _ s₁ (mkF m 13 #[.val (.long q1), .second, .val (.long q2), .second] [(.long (9223372036854775807 : Int64))])
    refine own_go (fun tz kz => XS.goto X0.here hx rfl (pc0 := 13) (pc' := 19) rfl (hb hby d1_13) (by decide) (by decide) kz) ?_
    show own_Go p.tables e below _ s₁ (mkF m 19 #[.val (.long q1), .second, .val (.long q2), .second] [(.long (9223372036854775807 : Int64))])
    obtain ⟨fs, hr, hrun, hended, hW, hsame⟩ := X0.leave (v := some (.long (9223372036854775807 : Int64))) (fun h => by rw [Bd.returns] at h; cases h)
    refine ⟨_, _, ?_, hrun, hended, _, _, rfl, ?_, ⟨_, rfl⟩, hW, hsame.mono (by decide) (by decide)⟩
    · exact X0.lreturnOut hx Bd.returns (hb hby d1_19) hr
    · show Q1 Z q1 q2 h0 n0 _ s₁.heap _
      rw [e0]
      exact ⟨congrArg (fun z => some (Value.long z)) (if_pos hc).symm, N0, rfl⟩
  ·
    refine own_go (fun tz kz => XS.ifYes X0.here hx rfl (pc0 := 7) (pc' := 16) rfl (hb hby d1_7) rfl (XT.ll_le_t hc) (by decide) (by decide) kz) ?_
    show own_Go p.tables e below _ s₁ (mkF m 16 #[.val (.long q1), .second, .val (.long q2), .second] [])
    refine own_go (fun tz kz => XT.lloadN X0.here hx rfl (hb hby d1_16) rfl kz) ?_
    show own_Go p.tables e below _ s₁ (mkF m 17 #[.val (.long q1), .second, .val (.long q2), .second] [(.long q1)])
    refine own_go (fun tz kz => XT.lloadN X0.here hx rfl (hb hby d1_17) rfl kz) ?_
    show own_Go p.tables e below _ s₁ (mkF m 18 #[.val (.long q1), .second, .val (.long q2), .second] [(.long q2), (.long q1)])
    refine own_go (fun tz kz => XT.ladd X0.here hx rfl (hb hby d1_18) rfl kz) ?_
    show own_Go p.tables e below _ s₁ (mkF m 19 #[.val (.long q1), .second, .val (.long q2), .second] [(.long (q1 + q2))])
    obtain ⟨fs, hr, hrun, hended, hW, hsame⟩ := X0.leave (v := some (.long (q1 + q2))) (fun h => by rw [Bd.returns] at h; cases h)
    refine ⟨_, _, ?_, hrun, hended, _, _, rfl, ?_, ⟨_, rfl⟩, hW, hsame.mono (by decide) (by decide)⟩
    · exact X0.lreturnOut hx Bd.returns (hb hby d1_19) hr
    · show Q1 Z q1 q2 h0 n0 _ s₁.heap _
      rw [e0]
      exact ⟨congrArg (fun z => some (Value.long z)) (if_neg hc).symm, N0, rfl⟩
theorem pd_0 : parseMethodDescriptor "(JJ)J" = some ⟨[.long, .long], some .long⟩ := by decide +kernel
theorem pn_1 : plainName "com/example/tallyflow/tallyflow/OperationsSumPinLaw" = true := by first | (simp [plainName, overriddenIn]; done) | decide +kernel
theorem ef_0 (m : MethodId) {q1 : Int64} {q2 : Int64} {p3 : Int32} : entryFrame m #[(.long q1), (.long q2), (.int p3)] maxLocals = mkF m 0 #[.val (.long q1), .second, .val (.long q2), .second, .val (.int p3), .unset, .unset, .unset, .unset, .unset, .unset, .unset, .unset, .unset, .unset, .unset, .unset] [] := by first | (simp [entryFrame, mkF, argsToLocals, Value.category, maxLocals]; done) | rfl
def Q0 (Z : State) (q1 : Int64) (q2 : Int64) (p3 : Int32) (h0 : Heap) (n0 : Nat) (v : Option Value) (h : Heap) (L : List Loc) : Prop := v = some (.int 1) ∧ Fr n0 L
set_option maxRecDepth 65536 in
set_option maxHeartbeats 40000000 in
theorem rm0 (l : Launch) (Z : State) (a0 : Array Value) (hw : ∀ d ∈ tables_1, d.before a0 Z = true) (ws : List Jvm.Cond) (q1 : Int64) (q2 : Int64) (p3 : Int32) (h0 : Heap) (n0 : Nat) (Z0 : n0 ≤ h0.size) :
    MetFree l x (head1 (Jvm.Cond.code x code maxLocals ret :: ws) room_1) (fun a U => a = #[(.long q1), (.long q2), (.int p3)] ∧ Z.Warmed39 U.vm ∧ U.heap = h0) (fun _ _ _ _ _ => True) (fun _ U o U' => ∃ v L, o = .returned v ∧ Q0 Z q1 q2 p3 h0 n0 v U'.heap L ∧ FrameEnd U o U' L (room_1).cells (room_1).slots) := by
  refine MetFree.of_bodySF (plainFor_of_name pn_1) hisR ?_
  intro p e s m args below meth c s₁ Bd hml0 hP hK
  obtain ⟨rfl, hZ, hh⟩ := hP
  have hx := Bd.exec
  have hby := Bd.bytes
  have hml : c.maxLocals = 17 := hml0
  have hown : s.vm.findClass "com/example/tallyflow/tallyflow/OperationsSumPinLaw" = some m.cls := findClass_of_methodNamed Bd.named
  have hnm := (name_of_methodNamed Bd.named Bd.method).1
  have X0 : Stand p l e room_1 s m #[(.long q1), (.long q2), (.int p3)] below meth c s₁ [] 0 0 := Stand.of_body Bd
  have e0 : s₁.heap = h0 := by rw [← hh, Bd.state]; rfl
  have N0 := Fr.nil n0
  show own_Go p.tables e below (own_P s (Q0 Z q1 q2 p3 h0 n0) room_1.cells room_1.slots) s₁ _
  rw [ef_0]
  show own_Go p.tables e below _ s₁ (mkF m 0 #[.val (.long q1), .second, .val (.long q2), .second, .val (.int p3), .unset, .unset, .unset, .unset, .unset, .unset, .unset, .unset, .unset, .unset, .unset, .unset] [])
  refine own_go (fun tz kz => XT.lloadN X0.here hx rfl (hb hby at_0) rfl kz) ?_
  show own_Go p.tables e below _ s₁ (mkF m 1 #[.val (.long q1), .second, .val (.long q2), .second, .val (.int p3), .unset, .unset, .unset, .unset, .unset, .unset, .unset, .unset, .unset, .unset, .unset, .unset] [(.long q1)])
  refine own_go (fun tz kz => X0.ldc2J hx hown (mvT hZ (hw _ (List.mem_of_getElem? (i := 0) rfl))) rfl (hb hby at_1) kz) ?_
  show own_Go p.tables e below _ s₁ (mkF m 4 #[.val (.long q1), .second, .val (.long q2), .second, .val (.int p3), .unset, .unset, .unset, .unset, .unset, .unset, .unset, .unset, .unset, .unset, .unset, .unset] [(.long (9223372036854775807 : Int64)), (.long q1)])
  refine own_go (fun tz kz => XT.land X0.here hx rfl (hb hby at_4) rfl kz) ?_
  show own_Go p.tables e below _ s₁ (mkF m 5 #[.val (.long q1), .second, .val (.long q2), .second, .val (.int p3), .unset, .unset, .unset, .unset, .unset, .unset, .unset, .unset, .unset, .unset, .unset, .unset] [(.long (q1 &&& (9223372036854775807 : Int64)))])
  refine own_go (fun tz kz => XT.lstore X0.here hx rfl (hb hby at_5) rfl (l' := #[.val (.long q1), .second, .val (.long q2), .second, .val (.int p3), .val (.long (q1 &&& (9223372036854775807 : Int64))), .second, .unset, .unset, .unset, .unset, .unset, .unset, .unset, .unset, .unset, .unset]) rfl kz) ?_
  show own_Go p.tables e below _ s₁ (mkF m 7 #[.val (.long q1), .second, .val (.long q2), .second, .val (.int p3), .val (.long (q1 &&& (9223372036854775807 : Int64))), .second, .unset, .unset, .unset, .unset, .unset, .unset, .unset, .unset, .unset, .unset] [])
  generalize ga : (q1 &&& (9223372036854775807 : Int64)) = a
  show own_Go p.tables e below _ s₁ (mkF m 7 #[.val (.long q1), .second, .val (.long q2), .second, .val (.int p3), .val (.long a), .second, .unset, .unset, .unset, .unset, .unset, .unset, .unset, .unset, .unset, .unset] [])
  have ha : 0 ≤ a.toInt := ga ▸ own_nn _
  refine own_go (fun tz kz => XT.lloadN X0.here hx rfl (hb hby at_7) rfl kz) ?_
  show own_Go p.tables e below _ s₁ (mkF m 8 #[.val (.long q1), .second, .val (.long q2), .second, .val (.int p3), .val (.long a), .second, .unset, .unset, .unset, .unset, .unset, .unset, .unset, .unset, .unset, .unset] [(.long q2)])
  refine own_go (fun tz kz => X0.ldc2J hx hown (mvT hZ (hw _ (List.mem_of_getElem? (i := 0) rfl))) rfl (hb hby at_8) kz) ?_
  show own_Go p.tables e below _ s₁ (mkF m 11 #[.val (.long q1), .second, .val (.long q2), .second, .val (.int p3), .val (.long a), .second, .unset, .unset, .unset, .unset, .unset, .unset, .unset, .unset, .unset, .unset] [(.long (9223372036854775807 : Int64)), (.long q2)])
  refine own_go (fun tz kz => XT.land X0.here hx rfl (hb hby at_11) rfl kz) ?_
  show own_Go p.tables e below _ s₁ (mkF m 12 #[.val (.long q1), .second, .val (.long q2), .second, .val (.int p3), .val (.long a), .second, .unset, .unset, .unset, .unset, .unset, .unset, .unset, .unset, .unset, .unset] [(.long (q2 &&& (9223372036854775807 : Int64)))])
  refine own_go (fun tz kz => XT.lstore X0.here hx rfl (hb hby at_12) rfl (l' := #[.val (.long q1), .second, .val (.long q2), .second, .val (.int p3), .val (.long a), .second, .val (.long (q2 &&& (9223372036854775807 : Int64))), .second, .unset, .unset, .unset, .unset, .unset, .unset, .unset, .unset]) rfl kz) ?_
  show own_Go p.tables e below _ s₁ (mkF m 14 #[.val (.long q1), .second, .val (.long q2), .second, .val (.int p3), .val (.long a), .second, .val (.long (q2 &&& (9223372036854775807 : Int64))), .second, .unset, .unset, .unset, .unset, .unset, .unset, .unset, .unset] [])
  refine own_go (fun tz kz => XS.iload X0.here hx rfl (hb hby at_14) rfl kz) ?_
  show own_Go p.tables e below _ s₁ (mkF m 16 #[.val (.long q1), .second, .val (.long q2), .second, .val (.int p3), .val (.long a), .second, .val (.long (q2 &&& (9223372036854775807 : Int64))), .second, .unset, .unset, .unset, .unset, .unset, .unset, .unset, .unset] [(.int p3)])
  refine own_go (fun tz kz => XS.iconst X0.here hx rfl (hb hby at_16) kz) ?_
  show own_Go p.tables e below _ s₁ (mkF m 17 #[.val (.long q1), .second, .val (.long q2), .second, .val (.int p3), .val (.long a), .second, .val (.long (q2 &&& (9223372036854775807 : Int64))), .second, .unset, .unset, .unset, .unset, .unset, .unset, .unset, .unset] [(.int (1 : Int32)), (.int p3)])
  refine own_go (fun tz kz => XS.iand X0.here hx rfl (hb hby at_17) rfl kz) ?_
  show own_Go p.tables e below _ s₁ (mkF m 18 #[.val (.long q1), .second, .val (.long q2), .second, .val (.int p3), .val (.long a), .second, .val (.long (q2 &&& (9223372036854775807 : Int64))), .second, .unset, .unset, .unset, .unset, .unset, .unset, .unset, .unset] [(.int (p3 &&& (1 : Int32)))])
  by_cases hm : (p3 &&& (1 : Int32)) = (0 : Int32)
  ·
    refine own_go (fun tz kz => XS.ifYes X0.here hx rfl (pc0 := 18) (pc' := 47) rfl (hb hby at_18) rfl (XT.i0_eq_t hm) (by decide) (by decide) kz) ?_
    show own_Go p.tables e below _ s₁ (mkF m 47 #[.val (.long q1), .second, .val (.long q2), .second, .val (.int p3), .val (.long a), .second, .val (.long (q2 &&& (9223372036854775807 : Int64))), .second, .unset, .unset, .unset, .unset, .unset, .unset, .unset, .unset] [])
    generalize gb : (q2 &&& (9223372036854775807 : Int64)) = b
    show own_Go p.tables e below _ s₁ (mkF m 47 #[.val (.long q1), .second, .val (.long q2), .second, .val (.int p3), .val (.long a), .second, .val (.long b), .second, .unset, .unset, .unset, .unset, .unset, .unset, .unset, .unset] [])
    have hbb : 0 ≤ b.toInt := gb ▸ own_nn _
    refine own_go (fun tz kz => XT.lload X0.here hx rfl (hb hby at_47) rfl kz) ?_
    show own_Go p.tables e below _ s₁ (mkF m 49 #[.val (.long q1), .second, .val (.long q2), .second, .val (.int p3), .val (.long a), .second, .val (.long b), .second, .unset, .unset, .unset, .unset, .unset, .unset, .unset, .unset] [(.long a)])
    refine own_go (fun tz kz => XT.lload X0.here hx rfl (hb hby at_49) rfl kz) ?_
    show own_Go p.tables e below _ s₁ (mkF m 51 #[.val (.long q1), .second, .val (.long q2), .second, .val (.int p3), .val (.long a), .second, .val (.long b), .second, .unset, .unset, .unset, .unset, .unset, .unset, .unset, .unset] [(.long b), (.long a)])
    refine own_go (fun tz kz => XT.ladd X0.here hx rfl (hb hby at_51) rfl kz) ?_
    show own_Go p.tables e below _ s₁ (mkF m 52 #[.val (.long q1), .second, .val (.long q2), .second, .val (.int p3), .val (.long a), .second, .val (.long b), .second, .unset, .unset, .unset, .unset, .unset, .unset, .unset, .unset] [(.long (a + b))])
    refine own_go (fun tz kz => XT.lstore X0.here hx rfl (hb hby at_52) rfl (l' := #[.val (.long q1), .second, .val (.long q2), .second, .val (.int p3), .val (.long a), .second, .val (.long b), .second, .val (.long (a + b)), .second, .unset, .unset, .unset, .unset, .unset, .unset]) rfl kz) ?_
    show own_Go p.tables e below _ s₁ (mkF m 54 #[.val (.long q1), .second, .val (.long q2), .second, .val (.int p3), .val (.long a), .second, .val (.long b), .second, .val (.long (a + b)), .second, .unset, .unset, .unset, .unset, .unset, .unset] [])
    refine own_go (fun tz kz => XT.lload X0.here hx rfl (hb hby at_54) rfl kz) ?_
    show own_Go p.tables e below _ s₁ (mkF m 56 #[.val (.long q1), .second, .val (.long q2), .second, .val (.int p3), .val (.long a), .second, .val (.long b), .second, .val (.long (a + b)), .second, .unset, .unset, .unset, .unset, .unset, .unset] [(.long (a + b))])
    refine own_go (fun tz kz => XT.lconst X0.here hx rfl (hb hby at_56) kz) ?_
    show own_Go p.tables e below _ s₁ (mkF m 57 #[.val (.long q1), .second, .val (.long q2), .second, .val (.int p3), .val (.long a), .second, .val (.long b), .second, .val (.long (a + b)), .second, .unset, .unset, .unset, .unset, .unset, .unset] [(.long (0 : Int64)), (.long (a + b))])
    refine own_go (fun tz kz => XT.lcmp X0.here hx rfl (hb hby at_57) rfl kz) ?_
    show own_Go p.tables e below _ s₁ (mkF m 58 #[.val (.long q1), .second, .val (.long q2), .second, .val (.int p3), .val (.long a), .second, .val (.long b), .second, .val (.long (a + b)), .second, .unset, .unset, .unset, .unset, .unset, .unset] [(.int (XT.cmpL (a + b) (0 : Int64)))])
    by_cases hs : (a + b) < (0 : Int64)
    ·
      refine own_go (fun tz kz => XS.ifNo X0.here hx rfl (hb hby at_58) rfl (XT.ll_ge_f hs) kz) ?_
      show own_Go p.tables e below _ s₁ (mkF m 61 #[.val (.long q1), .second, .val (.long q2), .second, .val (.int p3), .val (.long a), .second, .val (.long b), .second, .val (.long (a + b)), .second, .unset, .unset, .unset, .unset, .unset, .unset] [])
      refine own_go (fun tz kz => X0.ldc2J hx hown (mvT hZ (hw _ (List.mem_of_getElem? (i := 0) rfl))) rfl (hb hby at_61) kz) ?_
      show own_Go p.tables e below _ s₁ (mkF m 64 #[.val (.long q1), .second, .val (.long q2), .second, .val (.int p3), .val (.long a), .second, .val (.long b), .second, .val (.long (a + b)), .second, .unset, .unset, .unset, .unset, .unset, .unset] [(.long (9223372036854775807 : Int64))])
      refine own_go (fun tz kz => XS.goto X0.here hx rfl (pc0 := 64) (pc' := 69) rfl (hb hby at_64) (by decide) (by decide) kz) ?_
      show own_Go p.tables e below _ s₁ (mkF m 69 #[.val (.long q1), .second, .val (.long q2), .second, .val (.int p3), .val (.long a), .second, .val (.long b), .second, .val (.long (a + b)), .second, .unset, .unset, .unset, .unset, .unset, .unset] [(.long (9223372036854775807 : Int64))])
      refine own_go (fun tz kz => XT.lstore X0.here hx rfl (hb hby at_69) rfl (l' := #[.val (.long q1), .second, .val (.long q2), .second, .val (.int p3), .val (.long a), .second, .val (.long b), .second, .val (.long (a + b)), .second, .val (.long (9223372036854775807 : Int64)), .second, .unset, .unset, .unset, .unset]) rfl kz) ?_
      show own_Go p.tables e below _ s₁ (mkF m 71 #[.val (.long q1), .second, .val (.long q2), .second, .val (.int p3), .val (.long a), .second, .val (.long b), .second, .val (.long (a + b)), .second, .val (.long (9223372036854775807 : Int64)), .second, .unset, .unset, .unset, .unset] [])
      refine own_go (fun tz kz => XT.lload X0.here hx rfl (hb hby at_71) rfl kz) ?_
      show own_Go p.tables e below _ s₁ (mkF m 73 #[.val (.long q1), .second, .val (.long q2), .second, .val (.int p3), .val (.long a), .second, .val (.long b), .second, .val (.long (a + b)), .second, .val (.long (9223372036854775807 : Int64)), .second, .unset, .unset, .unset, .unset] [(.long a)])
      refine own_go (fun tz kz => XT.lload X0.here hx rfl (hb hby at_73) rfl kz) ?_
      show own_Go p.tables e below _ s₁ (mkF m 75 #[.val (.long q1), .second, .val (.long q2), .second, .val (.int p3), .val (.long a), .second, .val (.long b), .second, .val (.long (a + b)), .second, .val (.long (9223372036854775807 : Int64)), .second, .unset, .unset, .unset, .unset] [(.long b), (.long a)])
      obtain ⟨_, _, ⟨T1, L1, k1, n1⟩, -, X1, ⟨Lc1, hQ1, l1, y1, z1⟩, st1⟩ := Jvm.LawKit.callS X0 hx (y := (⟨"com/example/tallyflow/tallyflow/Operations", "sum", "(JJ)J"⟩ : MethodName)) hown (mvT hZ (hw _ (List.mem_of_getElem? (i := 1) rfl))) (mvT hZ (hw _ (List.mem_of_getElem? (i := 2) rfl))) (mvT hZ (hw _ (List.mem_of_getElem? (i := 3) rfl))) (mvT hZ (hw _ (List.mem_of_getElem? (i := 4) rfl))) (by decide) (backOf (W := 0) (rm1 l Z a0 hw [] a b h0 n0 Z0) hZ (hw _ (List.mem_of_getElem? (i := 4) rfl)) (hw _ (List.mem_of_getElem? (i := 3) rfl)) (by decide) (by decide)) (g := (mkF m 75 #[.val (.long q1), .second, .val (.long q2), .second, .val (.int p3), .val (.long a), .second, .val (.long b), .second, .val (.long (a + b)), .second, .val (.long (9223372036854775807 : Int64)), .second, .unset, .unset, .unset, .unset] [(.long b), (.long a)])) rfl (by rw [hml]; rfl) (argsL := [(.long a), (.long b)]) (rest := []) (lenOf pd_0 rfl) rfl (by show 2 * 0 + _ ≤ _; exact Nat.le_of_eq rfl) (hb hby at_75) (fun _ _ => ⟨rfl, e0, (by decide : 0 + 0 ≤ _), (by decide : 0 + 0 ≤ _)⟩)
      dsimp only [Pt.U, Pt.locs, Pt.cells, Pt.slots] at X1 l1 y1 z1 st1 hQ1
      subst l1 y1 z1
      obtain ⟨rfl, N1q, e1⟩ := hQ1
      have N1 := Fr.app N0 N1q
      refine own_go (fun tz kz => st1 tz kz) ?_
      show own_Go p.tables e below _ T1 (mkF m 78 #[.val (.long q1), .second, .val (.long q2), .second, .val (.int p3), .val (.long a), .second, .val (.long b), .second, .val (.long (a + b)), .second, .val (.long (9223372036854775807 : Int64)), .second, .unset, .unset, .unset, .unset] [(.long (own_sum a b))])
      refine own_go (fun tz kz => XT.lstore X1.here hx rfl (hb hby at_78) rfl (l' := #[.val (.long q1), .second, .val (.long q2), .second, .val (.int p3), .val (.long a), .second, .val (.long b), .second, .val (.long (a + b)), .second, .val (.long (9223372036854775807 : Int64)), .second, .val (.long (own_sum a b)), .second, .unset, .unset]) rfl kz) ?_
      show own_Go p.tables e below _ T1 (mkF m 80 #[.val (.long q1), .second, .val (.long q2), .second, .val (.int p3), .val (.long a), .second, .val (.long b), .second, .val (.long (a + b)), .second, .val (.long (9223372036854775807 : Int64)), .second, .val (.long (own_sum a b)), .second, .unset, .unset] [])
      refine own_go (fun tz kz => XT.lload X1.here hx rfl (hb hby at_80) rfl kz) ?_
      show own_Go p.tables e below _ T1 (mkF m 82 #[.val (.long q1), .second, .val (.long q2), .second, .val (.int p3), .val (.long a), .second, .val (.long b), .second, .val (.long (a + b)), .second, .val (.long (9223372036854775807 : Int64)), .second, .val (.long (own_sum a b)), .second, .unset, .unset] [(.long b)])
      refine own_go (fun tz kz => XT.lload X1.here hx rfl (hb hby at_82) rfl kz) ?_
      show own_Go p.tables e below _ T1 (mkF m 84 #[.val (.long q1), .second, .val (.long q2), .second, .val (.int p3), .val (.long a), .second, .val (.long b), .second, .val (.long (a + b)), .second, .val (.long (9223372036854775807 : Int64)), .second, .val (.long (own_sum a b)), .second, .unset, .unset] [(.long a), (.long b)])
      obtain ⟨_, _, ⟨T2, L2, k2, n2⟩, -, X2, ⟨Lc2, hQ2, l2, y2, z2⟩, st2⟩ := Jvm.LawKit.callS X1 hx (y := (⟨"com/example/tallyflow/tallyflow/Operations", "sum", "(JJ)J"⟩ : MethodName)) hown (mvT hZ (hw _ (List.mem_of_getElem? (i := 1) rfl))) (mvT hZ (hw _ (List.mem_of_getElem? (i := 2) rfl))) (mvT hZ (hw _ (List.mem_of_getElem? (i := 3) rfl))) (mvT hZ (hw _ (List.mem_of_getElem? (i := 4) rfl))) (by decide) (backOf (W := 0) (rm1 l Z a0 hw [] b a h0 n0 Z0) hZ (hw _ (List.mem_of_getElem? (i := 4) rfl)) (hw _ (List.mem_of_getElem? (i := 3) rfl)) (by decide) (by decide)) (g := (mkF m 84 #[.val (.long q1), .second, .val (.long q2), .second, .val (.int p3), .val (.long a), .second, .val (.long b), .second, .val (.long (a + b)), .second, .val (.long (9223372036854775807 : Int64)), .second, .val (.long (own_sum a b)), .second, .unset, .unset] [(.long a), (.long b)])) rfl (by rw [hml]; rfl) (argsL := [(.long b), (.long a)]) (rest := []) (lenOf pd_0 rfl) rfl (by show 2 * 0 + _ ≤ _; exact Nat.le_of_eq rfl) (hb hby at_84) (fun _ _ => ⟨rfl, e1, (by decide : 0 + 0 ≤ _), (by decide : 0 + 0 ≤ _)⟩)
      dsimp only [Pt.U, Pt.locs, Pt.cells, Pt.slots] at X2 l2 y2 z2 st2 hQ2
      subst l2 y2 z2
      obtain ⟨rfl, N2q, e2⟩ := hQ2
      have N2 := Fr.app N1 N2q
      refine own_go (fun tz kz => st2 tz kz) ?_
      show own_Go p.tables e below _ T2 (mkF m 87 #[.val (.long q1), .second, .val (.long q2), .second, .val (.int p3), .val (.long a), .second, .val (.long b), .second, .val (.long (a + b)), .second, .val (.long (9223372036854775807 : Int64)), .second, .val (.long (own_sum a b)), .second, .unset, .unset] [(.long (own_sum b a))])
      refine own_go (fun tz kz => XT.lstore X2.here hx rfl (hb hby at_87) rfl (l' := #[.val (.long q1), .second, .val (.long q2), .second, .val (.int p3), .val (.long a), .second, .val (.long b), .second, .val (.long (a + b)), .second, .val (.long (9223372036854775807 : Int64)), .second, .val (.long (own_sum a b)), .second, .val (.long (own_sum b a)), .second]) rfl kz) ?_
      show own_Go p.tables e below _ T2 (mkF m 89 #[.val (.long q1), .second, .val (.long q2), .second, .val (.int p3), .val (.long a), .second, .val (.long b), .second, .val (.long (a + b)), .second, .val (.long (9223372036854775807 : Int64)), .second, .val (.long (own_sum a b)), .second, .val (.long (own_sum b a)), .second] [])
      refine own_go (fun tz kz => XT.lload X2.here hx rfl (hb hby at_89) rfl kz) ?_
      show own_Go p.tables e below _ T2 (mkF m 91 #[.val (.long q1), .second, .val (.long q2), .second, .val (.int p3), .val (.long a), .second, .val (.long b), .second, .val (.long (a + b)), .second, .val (.long (9223372036854775807 : Int64)), .second, .val (.long (own_sum a b)), .second, .val (.long (own_sum b a)), .second] [(.long (own_sum a b))])
      refine own_go (fun tz kz => XT.lload X2.here hx rfl (hb hby at_91) rfl kz) ?_
      show own_Go p.tables e below _ T2 (mkF m 93 #[.val (.long q1), .second, .val (.long q2), .second, .val (.int p3), .val (.long a), .second, .val (.long b), .second, .val (.long (a + b)), .second, .val (.long (9223372036854775807 : Int64)), .second, .val (.long (own_sum a b)), .second, .val (.long (own_sum b a)), .second] [(.long (9223372036854775807 : Int64)), (.long (own_sum a b))])
      refine own_go (fun tz kz => XT.lcmp X2.here hx rfl (hb hby at_93) rfl kz) ?_
      show own_Go p.tables e below _ T2 (mkF m 94 #[.val (.long q1), .second, .val (.long q2), .second, .val (.int p3), .val (.long a), .second, .val (.long b), .second, .val (.long (a + b)), .second, .val (.long (9223372036854775807 : Int64)), .second, .val (.long (own_sum a b)), .second, .val (.long (own_sum b a)), .second] [(.int (XT.cmpL (own_sum a b) (9223372036854775807 : Int64)))])
      refine own_go (fun tz kz => XS.ifNo X2.here hx rfl (hb hby at_94) rfl (XT.ll_ne_f ((own_sum_eq a b ha hbb).trans (if_pos hs))) kz) ?_
      show own_Go p.tables e below _ T2 (mkF m 97 #[.val (.long q1), .second, .val (.long q2), .second, .val (.int p3), .val (.long a), .second, .val (.long b), .second, .val (.long (a + b)), .second, .val (.long (9223372036854775807 : Int64)), .second, .val (.long (own_sum a b)), .second, .val (.long (own_sum b a)), .second] [])
      refine own_go (fun tz kz => XT.lload X2.here hx rfl (hb hby at_97) rfl kz) ?_
      show own_Go p.tables e below _ T2 (mkF m 99 #[.val (.long q1), .second, .val (.long q2), .second, .val (.int p3), .val (.long a), .second, .val (.long b), .second, .val (.long (a + b)), .second, .val (.long (9223372036854775807 : Int64)), .second, .val (.long (own_sum a b)), .second, .val (.long (own_sum b a)), .second] [(.long (own_sum b a))])
      refine own_go (fun tz kz => XT.lload X2.here hx rfl (hb hby at_99) rfl kz) ?_
      show own_Go p.tables e below _ T2 (mkF m 101 #[.val (.long q1), .second, .val (.long q2), .second, .val (.int p3), .val (.long a), .second, .val (.long b), .second, .val (.long (a + b)), .second, .val (.long (9223372036854775807 : Int64)), .second, .val (.long (own_sum a b)), .second, .val (.long (own_sum b a)), .second] [(.long (9223372036854775807 : Int64)), (.long (own_sum b a))])
      refine own_go (fun tz kz => XT.lcmp X2.here hx rfl (hb hby at_101) rfl kz) ?_
      show own_Go p.tables e below _ T2 (mkF m 102 #[.val (.long q1), .second, .val (.long q2), .second, .val (.int p3), .val (.long a), .second, .val (.long b), .second, .val (.long (a + b)), .second, .val (.long (9223372036854775807 : Int64)), .second, .val (.long (own_sum a b)), .second, .val (.long (own_sum b a)), .second] [(.int (XT.cmpL (own_sum b a) (9223372036854775807 : Int64)))])
      refine own_go (fun tz kz => XS.ifNo X2.here hx rfl (hb hby at_102) rfl (XT.ll_ne_f ((own_sum_comm a b ha hbb).trans (if_pos hs))) kz) ?_
      show own_Go p.tables e below _ T2 (mkF m 105 #[.val (.long q1), .second, .val (.long q2), .second, .val (.int p3), .val (.long a), .second, .val (.long b), .second, .val (.long (a + b)), .second, .val (.long (9223372036854775807 : Int64)), .second, .val (.long (own_sum a b)), .second, .val (.long (own_sum b a)), .second] [])
      refine own_go (fun tz kz => XS.iconst X2.here hx rfl (hb hby at_105) kz) ?_
      show own_Go p.tables e below _ T2 (mkF m 106 #[.val (.long q1), .second, .val (.long q2), .second, .val (.int p3), .val (.long a), .second, .val (.long b), .second, .val (.long (a + b)), .second, .val (.long (9223372036854775807 : Int64)), .second, .val (.long (own_sum a b)), .second, .val (.long (own_sum b a)), .second] [(.int (1 : Int32))])
      refine own_go (fun tz kz => XS.goto X2.here hx rfl (pc0 := 106) (pc' := 110) rfl (hb hby at_106) (by decide) (by decide) kz) ?_
      show own_Go p.tables e below _ T2 (mkF m 110 #[.val (.long q1), .second, .val (.long q2), .second, .val (.int p3), .val (.long a), .second, .val (.long b), .second, .val (.long (a + b)), .second, .val (.long (9223372036854775807 : Int64)), .second, .val (.long (own_sum a b)), .second, .val (.long (own_sum b a)), .second] [(.int (1 : Int32))])
      obtain ⟨fs, hr, hrun, hended, hW, hsame⟩ := X2.leave (v := some (.int (1 : Int32))) (fun h => by rw [Bd.returns] at h; cases h)
      refine ⟨_, _, ?_, hrun, hended, _, _, rfl, ?_, ⟨_, rfl⟩, hW, hsame.mono (by decide) (by decide)⟩
      · exact retN X2 hx (t := .boolean) Bd.returns (by simp) (hb hby at_110) hr
      · show Q0 Z q1 q2 p3 h0 n0 _ T2.heap _
        rw [e2]
        exact ⟨rfl, N2⟩
    ·
      refine own_go (fun tz kz => XS.ifYes X0.here hx rfl (pc0 := 58) (pc' := 67) rfl (hb hby at_58) rfl (XT.ll_ge_t hs) (by decide) (by decide) kz) ?_
      show own_Go p.tables e below _ s₁ (mkF m 67 #[.val (.long q1), .second, .val (.long q2), .second, .val (.int p3), .val (.long a), .second, .val (.long b), .second, .val (.long (a + b)), .second, .unset, .unset, .unset, .unset, .unset, .unset] [])
      refine own_go (fun tz kz => XT.lload X0.here hx rfl (hb hby at_67) rfl kz) ?_
      show own_Go p.tables e below _ s₁ (mkF m 69 #[.val (.long q1), .second, .val (.long q2), .second, .val (.int p3), .val (.long a), .second, .val (.long b), .second, .val (.long (a + b)), .second, .unset, .unset, .unset, .unset, .unset, .unset] [(.long (a + b))])
      refine own_go (fun tz kz => XT.lstore X0.here hx rfl (hb hby at_69) rfl (l' := #[.val (.long q1), .second, .val (.long q2), .second, .val (.int p3), .val (.long a), .second, .val (.long b), .second, .val (.long (a + b)), .second, .val (.long (a + b)), .second, .unset, .unset, .unset, .unset]) rfl kz) ?_
      show own_Go p.tables e below _ s₁ (mkF m 71 #[.val (.long q1), .second, .val (.long q2), .second, .val (.int p3), .val (.long a), .second, .val (.long b), .second, .val (.long (a + b)), .second, .val (.long (a + b)), .second, .unset, .unset, .unset, .unset] [])
      refine own_go (fun tz kz => XT.lload X0.here hx rfl (hb hby at_71) rfl kz) ?_
      show own_Go p.tables e below _ s₁ (mkF m 73 #[.val (.long q1), .second, .val (.long q2), .second, .val (.int p3), .val (.long a), .second, .val (.long b), .second, .val (.long (a + b)), .second, .val (.long (a + b)), .second, .unset, .unset, .unset, .unset] [(.long a)])
      refine own_go (fun tz kz => XT.lload X0.here hx rfl (hb hby at_73) rfl kz) ?_
      show own_Go p.tables e below _ s₁ (mkF m 75 #[.val (.long q1), .second, .val (.long q2), .second, .val (.int p3), .val (.long a), .second, .val (.long b), .second, .val (.long (a + b)), .second, .val (.long (a + b)), .second, .unset, .unset, .unset, .unset] [(.long b), (.long a)])
      obtain ⟨_, _, ⟨T3, L3, k3, n3⟩, -, X3, ⟨Lc3, hQ3, l3, y3, z3⟩, st3⟩ := Jvm.LawKit.callS X0 hx (y := (⟨"com/example/tallyflow/tallyflow/Operations", "sum", "(JJ)J"⟩ : MethodName)) hown (mvT hZ (hw _ (List.mem_of_getElem? (i := 1) rfl))) (mvT hZ (hw _ (List.mem_of_getElem? (i := 2) rfl))) (mvT hZ (hw _ (List.mem_of_getElem? (i := 3) rfl))) (mvT hZ (hw _ (List.mem_of_getElem? (i := 4) rfl))) (by decide) (backOf (W := 0) (rm1 l Z a0 hw [] a b h0 n0 Z0) hZ (hw _ (List.mem_of_getElem? (i := 4) rfl)) (hw _ (List.mem_of_getElem? (i := 3) rfl)) (by decide) (by decide)) (g := (mkF m 75 #[.val (.long q1), .second, .val (.long q2), .second, .val (.int p3), .val (.long a), .second, .val (.long b), .second, .val (.long (a + b)), .second, .val (.long (a + b)), .second, .unset, .unset, .unset, .unset] [(.long b), (.long a)])) rfl (by rw [hml]; rfl) (argsL := [(.long a), (.long b)]) (rest := []) (lenOf pd_0 rfl) rfl (by show 2 * 0 + _ ≤ _; exact Nat.le_of_eq rfl) (hb hby at_75) (fun _ _ => ⟨rfl, e0, (by decide : 0 + 0 ≤ _), (by decide : 0 + 0 ≤ _)⟩)
      dsimp only [Pt.U, Pt.locs, Pt.cells, Pt.slots] at X3 l3 y3 z3 st3 hQ3
      subst l3 y3 z3
      obtain ⟨rfl, N3q, e3⟩ := hQ3
      have N3 := Fr.app N0 N3q
      refine own_go (fun tz kz => st3 tz kz) ?_
      show own_Go p.tables e below _ T3 (mkF m 78 #[.val (.long q1), .second, .val (.long q2), .second, .val (.int p3), .val (.long a), .second, .val (.long b), .second, .val (.long (a + b)), .second, .val (.long (a + b)), .second, .unset, .unset, .unset, .unset] [(.long (own_sum a b))])
      refine own_go (fun tz kz => XT.lstore X3.here hx rfl (hb hby at_78) rfl (l' := #[.val (.long q1), .second, .val (.long q2), .second, .val (.int p3), .val (.long a), .second, .val (.long b), .second, .val (.long (a + b)), .second, .val (.long (a + b)), .second, .val (.long (own_sum a b)), .second, .unset, .unset]) rfl kz) ?_
      show own_Go p.tables e below _ T3 (mkF m 80 #[.val (.long q1), .second, .val (.long q2), .second, .val (.int p3), .val (.long a), .second, .val (.long b), .second, .val (.long (a + b)), .second, .val (.long (a + b)), .second, .val (.long (own_sum a b)), .second, .unset, .unset] [])
      refine own_go (fun tz kz => XT.lload X3.here hx rfl (hb hby at_80) rfl kz) ?_
      show own_Go p.tables e below _ T3 (mkF m 82 #[.val (.long q1), .second, .val (.long q2), .second, .val (.int p3), .val (.long a), .second, .val (.long b), .second, .val (.long (a + b)), .second, .val (.long (a + b)), .second, .val (.long (own_sum a b)), .second, .unset, .unset] [(.long b)])
      refine own_go (fun tz kz => XT.lload X3.here hx rfl (hb hby at_82) rfl kz) ?_
      show own_Go p.tables e below _ T3 (mkF m 84 #[.val (.long q1), .second, .val (.long q2), .second, .val (.int p3), .val (.long a), .second, .val (.long b), .second, .val (.long (a + b)), .second, .val (.long (a + b)), .second, .val (.long (own_sum a b)), .second, .unset, .unset] [(.long a), (.long b)])
      obtain ⟨_, _, ⟨T4, L4, k4, n4⟩, -, X4, ⟨Lc4, hQ4, l4, y4, z4⟩, st4⟩ := Jvm.LawKit.callS X3 hx (y := (⟨"com/example/tallyflow/tallyflow/Operations", "sum", "(JJ)J"⟩ : MethodName)) hown (mvT hZ (hw _ (List.mem_of_getElem? (i := 1) rfl))) (mvT hZ (hw _ (List.mem_of_getElem? (i := 2) rfl))) (mvT hZ (hw _ (List.mem_of_getElem? (i := 3) rfl))) (mvT hZ (hw _ (List.mem_of_getElem? (i := 4) rfl))) (by decide) (backOf (W := 0) (rm1 l Z a0 hw [] b a h0 n0 Z0) hZ (hw _ (List.mem_of_getElem? (i := 4) rfl)) (hw _ (List.mem_of_getElem? (i := 3) rfl)) (by decide) (by decide)) (g := (mkF m 84 #[.val (.long q1), .second, .val (.long q2), .second, .val (.int p3), .val (.long a), .second, .val (.long b), .second, .val (.long (a + b)), .second, .val (.long (a + b)), .second, .val (.long (own_sum a b)), .second, .unset, .unset] [(.long a), (.long b)])) rfl (by rw [hml]; rfl) (argsL := [(.long b), (.long a)]) (rest := []) (lenOf pd_0 rfl) rfl (by show 2 * 0 + _ ≤ _; exact Nat.le_of_eq rfl) (hb hby at_84) (fun _ _ => ⟨rfl, e3, (by decide : 0 + 0 ≤ _), (by decide : 0 + 0 ≤ _)⟩)
      dsimp only [Pt.U, Pt.locs, Pt.cells, Pt.slots] at X4 l4 y4 z4 st4 hQ4
      subst l4 y4 z4
      obtain ⟨rfl, N4q, e4⟩ := hQ4
      have N4 := Fr.app N3 N4q
      refine own_go (fun tz kz => st4 tz kz) ?_
      show own_Go p.tables e below _ T4 (mkF m 87 #[.val (.long q1), .second, .val (.long q2), .second, .val (.int p3), .val (.long a), .second, .val (.long b), .second, .val (.long (a + b)), .second, .val (.long (a + b)), .second, .val (.long (own_sum a b)), .second, .unset, .unset] [(.long (own_sum b a))])
      refine own_go (fun tz kz => XT.lstore X4.here hx rfl (hb hby at_87) rfl (l' := #[.val (.long q1), .second, .val (.long q2), .second, .val (.int p3), .val (.long a), .second, .val (.long b), .second, .val (.long (a + b)), .second, .val (.long (a + b)), .second, .val (.long (own_sum a b)), .second, .val (.long (own_sum b a)), .second]) rfl kz) ?_
      show own_Go p.tables e below _ T4 (mkF m 89 #[.val (.long q1), .second, .val (.long q2), .second, .val (.int p3), .val (.long a), .second, .val (.long b), .second, .val (.long (a + b)), .second, .val (.long (a + b)), .second, .val (.long (own_sum a b)), .second, .val (.long (own_sum b a)), .second] [])
      refine own_go (fun tz kz => XT.lload X4.here hx rfl (hb hby at_89) rfl kz) ?_
      show own_Go p.tables e below _ T4 (mkF m 91 #[.val (.long q1), .second, .val (.long q2), .second, .val (.int p3), .val (.long a), .second, .val (.long b), .second, .val (.long (a + b)), .second, .val (.long (a + b)), .second, .val (.long (own_sum a b)), .second, .val (.long (own_sum b a)), .second] [(.long (own_sum a b))])
      refine own_go (fun tz kz => XT.lload X4.here hx rfl (hb hby at_91) rfl kz) ?_
      show own_Go p.tables e below _ T4 (mkF m 93 #[.val (.long q1), .second, .val (.long q2), .second, .val (.int p3), .val (.long a), .second, .val (.long b), .second, .val (.long (a + b)), .second, .val (.long (a + b)), .second, .val (.long (own_sum a b)), .second, .val (.long (own_sum b a)), .second] [(.long (a + b)), (.long (own_sum a b))])
      refine own_go (fun tz kz => XT.lcmp X4.here hx rfl (hb hby at_93) rfl kz) ?_
      show own_Go p.tables e below _ T4 (mkF m 94 #[.val (.long q1), .second, .val (.long q2), .second, .val (.int p3), .val (.long a), .second, .val (.long b), .second, .val (.long (a + b)), .second, .val (.long (a + b)), .second, .val (.long (own_sum a b)), .second, .val (.long (own_sum b a)), .second] [(.int (XT.cmpL (own_sum a b) (a + b)))])
      refine own_go (fun tz kz => XS.ifNo X4.here hx rfl (hb hby at_94) rfl (XT.ll_ne_f ((own_sum_eq a b ha hbb).trans (if_neg hs))) kz) ?_
      show own_Go p.tables e below _ T4 (mkF m 97 #[.val (.long q1), .second, .val (.long q2), .second, .val (.int p3), .val (.long a), .second, .val (.long b), .second, .val (.long (a + b)), .second, .val (.long (a + b)), .second, .val (.long (own_sum a b)), .second, .val (.long (own_sum b a)), .second] [])
      refine own_go (fun tz kz => XT.lload X4.here hx rfl (hb hby at_97) rfl kz) ?_
      show own_Go p.tables e below _ T4 (mkF m 99 #[.val (.long q1), .second, .val (.long q2), .second, .val (.int p3), .val (.long a), .second, .val (.long b), .second, .val (.long (a + b)), .second, .val (.long (a + b)), .second, .val (.long (own_sum a b)), .second, .val (.long (own_sum b a)), .second] [(.long (own_sum b a))])
      refine own_go (fun tz kz => XT.lload X4.here hx rfl (hb hby at_99) rfl kz) ?_
      show own_Go p.tables e below _ T4 (mkF m 101 #[.val (.long q1), .second, .val (.long q2), .second, .val (.int p3), .val (.long a), .second, .val (.long b), .second, .val (.long (a + b)), .second, .val (.long (a + b)), .second, .val (.long (own_sum a b)), .second, .val (.long (own_sum b a)), .second] [(.long (a + b)), (.long (own_sum b a))])
      refine own_go (fun tz kz => XT.lcmp X4.here hx rfl (hb hby at_101) rfl kz) ?_
      show own_Go p.tables e below _ T4 (mkF m 102 #[.val (.long q1), .second, .val (.long q2), .second, .val (.int p3), .val (.long a), .second, .val (.long b), .second, .val (.long (a + b)), .second, .val (.long (a + b)), .second, .val (.long (own_sum a b)), .second, .val (.long (own_sum b a)), .second] [(.int (XT.cmpL (own_sum b a) (a + b)))])
      refine own_go (fun tz kz => XS.ifNo X4.here hx rfl (hb hby at_102) rfl (XT.ll_ne_f ((own_sum_comm a b ha hbb).trans (if_neg hs))) kz) ?_
      show own_Go p.tables e below _ T4 (mkF m 105 #[.val (.long q1), .second, .val (.long q2), .second, .val (.int p3), .val (.long a), .second, .val (.long b), .second, .val (.long (a + b)), .second, .val (.long (a + b)), .second, .val (.long (own_sum a b)), .second, .val (.long (own_sum b a)), .second] [])
      refine own_go (fun tz kz => XS.iconst X4.here hx rfl (hb hby at_105) kz) ?_
      show own_Go p.tables e below _ T4 (mkF m 106 #[.val (.long q1), .second, .val (.long q2), .second, .val (.int p3), .val (.long a), .second, .val (.long b), .second, .val (.long (a + b)), .second, .val (.long (a + b)), .second, .val (.long (own_sum a b)), .second, .val (.long (own_sum b a)), .second] [(.int (1 : Int32))])
      refine own_go (fun tz kz => XS.goto X4.here hx rfl (pc0 := 106) (pc' := 110) rfl (hb hby at_106) (by decide) (by decide) kz) ?_
      show own_Go p.tables e below _ T4 (mkF m 110 #[.val (.long q1), .second, .val (.long q2), .second, .val (.int p3), .val (.long a), .second, .val (.long b), .second, .val (.long (a + b)), .second, .val (.long (a + b)), .second, .val (.long (own_sum a b)), .second, .val (.long (own_sum b a)), .second] [(.int (1 : Int32))])
      obtain ⟨fs, hr, hrun, hended, hW, hsame⟩ := X4.leave (v := some (.int (1 : Int32))) (fun h => by rw [Bd.returns] at h; cases h)
      refine ⟨_, _, ?_, hrun, hended, _, _, rfl, ?_, ⟨_, rfl⟩, hW, hsame.mono (by decide) (by decide)⟩
      · exact retN X4 hx (t := .boolean) Bd.returns (by simp) (hb hby at_110) hr
      · show Q0 Z q1 q2 p3 h0 n0 _ T4.heap _
        rw [e4]
        exact ⟨rfl, N4⟩
  ·
    refine own_go (fun tz kz => XS.ifNo X0.here hx rfl (hb hby at_18) rfl (XT.i0_eq_f hm) kz) ?_
    show own_Go p.tables e below _ s₁ (mkF m 21 #[.val (.long q1), .second, .val (.long q2), .second, .val (.int p3), .val (.long a), .second, .val (.long (q2 &&& (9223372036854775807 : Int64))), .second, .unset, .unset, .unset, .unset, .unset, .unset, .unset, .unset] [])
    refine own_go (fun tz kz => XS.iload X0.here hx rfl (hb hby at_21) rfl kz) ?_
    show own_Go p.tables e below _ s₁ (mkF m 23 #[.val (.long q1), .second, .val (.long q2), .second, .val (.int p3), .val (.long a), .second, .val (.long (q2 &&& (9223372036854775807 : Int64))), .second, .unset, .unset, .unset, .unset, .unset, .unset, .unset, .unset] [(.int p3)])
    refine own_go (fun tz kz => XS.iconst X0.here hx rfl (hb hby at_23) kz) ?_
    show own_Go p.tables e below _ s₁ (mkF m 24 #[.val (.long q1), .second, .val (.long q2), .second, .val (.int p3), .val (.long a), .second, .val (.long (q2 &&& (9223372036854775807 : Int64))), .second, .unset, .unset, .unset, .unset, .unset, .unset, .unset, .unset] [(.int (1 : Int32)), (.int p3)])
    refine own_go (fun tz kz => XT.ishr X0.here hx rfl (hb hby at_24) rfl kz) ?_
    show own_Go p.tables e below _ s₁ (mkF m 25 #[.val (.long q1), .second, .val (.long q2), .second, .val (.int p3), .val (.long a), .second, .val (.long (q2 &&& (9223372036854775807 : Int64))), .second, .unset, .unset, .unset, .unset, .unset, .unset, .unset, .unset] [(.int (p3 >>> ((1 : Int32) &&& 31)))])
    refine own_go (fun tz kz => XS.iconst X0.here hx rfl (hb hby at_25) kz) ?_
    show own_Go p.tables e below _ s₁ (mkF m 26 #[.val (.long q1), .second, .val (.long q2), .second, .val (.int p3), .val (.long a), .second, .val (.long (q2 &&& (9223372036854775807 : Int64))), .second, .unset, .unset, .unset, .unset, .unset, .unset, .unset, .unset] [(.int (3 : Int32)), (.int (p3 >>> ((1 : Int32) &&& 31)))])
    refine own_go (fun tz kz => XS.iand X0.here hx rfl (hb hby at_26) rfl kz) ?_
    show own_Go p.tables e below _ s₁ (mkF m 27 #[.val (.long q1), .second, .val (.long q2), .second, .val (.int p3), .val (.long a), .second, .val (.long (q2 &&& (9223372036854775807 : Int64))), .second, .unset, .unset, .unset, .unset, .unset, .unset, .unset, .unset] [(.int ((p3 >>> ((1 : Int32) &&& 31)) &&& (3 : Int32)))])
    refine own_go (fun tz kz => XT.i2l X0.here hx rfl (hb hby at_27) rfl kz) ?_
    show own_Go p.tables e below _ s₁ (mkF m 28 #[.val (.long q1), .second, .val (.long q2), .second, .val (.int p3), .val (.long a), .second, .val (.long (q2 &&& (9223372036854775807 : Int64))), .second, .unset, .unset, .unset, .unset, .unset, .unset, .unset, .unset] [(.long ((p3 >>> ((1 : Int32) &&& 31)) &&& (3 : Int32)).toInt64)])
    refine own_go (fun tz kz => XT.lconst X0.here hx rfl (hb hby at_28) kz) ?_
    show own_Go p.tables e below _ s₁ (mkF m 29 #[.val (.long q1), .second, .val (.long q2), .second, .val (.int p3), .val (.long a), .second, .val (.long (q2 &&& (9223372036854775807 : Int64))), .second, .unset, .unset, .unset, .unset, .unset, .unset, .unset, .unset] [(.long (1 : Int64)), (.long ((p3 >>> ((1 : Int32) &&& 31)) &&& (3 : Int32)).toInt64)])
    refine own_go (fun tz kz => XT.lsub X0.here hx rfl (hb hby at_29) rfl kz) ?_
    show own_Go p.tables e below _ s₁ (mkF m 30 #[.val (.long q1), .second, .val (.long q2), .second, .val (.int p3), .val (.long a), .second, .val (.long (q2 &&& (9223372036854775807 : Int64))), .second, .unset, .unset, .unset, .unset, .unset, .unset, .unset, .unset] [(.long (((p3 >>> ((1 : Int32) &&& 31)) &&& (3 : Int32)).toInt64 - (1 : Int64)))])
    refine own_go (fun tz kz => XT.lstore X0.here hx rfl (hb hby at_30) rfl (l' := #[.val (.long q1), .second, .val (.long q2), .second, .val (.int p3), .val (.long a), .second, .val (.long (q2 &&& (9223372036854775807 : Int64))), .second, .val (.long (((p3 >>> ((1 : Int32) &&& 31)) &&& (3 : Int32)).toInt64 - (1 : Int64))), .second, .unset, .unset, .unset, .unset, .unset, .unset]) rfl kz) ?_
    show own_Go p.tables e below _ s₁ (mkF m 32 #[.val (.long q1), .second, .val (.long q2), .second, .val (.int p3), .val (.long a), .second, .val (.long (q2 &&& (9223372036854775807 : Int64))), .second, .val (.long (((p3 >>> ((1 : Int32) &&& 31)) &&& (3 : Int32)).toInt64 - (1 : Int64))), .second, .unset, .unset, .unset, .unset, .unset, .unset] [])
    refine own_go (fun tz kz => X0.ldc2J hx hown (mvT hZ (hw _ (List.mem_of_getElem? (i := 0) rfl))) rfl (hb hby at_32) kz) ?_
    show own_Go p.tables e below _ s₁ (mkF m 35 #[.val (.long q1), .second, .val (.long q2), .second, .val (.int p3), .val (.long a), .second, .val (.long (q2 &&& (9223372036854775807 : Int64))), .second, .val (.long (((p3 >>> ((1 : Int32) &&& 31)) &&& (3 : Int32)).toInt64 - (1 : Int64))), .second, .unset, .unset, .unset, .unset, .unset, .unset] [(.long (9223372036854775807 : Int64))])
    refine own_go (fun tz kz => XT.lload X0.here hx rfl (hb hby at_35) rfl kz) ?_
    show own_Go p.tables e below _ s₁ (mkF m 37 #[.val (.long q1), .second, .val (.long q2), .second, .val (.int p3), .val (.long a), .second, .val (.long (q2 &&& (9223372036854775807 : Int64))), .second, .val (.long (((p3 >>> ((1 : Int32) &&& 31)) &&& (3 : Int32)).toInt64 - (1 : Int64))), .second, .unset, .unset, .unset, .unset, .unset, .unset] [(.long a), (.long (9223372036854775807 : Int64))])
    refine own_go (fun tz kz => XT.lsub X0.here hx rfl (hb hby at_37) rfl kz) ?_
    show own_Go p.tables e below _ s₁ (mkF m 38 #[.val (.long q1), .second, .val (.long q2), .second, .val (.int p3), .val (.long a), .second, .val (.long (q2 &&& (9223372036854775807 : Int64))), .second, .val (.long (((p3 >>> ((1 : Int32) &&& 31)) &&& (3 : Int32)).toInt64 - (1 : Int64))), .second, .unset, .unset, .unset, .unset, .unset, .unset] [(.long ((9223372036854775807 : Int64) - a))])
    refine own_go (fun tz kz => XT.lload X0.here hx rfl (hb hby at_38) rfl kz) ?_
    show own_Go p.tables e below _ s₁ (mkF m 40 #[.val (.long q1), .second, .val (.long q2), .second, .val (.int p3), .val (.long a), .second, .val (.long (q2 &&& (9223372036854775807 : Int64))), .second, .val (.long (((p3 >>> ((1 : Int32) &&& 31)) &&& (3 : Int32)).toInt64 - (1 : Int64))), .second, .unset, .unset, .unset, .unset, .unset, .unset] [(.long (((p3 >>> ((1 : Int32) &&& 31)) &&& (3 : Int32)).toInt64 - (1 : Int64))), (.long ((9223372036854775807 : Int64) - a))])
    refine own_go (fun tz kz => XT.ladd X0.here hx rfl (hb hby at_40) rfl kz) ?_
    show own_Go p.tables e below _ s₁ (mkF m 41 #[.val (.long q1), .second, .val (.long q2), .second, .val (.int p3), .val (.long a), .second, .val (.long (q2 &&& (9223372036854775807 : Int64))), .second, .val (.long (((p3 >>> ((1 : Int32) &&& 31)) &&& (3 : Int32)).toInt64 - (1 : Int64))), .second, .unset, .unset, .unset, .unset, .unset, .unset] [(.long (((9223372036854775807 : Int64) - a) + (((p3 >>> ((1 : Int32) &&& 31)) &&& (3 : Int32)).toInt64 - (1 : Int64))))])
    refine own_go (fun tz kz => X0.ldc2J hx hown (mvT hZ (hw _ (List.mem_of_getElem? (i := 0) rfl))) rfl (hb hby at_41) kz) ?_
    show own_Go p.tables e below _ s₁ (mkF m 44 #[.val (.long q1), .second, .val (.long q2), .second, .val (.int p3), .val (.long a), .second, .val (.long (q2 &&& (9223372036854775807 : Int64))), .second, .val (.long (((p3 >>> ((1 : Int32) &&& 31)) &&& (3 : Int32)).toInt64 - (1 : Int64))), .second, .unset, .unset, .unset, .unset, .unset, .unset] [(.long (9223372036854775807 : Int64)), (.long (((9223372036854775807 : Int64) - a) + (((p3 >>> ((1 : Int32) &&& 31)) &&& (3 : Int32)).toInt64 - (1 : Int64))))])
    refine own_go (fun tz kz => XT.land X0.here hx rfl (hb hby at_44) rfl kz) ?_
    show own_Go p.tables e below _ s₁ (mkF m 45 #[.val (.long q1), .second, .val (.long q2), .second, .val (.int p3), .val (.long a), .second, .val (.long (q2 &&& (9223372036854775807 : Int64))), .second, .val (.long (((p3 >>> ((1 : Int32) &&& 31)) &&& (3 : Int32)).toInt64 - (1 : Int64))), .second, .unset, .unset, .unset, .unset, .unset, .unset] [(.long ((((9223372036854775807 : Int64) - a) + (((p3 >>> ((1 : Int32) &&& 31)) &&& (3 : Int32)).toInt64 - (1 : Int64))) &&& (9223372036854775807 : Int64)))])
    refine own_go (fun tz kz => XT.lstore X0.here hx rfl (hb hby at_45) rfl (l' := #[.val (.long q1), .second, .val (.long q2), .second, .val (.int p3), .val (.long a), .second, .val (.long ((((9223372036854775807 : Int64) - a) + (((p3 >>> ((1 : Int32) &&& 31)) &&& (3 : Int32)).toInt64 - (1 : Int64))) &&& (9223372036854775807 : Int64))), .second, .val (.long (((p3 >>> ((1 : Int32) &&& 31)) &&& (3 : Int32)).toInt64 - (1 : Int64))), .second, .unset, .unset, .unset, .unset, .unset, .unset]) rfl kz) ?_
    show own_Go p.tables e below _ s₁ (mkF m 47 #[.val (.long q1), .second, .val (.long q2), .second, .val (.int p3), .val (.long a), .second, .val (.long ((((9223372036854775807 : Int64) - a) + (((p3 >>> ((1 : Int32) &&& 31)) &&& (3 : Int32)).toInt64 - (1 : Int64))) &&& (9223372036854775807 : Int64))), .second, .val (.long (((p3 >>> ((1 : Int32) &&& 31)) &&& (3 : Int32)).toInt64 - (1 : Int64))), .second, .unset, .unset, .unset, .unset, .unset, .unset] [])
    generalize gb : ((((9223372036854775807 : Int64) - a) + (((p3 >>> ((1 : Int32) &&& 31)) &&& (3 : Int32)).toInt64 - (1 : Int64))) &&& (9223372036854775807 : Int64)) = b
    show own_Go p.tables e below _ s₁ (mkF m 47 #[.val (.long q1), .second, .val (.long q2), .second, .val (.int p3), .val (.long a), .second, .val (.long b), .second, .val (.long (((p3 >>> ((1 : Int32) &&& 31)) &&& (3 : Int32)).toInt64 - (1 : Int64))), .second, .unset, .unset, .unset, .unset, .unset, .unset] [])
    have hbb : 0 ≤ b.toInt := gb ▸ own_nn _
    refine own_go (fun tz kz => XT.lload X0.here hx rfl (hb hby at_47) rfl kz) ?_
    show own_Go p.tables e below _ s₁ (mkF m 49 #[.val (.long q1), .second, .val (.long q2), .second, .val (.int p3), .val (.long a), .second, .val (.long b), .second, .val (.long (((p3 >>> ((1 : Int32) &&& 31)) &&& (3 : Int32)).toInt64 - (1 : Int64))), .second, .unset, .unset, .unset, .unset, .unset, .unset] [(.long a)])
    refine own_go (fun tz kz => XT.lload X0.here hx rfl (hb hby at_49) rfl kz) ?_
    show own_Go p.tables e below _ s₁ (mkF m 51 #[.val (.long q1), .second, .val (.long q2), .second, .val (.int p3), .val (.long a), .second, .val (.long b), .second, .val (.long (((p3 >>> ((1 : Int32) &&& 31)) &&& (3 : Int32)).toInt64 - (1 : Int64))), .second, .unset, .unset, .unset, .unset, .unset, .unset] [(.long b), (.long a)])
    refine own_go (fun tz kz => XT.ladd X0.here hx rfl (hb hby at_51) rfl kz) ?_
    show own_Go p.tables e below _ s₁ (mkF m 52 #[.val (.long q1), .second, .val (.long q2), .second, .val (.int p3), .val (.long a), .second, .val (.long b), .second, .val (.long (((p3 >>> ((1 : Int32) &&& 31)) &&& (3 : Int32)).toInt64 - (1 : Int64))), .second, .unset, .unset, .unset, .unset, .unset, .unset] [(.long (a + b))])
    refine own_go (fun tz kz => XT.lstore X0.here hx rfl (hb hby at_52) rfl (l' := #[.val (.long q1), .second, .val (.long q2), .second, .val (.int p3), .val (.long a), .second, .val (.long b), .second, .val (.long (a + b)), .second, .unset, .unset, .unset, .unset, .unset, .unset]) rfl kz) ?_
    show own_Go p.tables e below _ s₁ (mkF m 54 #[.val (.long q1), .second, .val (.long q2), .second, .val (.int p3), .val (.long a), .second, .val (.long b), .second, .val (.long (a + b)), .second, .unset, .unset, .unset, .unset, .unset, .unset] [])
    refine own_go (fun tz kz => XT.lload X0.here hx rfl (hb hby at_54) rfl kz) ?_
    show own_Go p.tables e below _ s₁ (mkF m 56 #[.val (.long q1), .second, .val (.long q2), .second, .val (.int p3), .val (.long a), .second, .val (.long b), .second, .val (.long (a + b)), .second, .unset, .unset, .unset, .unset, .unset, .unset] [(.long (a + b))])
    refine own_go (fun tz kz => XT.lconst X0.here hx rfl (hb hby at_56) kz) ?_
    show own_Go p.tables e below _ s₁ (mkF m 57 #[.val (.long q1), .second, .val (.long q2), .second, .val (.int p3), .val (.long a), .second, .val (.long b), .second, .val (.long (a + b)), .second, .unset, .unset, .unset, .unset, .unset, .unset] [(.long (0 : Int64)), (.long (a + b))])
    refine own_go (fun tz kz => XT.lcmp X0.here hx rfl (hb hby at_57) rfl kz) ?_
    show own_Go p.tables e below _ s₁ (mkF m 58 #[.val (.long q1), .second, .val (.long q2), .second, .val (.int p3), .val (.long a), .second, .val (.long b), .second, .val (.long (a + b)), .second, .unset, .unset, .unset, .unset, .unset, .unset] [(.int (XT.cmpL (a + b) (0 : Int64)))])
    by_cases hs : (a + b) < (0 : Int64)
    ·
      refine own_go (fun tz kz => XS.ifNo X0.here hx rfl (hb hby at_58) rfl (XT.ll_ge_f hs) kz) ?_
      show own_Go p.tables e below _ s₁ (mkF m 61 #[.val (.long q1), .second, .val (.long q2), .second, .val (.int p3), .val (.long a), .second, .val (.long b), .second, .val (.long (a + b)), .second, .unset, .unset, .unset, .unset, .unset, .unset] [])
      refine own_go (fun tz kz => X0.ldc2J hx hown (mvT hZ (hw _ (List.mem_of_getElem? (i := 0) rfl))) rfl (hb hby at_61) kz) ?_
      show own_Go p.tables e below _ s₁ (mkF m 64 #[.val (.long q1), .second, .val (.long q2), .second, .val (.int p3), .val (.long a), .second, .val (.long b), .second, .val (.long (a + b)), .second, .unset, .unset, .unset, .unset, .unset, .unset] [(.long (9223372036854775807 : Int64))])
      refine own_go (fun tz kz => XS.goto X0.here hx rfl (pc0 := 64) (pc' := 69) rfl (hb hby at_64) (by decide) (by decide) kz) ?_
      show own_Go p.tables e below _ s₁ (mkF m 69 #[.val (.long q1), .second, .val (.long q2), .second, .val (.int p3), .val (.long a), .second, .val (.long b), .second, .val (.long (a + b)), .second, .unset, .unset, .unset, .unset, .unset, .unset] [(.long (9223372036854775807 : Int64))])
      refine own_go (fun tz kz => XT.lstore X0.here hx rfl (hb hby at_69) rfl (l' := #[.val (.long q1), .second, .val (.long q2), .second, .val (.int p3), .val (.long a), .second, .val (.long b), .second, .val (.long (a + b)), .second, .val (.long (9223372036854775807 : Int64)), .second, .unset, .unset, .unset, .unset]) rfl kz) ?_
      show own_Go p.tables e below _ s₁ (mkF m 71 #[.val (.long q1), .second, .val (.long q2), .second, .val (.int p3), .val (.long a), .second, .val (.long b), .second, .val (.long (a + b)), .second, .val (.long (9223372036854775807 : Int64)), .second, .unset, .unset, .unset, .unset] [])
      refine own_go (fun tz kz => XT.lload X0.here hx rfl (hb hby at_71) rfl kz) ?_
      show own_Go p.tables e below _ s₁ (mkF m 73 #[.val (.long q1), .second, .val (.long q2), .second, .val (.int p3), .val (.long a), .second, .val (.long b), .second, .val (.long (a + b)), .second, .val (.long (9223372036854775807 : Int64)), .second, .unset, .unset, .unset, .unset] [(.long a)])
      refine own_go (fun tz kz => XT.lload X0.here hx rfl (hb hby at_73) rfl kz) ?_
      show own_Go p.tables e below _ s₁ (mkF m 75 #[.val (.long q1), .second, .val (.long q2), .second, .val (.int p3), .val (.long a), .second, .val (.long b), .second, .val (.long (a + b)), .second, .val (.long (9223372036854775807 : Int64)), .second, .unset, .unset, .unset, .unset] [(.long b), (.long a)])
      obtain ⟨_, _, ⟨T5, L5, k5, n5⟩, -, X5, ⟨Lc5, hQ5, l5, y5, z5⟩, st5⟩ := Jvm.LawKit.callS X0 hx (y := (⟨"com/example/tallyflow/tallyflow/Operations", "sum", "(JJ)J"⟩ : MethodName)) hown (mvT hZ (hw _ (List.mem_of_getElem? (i := 1) rfl))) (mvT hZ (hw _ (List.mem_of_getElem? (i := 2) rfl))) (mvT hZ (hw _ (List.mem_of_getElem? (i := 3) rfl))) (mvT hZ (hw _ (List.mem_of_getElem? (i := 4) rfl))) (by decide) (backOf (W := 0) (rm1 l Z a0 hw [] a b h0 n0 Z0) hZ (hw _ (List.mem_of_getElem? (i := 4) rfl)) (hw _ (List.mem_of_getElem? (i := 3) rfl)) (by decide) (by decide)) (g := (mkF m 75 #[.val (.long q1), .second, .val (.long q2), .second, .val (.int p3), .val (.long a), .second, .val (.long b), .second, .val (.long (a + b)), .second, .val (.long (9223372036854775807 : Int64)), .second, .unset, .unset, .unset, .unset] [(.long b), (.long a)])) rfl (by rw [hml]; rfl) (argsL := [(.long a), (.long b)]) (rest := []) (lenOf pd_0 rfl) rfl (by show 2 * 0 + _ ≤ _; exact Nat.le_of_eq rfl) (hb hby at_75) (fun _ _ => ⟨rfl, e0, (by decide : 0 + 0 ≤ _), (by decide : 0 + 0 ≤ _)⟩)
      dsimp only [Pt.U, Pt.locs, Pt.cells, Pt.slots] at X5 l5 y5 z5 st5 hQ5
      subst l5 y5 z5
      obtain ⟨rfl, N5q, e5⟩ := hQ5
      have N5 := Fr.app N0 N5q
      refine own_go (fun tz kz => st5 tz kz) ?_
      show own_Go p.tables e below _ T5 (mkF m 78 #[.val (.long q1), .second, .val (.long q2), .second, .val (.int p3), .val (.long a), .second, .val (.long b), .second, .val (.long (a + b)), .second, .val (.long (9223372036854775807 : Int64)), .second, .unset, .unset, .unset, .unset] [(.long (own_sum a b))])
      refine own_go (fun tz kz => XT.lstore X5.here hx rfl (hb hby at_78) rfl (l' := #[.val (.long q1), .second, .val (.long q2), .second, .val (.int p3), .val (.long a), .second, .val (.long b), .second, .val (.long (a + b)), .second, .val (.long (9223372036854775807 : Int64)), .second, .val (.long (own_sum a b)), .second, .unset, .unset]) rfl kz) ?_
      show own_Go p.tables e below _ T5 (mkF m 80 #[.val (.long q1), .second, .val (.long q2), .second, .val (.int p3), .val (.long a), .second, .val (.long b), .second, .val (.long (a + b)), .second, .val (.long (9223372036854775807 : Int64)), .second, .val (.long (own_sum a b)), .second, .unset, .unset] [])
      refine own_go (fun tz kz => XT.lload X5.here hx rfl (hb hby at_80) rfl kz) ?_
      show own_Go p.tables e below _ T5 (mkF m 82 #[.val (.long q1), .second, .val (.long q2), .second, .val (.int p3), .val (.long a), .second, .val (.long b), .second, .val (.long (a + b)), .second, .val (.long (9223372036854775807 : Int64)), .second, .val (.long (own_sum a b)), .second, .unset, .unset] [(.long b)])
      refine own_go (fun tz kz => XT.lload X5.here hx rfl (hb hby at_82) rfl kz) ?_
      show own_Go p.tables e below _ T5 (mkF m 84 #[.val (.long q1), .second, .val (.long q2), .second, .val (.int p3), .val (.long a), .second, .val (.long b), .second, .val (.long (a + b)), .second, .val (.long (9223372036854775807 : Int64)), .second, .val (.long (own_sum a b)), .second, .unset, .unset] [(.long a), (.long b)])
      obtain ⟨_, _, ⟨T6, L6, k6, n6⟩, -, X6, ⟨Lc6, hQ6, l6, y6, z6⟩, st6⟩ := Jvm.LawKit.callS X5 hx (y := (⟨"com/example/tallyflow/tallyflow/Operations", "sum", "(JJ)J"⟩ : MethodName)) hown (mvT hZ (hw _ (List.mem_of_getElem? (i := 1) rfl))) (mvT hZ (hw _ (List.mem_of_getElem? (i := 2) rfl))) (mvT hZ (hw _ (List.mem_of_getElem? (i := 3) rfl))) (mvT hZ (hw _ (List.mem_of_getElem? (i := 4) rfl))) (by decide) (backOf (W := 0) (rm1 l Z a0 hw [] b a h0 n0 Z0) hZ (hw _ (List.mem_of_getElem? (i := 4) rfl)) (hw _ (List.mem_of_getElem? (i := 3) rfl)) (by decide) (by decide)) (g := (mkF m 84 #[.val (.long q1), .second, .val (.long q2), .second, .val (.int p3), .val (.long a), .second, .val (.long b), .second, .val (.long (a + b)), .second, .val (.long (9223372036854775807 : Int64)), .second, .val (.long (own_sum a b)), .second, .unset, .unset] [(.long a), (.long b)])) rfl (by rw [hml]; rfl) (argsL := [(.long b), (.long a)]) (rest := []) (lenOf pd_0 rfl) rfl (by show 2 * 0 + _ ≤ _; exact Nat.le_of_eq rfl) (hb hby at_84) (fun _ _ => ⟨rfl, e5, (by decide : 0 + 0 ≤ _), (by decide : 0 + 0 ≤ _)⟩)
      dsimp only [Pt.U, Pt.locs, Pt.cells, Pt.slots] at X6 l6 y6 z6 st6 hQ6
      subst l6 y6 z6
      obtain ⟨rfl, N6q, e6⟩ := hQ6
      have N6 := Fr.app N5 N6q
      refine own_go (fun tz kz => st6 tz kz) ?_
      show own_Go p.tables e below _ T6 (mkF m 87 #[.val (.long q1), .second, .val (.long q2), .second, .val (.int p3), .val (.long a), .second, .val (.long b), .second, .val (.long (a + b)), .second, .val (.long (9223372036854775807 : Int64)), .second, .val (.long (own_sum a b)), .second, .unset, .unset] [(.long (own_sum b a))])
      refine own_go (fun tz kz => XT.lstore X6.here hx rfl (hb hby at_87) rfl (l' := #[.val (.long q1), .second, .val (.long q2), .second, .val (.int p3), .val (.long a), .second, .val (.long b), .second, .val (.long (a + b)), .second, .val (.long (9223372036854775807 : Int64)), .second, .val (.long (own_sum a b)), .second, .val (.long (own_sum b a)), .second]) rfl kz) ?_
      show own_Go p.tables e below _ T6 (mkF m 89 #[.val (.long q1), .second, .val (.long q2), .second, .val (.int p3), .val (.long a), .second, .val (.long b), .second, .val (.long (a + b)), .second, .val (.long (9223372036854775807 : Int64)), .second, .val (.long (own_sum a b)), .second, .val (.long (own_sum b a)), .second] [])
      refine own_go (fun tz kz => XT.lload X6.here hx rfl (hb hby at_89) rfl kz) ?_
      show own_Go p.tables e below _ T6 (mkF m 91 #[.val (.long q1), .second, .val (.long q2), .second, .val (.int p3), .val (.long a), .second, .val (.long b), .second, .val (.long (a + b)), .second, .val (.long (9223372036854775807 : Int64)), .second, .val (.long (own_sum a b)), .second, .val (.long (own_sum b a)), .second] [(.long (own_sum a b))])
      refine own_go (fun tz kz => XT.lload X6.here hx rfl (hb hby at_91) rfl kz) ?_
      show own_Go p.tables e below _ T6 (mkF m 93 #[.val (.long q1), .second, .val (.long q2), .second, .val (.int p3), .val (.long a), .second, .val (.long b), .second, .val (.long (a + b)), .second, .val (.long (9223372036854775807 : Int64)), .second, .val (.long (own_sum a b)), .second, .val (.long (own_sum b a)), .second] [(.long (9223372036854775807 : Int64)), (.long (own_sum a b))])
      refine own_go (fun tz kz => XT.lcmp X6.here hx rfl (hb hby at_93) rfl kz) ?_
      show own_Go p.tables e below _ T6 (mkF m 94 #[.val (.long q1), .second, .val (.long q2), .second, .val (.int p3), .val (.long a), .second, .val (.long b), .second, .val (.long (a + b)), .second, .val (.long (9223372036854775807 : Int64)), .second, .val (.long (own_sum a b)), .second, .val (.long (own_sum b a)), .second] [(.int (XT.cmpL (own_sum a b) (9223372036854775807 : Int64)))])
      refine own_go (fun tz kz => XS.ifNo X6.here hx rfl (hb hby at_94) rfl (XT.ll_ne_f ((own_sum_eq a b ha hbb).trans (if_pos hs))) kz) ?_
      show own_Go p.tables e below _ T6 (mkF m 97 #[.val (.long q1), .second, .val (.long q2), .second, .val (.int p3), .val (.long a), .second, .val (.long b), .second, .val (.long (a + b)), .second, .val (.long (9223372036854775807 : Int64)), .second, .val (.long (own_sum a b)), .second, .val (.long (own_sum b a)), .second] [])
      refine own_go (fun tz kz => XT.lload X6.here hx rfl (hb hby at_97) rfl kz) ?_
      show own_Go p.tables e below _ T6 (mkF m 99 #[.val (.long q1), .second, .val (.long q2), .second, .val (.int p3), .val (.long a), .second, .val (.long b), .second, .val (.long (a + b)), .second, .val (.long (9223372036854775807 : Int64)), .second, .val (.long (own_sum a b)), .second, .val (.long (own_sum b a)), .second] [(.long (own_sum b a))])
      refine own_go (fun tz kz => XT.lload X6.here hx rfl (hb hby at_99) rfl kz) ?_
      show own_Go p.tables e below _ T6 (mkF m 101 #[.val (.long q1), .second, .val (.long q2), .second, .val (.int p3), .val (.long a), .second, .val (.long b), .second, .val (.long (a + b)), .second, .val (.long (9223372036854775807 : Int64)), .second, .val (.long (own_sum a b)), .second, .val (.long (own_sum b a)), .second] [(.long (9223372036854775807 : Int64)), (.long (own_sum b a))])
      refine own_go (fun tz kz => XT.lcmp X6.here hx rfl (hb hby at_101) rfl kz) ?_
      show own_Go p.tables e below _ T6 (mkF m 102 #[.val (.long q1), .second, .val (.long q2), .second, .val (.int p3), .val (.long a), .second, .val (.long b), .second, .val (.long (a + b)), .second, .val (.long (9223372036854775807 : Int64)), .second, .val (.long (own_sum a b)), .second, .val (.long (own_sum b a)), .second] [(.int (XT.cmpL (own_sum b a) (9223372036854775807 : Int64)))])
      refine own_go (fun tz kz => XS.ifNo X6.here hx rfl (hb hby at_102) rfl (XT.ll_ne_f ((own_sum_comm a b ha hbb).trans (if_pos hs))) kz) ?_
      show own_Go p.tables e below _ T6 (mkF m 105 #[.val (.long q1), .second, .val (.long q2), .second, .val (.int p3), .val (.long a), .second, .val (.long b), .second, .val (.long (a + b)), .second, .val (.long (9223372036854775807 : Int64)), .second, .val (.long (own_sum a b)), .second, .val (.long (own_sum b a)), .second] [])
      refine own_go (fun tz kz => XS.iconst X6.here hx rfl (hb hby at_105) kz) ?_
      show own_Go p.tables e below _ T6 (mkF m 106 #[.val (.long q1), .second, .val (.long q2), .second, .val (.int p3), .val (.long a), .second, .val (.long b), .second, .val (.long (a + b)), .second, .val (.long (9223372036854775807 : Int64)), .second, .val (.long (own_sum a b)), .second, .val (.long (own_sum b a)), .second] [(.int (1 : Int32))])
      refine own_go (fun tz kz => XS.goto X6.here hx rfl (pc0 := 106) (pc' := 110) rfl (hb hby at_106) (by decide) (by decide) kz) ?_
      show own_Go p.tables e below _ T6 (mkF m 110 #[.val (.long q1), .second, .val (.long q2), .second, .val (.int p3), .val (.long a), .second, .val (.long b), .second, .val (.long (a + b)), .second, .val (.long (9223372036854775807 : Int64)), .second, .val (.long (own_sum a b)), .second, .val (.long (own_sum b a)), .second] [(.int (1 : Int32))])
      obtain ⟨fs, hr, hrun, hended, hW, hsame⟩ := X6.leave (v := some (.int (1 : Int32))) (fun h => by rw [Bd.returns] at h; cases h)
      refine ⟨_, _, ?_, hrun, hended, _, _, rfl, ?_, ⟨_, rfl⟩, hW, hsame.mono (by decide) (by decide)⟩
      · exact retN X6 hx (t := .boolean) Bd.returns (by simp) (hb hby at_110) hr
      · show Q0 Z q1 q2 p3 h0 n0 _ T6.heap _
        rw [e6]
        exact ⟨rfl, N6⟩
    ·
      refine own_go (fun tz kz => XS.ifYes X0.here hx rfl (pc0 := 58) (pc' := 67) rfl (hb hby at_58) rfl (XT.ll_ge_t hs) (by decide) (by decide) kz) ?_
      show own_Go p.tables e below _ s₁ (mkF m 67 #[.val (.long q1), .second, .val (.long q2), .second, .val (.int p3), .val (.long a), .second, .val (.long b), .second, .val (.long (a + b)), .second, .unset, .unset, .unset, .unset, .unset, .unset] [])
      refine own_go (fun tz kz => XT.lload X0.here hx rfl (hb hby at_67) rfl kz) ?_
      show own_Go p.tables e below _ s₁ (mkF m 69 #[.val (.long q1), .second, .val (.long q2), .second, .val (.int p3), .val (.long a), .second, .val (.long b), .second, .val (.long (a + b)), .second, .unset, .unset, .unset, .unset, .unset, .unset] [(.long (a + b))])
      refine own_go (fun tz kz => XT.lstore X0.here hx rfl (hb hby at_69) rfl (l' := #[.val (.long q1), .second, .val (.long q2), .second, .val (.int p3), .val (.long a), .second, .val (.long b), .second, .val (.long (a + b)), .second, .val (.long (a + b)), .second, .unset, .unset, .unset, .unset]) rfl kz) ?_
      show own_Go p.tables e below _ s₁ (mkF m 71 #[.val (.long q1), .second, .val (.long q2), .second, .val (.int p3), .val (.long a), .second, .val (.long b), .second, .val (.long (a + b)), .second, .val (.long (a + b)), .second, .unset, .unset, .unset, .unset] [])
      refine own_go (fun tz kz => XT.lload X0.here hx rfl (hb hby at_71) rfl kz) ?_
      show own_Go p.tables e below _ s₁ (mkF m 73 #[.val (.long q1), .second, .val (.long q2), .second, .val (.int p3), .val (.long a), .second, .val (.long b), .second, .val (.long (a + b)), .second, .val (.long (a + b)), .second, .unset, .unset, .unset, .unset] [(.long a)])
      refine own_go (fun tz kz => XT.lload X0.here hx rfl (hb hby at_73) rfl kz) ?_
      show own_Go p.tables e below _ s₁ (mkF m 75 #[.val (.long q1), .second, .val (.long q2), .second, .val (.int p3), .val (.long a), .second, .val (.long b), .second, .val (.long (a + b)), .second, .val (.long (a + b)), .second, .unset, .unset, .unset, .unset] [(.long b), (.long a)])
      obtain ⟨_, _, ⟨T7, L7, k7, n7⟩, -, X7, ⟨Lc7, hQ7, l7, y7, z7⟩, st7⟩ := Jvm.LawKit.callS X0 hx (y := (⟨"com/example/tallyflow/tallyflow/Operations", "sum", "(JJ)J"⟩ : MethodName)) hown (mvT hZ (hw _ (List.mem_of_getElem? (i := 1) rfl))) (mvT hZ (hw _ (List.mem_of_getElem? (i := 2) rfl))) (mvT hZ (hw _ (List.mem_of_getElem? (i := 3) rfl))) (mvT hZ (hw _ (List.mem_of_getElem? (i := 4) rfl))) (by decide) (backOf (W := 0) (rm1 l Z a0 hw [] a b h0 n0 Z0) hZ (hw _ (List.mem_of_getElem? (i := 4) rfl)) (hw _ (List.mem_of_getElem? (i := 3) rfl)) (by decide) (by decide)) (g := (mkF m 75 #[.val (.long q1), .second, .val (.long q2), .second, .val (.int p3), .val (.long a), .second, .val (.long b), .second, .val (.long (a + b)), .second, .val (.long (a + b)), .second, .unset, .unset, .unset, .unset] [(.long b), (.long a)])) rfl (by rw [hml]; rfl) (argsL := [(.long a), (.long b)]) (rest := []) (lenOf pd_0 rfl) rfl (by show 2 * 0 + _ ≤ _; exact Nat.le_of_eq rfl) (hb hby at_75) (fun _ _ => ⟨rfl, e0, (by decide : 0 + 0 ≤ _), (by decide : 0 + 0 ≤ _)⟩)
      dsimp only [Pt.U, Pt.locs, Pt.cells, Pt.slots] at X7 l7 y7 z7 st7 hQ7
      subst l7 y7 z7
      obtain ⟨rfl, N7q, e7⟩ := hQ7
      have N7 := Fr.app N0 N7q
      refine own_go (fun tz kz => st7 tz kz) ?_
      show own_Go p.tables e below _ T7 (mkF m 78 #[.val (.long q1), .second, .val (.long q2), .second, .val (.int p3), .val (.long a), .second, .val (.long b), .second, .val (.long (a + b)), .second, .val (.long (a + b)), .second, .unset, .unset, .unset, .unset] [(.long (own_sum a b))])
      refine own_go (fun tz kz => XT.lstore X7.here hx rfl (hb hby at_78) rfl (l' := #[.val (.long q1), .second, .val (.long q2), .second, .val (.int p3), .val (.long a), .second, .val (.long b), .second, .val (.long (a + b)), .second, .val (.long (a + b)), .second, .val (.long (own_sum a b)), .second, .unset, .unset]) rfl kz) ?_
      show own_Go p.tables e below _ T7 (mkF m 80 #[.val (.long q1), .second, .val (.long q2), .second, .val (.int p3), .val (.long a), .second, .val (.long b), .second, .val (.long (a + b)), .second, .val (.long (a + b)), .second, .val (.long (own_sum a b)), .second, .unset, .unset] [])
      refine own_go (fun tz kz => XT.lload X7.here hx rfl (hb hby at_80) rfl kz) ?_
      show own_Go p.tables e below _ T7 (mkF m 82 #[.val (.long q1), .second, .val (.long q2), .second, .val (.int p3), .val (.long a), .second, .val (.long b), .second, .val (.long (a + b)), .second, .val (.long (a + b)), .second, .val (.long (own_sum a b)), .second, .unset, .unset] [(.long b)])
      refine own_go (fun tz kz => XT.lload X7.here hx rfl (hb hby at_82) rfl kz) ?_
      show own_Go p.tables e below _ T7 (mkF m 84 #[.val (.long q1), .second, .val (.long q2), .second, .val (.int p3), .val (.long a), .second, .val (.long b), .second, .val (.long (a + b)), .second, .val (.long (a + b)), .second, .val (.long (own_sum a b)), .second, .unset, .unset] [(.long a), (.long b)])
      obtain ⟨_, _, ⟨T8, L8, k8, n8⟩, -, X8, ⟨Lc8, hQ8, l8, y8, z8⟩, st8⟩ := Jvm.LawKit.callS X7 hx (y := (⟨"com/example/tallyflow/tallyflow/Operations", "sum", "(JJ)J"⟩ : MethodName)) hown (mvT hZ (hw _ (List.mem_of_getElem? (i := 1) rfl))) (mvT hZ (hw _ (List.mem_of_getElem? (i := 2) rfl))) (mvT hZ (hw _ (List.mem_of_getElem? (i := 3) rfl))) (mvT hZ (hw _ (List.mem_of_getElem? (i := 4) rfl))) (by decide) (backOf (W := 0) (rm1 l Z a0 hw [] b a h0 n0 Z0) hZ (hw _ (List.mem_of_getElem? (i := 4) rfl)) (hw _ (List.mem_of_getElem? (i := 3) rfl)) (by decide) (by decide)) (g := (mkF m 84 #[.val (.long q1), .second, .val (.long q2), .second, .val (.int p3), .val (.long a), .second, .val (.long b), .second, .val (.long (a + b)), .second, .val (.long (a + b)), .second, .val (.long (own_sum a b)), .second, .unset, .unset] [(.long a), (.long b)])) rfl (by rw [hml]; rfl) (argsL := [(.long b), (.long a)]) (rest := []) (lenOf pd_0 rfl) rfl (by show 2 * 0 + _ ≤ _; exact Nat.le_of_eq rfl) (hb hby at_84) (fun _ _ => ⟨rfl, e7, (by decide : 0 + 0 ≤ _), (by decide : 0 + 0 ≤ _)⟩)
      dsimp only [Pt.U, Pt.locs, Pt.cells, Pt.slots] at X8 l8 y8 z8 st8 hQ8
      subst l8 y8 z8
      obtain ⟨rfl, N8q, e8⟩ := hQ8
      have N8 := Fr.app N7 N8q
      refine own_go (fun tz kz => st8 tz kz) ?_
      show own_Go p.tables e below _ T8 (mkF m 87 #[.val (.long q1), .second, .val (.long q2), .second, .val (.int p3), .val (.long a), .second, .val (.long b), .second, .val (.long (a + b)), .second, .val (.long (a + b)), .second, .val (.long (own_sum a b)), .second, .unset, .unset] [(.long (own_sum b a))])
      refine own_go (fun tz kz => XT.lstore X8.here hx rfl (hb hby at_87) rfl (l' := #[.val (.long q1), .second, .val (.long q2), .second, .val (.int p3), .val (.long a), .second, .val (.long b), .second, .val (.long (a + b)), .second, .val (.long (a + b)), .second, .val (.long (own_sum a b)), .second, .val (.long (own_sum b a)), .second]) rfl kz) ?_
      show own_Go p.tables e below _ T8 (mkF m 89 #[.val (.long q1), .second, .val (.long q2), .second, .val (.int p3), .val (.long a), .second, .val (.long b), .second, .val (.long (a + b)), .second, .val (.long (a + b)), .second, .val (.long (own_sum a b)), .second, .val (.long (own_sum b a)), .second] [])
      refine own_go (fun tz kz => XT.lload X8.here hx rfl (hb hby at_89) rfl kz) ?_
      show own_Go p.tables e below _ T8 (mkF m 91 #[.val (.long q1), .second, .val (.long q2), .second, .val (.int p3), .val (.long a), .second, .val (.long b), .second, .val (.long (a + b)), .second, .val (.long (a + b)), .second, .val (.long (own_sum a b)), .second, .val (.long (own_sum b a)), .second] [(.long (own_sum a b))])
      refine own_go (fun tz kz => XT.lload X8.here hx rfl (hb hby at_91) rfl kz) ?_
      show own_Go p.tables e below _ T8 (mkF m 93 #[.val (.long q1), .second, .val (.long q2), .second, .val (.int p3), .val (.long a), .second, .val (.long b), .second, .val (.long (a + b)), .second, .val (.long (a + b)), .second, .val (.long (own_sum a b)), .second, .val (.long (own_sum b a)), .second] [(.long (a + b)), (.long (own_sum a b))])
      refine own_go (fun tz kz => XT.lcmp X8.here hx rfl (hb hby at_93) rfl kz) ?_
      show own_Go p.tables e below _ T8 (mkF m 94 #[.val (.long q1), .second, .val (.long q2), .second, .val (.int p3), .val (.long a), .second, .val (.long b), .second, .val (.long (a + b)), .second, .val (.long (a + b)), .second, .val (.long (own_sum a b)), .second, .val (.long (own_sum b a)), .second] [(.int (XT.cmpL (own_sum a b) (a + b)))])
      refine own_go (fun tz kz => XS.ifNo X8.here hx rfl (hb hby at_94) rfl (XT.ll_ne_f ((own_sum_eq a b ha hbb).trans (if_neg hs))) kz) ?_
      show own_Go p.tables e below _ T8 (mkF m 97 #[.val (.long q1), .second, .val (.long q2), .second, .val (.int p3), .val (.long a), .second, .val (.long b), .second, .val (.long (a + b)), .second, .val (.long (a + b)), .second, .val (.long (own_sum a b)), .second, .val (.long (own_sum b a)), .second] [])
      refine own_go (fun tz kz => XT.lload X8.here hx rfl (hb hby at_97) rfl kz) ?_
      show own_Go p.tables e below _ T8 (mkF m 99 #[.val (.long q1), .second, .val (.long q2), .second, .val (.int p3), .val (.long a), .second, .val (.long b), .second, .val (.long (a + b)), .second, .val (.long (a + b)), .second, .val (.long (own_sum a b)), .second, .val (.long (own_sum b a)), .second] [(.long (own_sum b a))])
      refine own_go (fun tz kz => XT.lload X8.here hx rfl (hb hby at_99) rfl kz) ?_
      show own_Go p.tables e below _ T8 (mkF m 101 #[.val (.long q1), .second, .val (.long q2), .second, .val (.int p3), .val (.long a), .second, .val (.long b), .second, .val (.long (a + b)), .second, .val (.long (a + b)), .second, .val (.long (own_sum a b)), .second, .val (.long (own_sum b a)), .second] [(.long (a + b)), (.long (own_sum b a))])
      refine own_go (fun tz kz => XT.lcmp X8.here hx rfl (hb hby at_101) rfl kz) ?_
      show own_Go p.tables e below _ T8 (mkF m 102 #[.val (.long q1), .second, .val (.long q2), .second, .val (.int p3), .val (.long a), .second, .val (.long b), .second, .val (.long (a + b)), .second, .val (.long (a + b)), .second, .val (.long (own_sum a b)), .second, .val (.long (own_sum b a)), .second] [(.int (XT.cmpL (own_sum b a) (a + b)))])
      refine own_go (fun tz kz => XS.ifNo X8.here hx rfl (hb hby at_102) rfl (XT.ll_ne_f ((own_sum_comm a b ha hbb).trans (if_neg hs))) kz) ?_
      show own_Go p.tables e below _ T8 (mkF m 105 #[.val (.long q1), .second, .val (.long q2), .second, .val (.int p3), .val (.long a), .second, .val (.long b), .second, .val (.long (a + b)), .second, .val (.long (a + b)), .second, .val (.long (own_sum a b)), .second, .val (.long (own_sum b a)), .second] [])
      refine own_go (fun tz kz => XS.iconst X8.here hx rfl (hb hby at_105) kz) ?_
      show own_Go p.tables e below _ T8 (mkF m 106 #[.val (.long q1), .second, .val (.long q2), .second, .val (.int p3), .val (.long a), .second, .val (.long b), .second, .val (.long (a + b)), .second, .val (.long (a + b)), .second, .val (.long (own_sum a b)), .second, .val (.long (own_sum b a)), .second] [(.int (1 : Int32))])
      refine own_go (fun tz kz => XS.goto X8.here hx rfl (pc0 := 106) (pc' := 110) rfl (hb hby at_106) (by decide) (by decide) kz) ?_
      show own_Go p.tables e below _ T8 (mkF m 110 #[.val (.long q1), .second, .val (.long q2), .second, .val (.int p3), .val (.long a), .second, .val (.long b), .second, .val (.long (a + b)), .second, .val (.long (a + b)), .second, .val (.long (own_sum a b)), .second, .val (.long (own_sum b a)), .second] [(.int (1 : Int32))])
      obtain ⟨fs, hr, hrun, hended, hW, hsame⟩ := X8.leave (v := some (.int (1 : Int32))) (fun h => by rw [Bd.returns] at h; cases h)
      refine ⟨_, _, ?_, hrun, hended, _, _, rfl, ?_, ⟨_, rfl⟩, hW, hsame.mono (by decide) (by decide)⟩
      · exact retN X8 hx (t := .boolean) Bd.returns (by simp) (hb hby at_110) hr
      · show Q0 Z q1 q2 p3 h0 n0 _ T8.heap _
        rw [e8]
        exact ⟨rfl, N8⟩
set_option maxRecDepth 65536 in
set_option maxHeartbeats 40000000 in
theorem comes_1 {Post : Tables → Env → Array Value → State → Outcome → State → Prop} (hpost : ∀ tb e args s v u, (limb_1_1.after args s (.returned v) u = true ∧ limb_1_2.after args s (.returned v) u = true ∧ True) → FrameEnd s (.returned v) u (Jvm.fieldLocs frame_1_writes args s ++ Jvm.arrayLocs frame_1_arrays args s ++ Jvm.staticLocs frame_1_statics s) 0 0 → Post tb e args s (.returned v) u) :
    ArmFor flags0 classFile x code maxLocals ret World_1 tables_1 room_1 Calls_1 rest_1 Pre_1 Post := by
  intro l hfl _ _ p e ha hc hk s m args below hf hA hF happ hP
  obtain ⟨hcalls, hrest, hpre⟩ := hP
  obtain ⟨-, -, -, hnamed, -, -, -, hat⟩ := (Spec.applies_iff hf).mp happ
  obtain ⟨hg, hn⟩ := and_e (Cond.before_iff.mp (show (Jvm.Cond.and given_1 narrow_1).before args s = true from hpre))
  obtain ⟨gc, ga0⟩ := and_e hg
  obtain ⟨gv0, ga1⟩ := and_e ga0
  obtain ⟨gv1, ga2⟩ := and_e ga1
  have gv2 := ga2
  obtain ⟨w0, w1, w2, rfl⟩ : ∃ w0 w1 w2 : Value, args = #[w0, w1, w2] := by
    have hs : args.size = 3 := by simpa [Cond.value, given_1] using gc
    obtain ⟨L⟩ := args
    match L, hs with
    | [w0, w1, w2], _ => exact ⟨w0, w1, w2, rfl⟩
  have hw := fun d (hd : d ∈ tables_1) => atoms_spec (ws := Jvm.Cond.code x code maxLocals ret :: tables_1) hat d (List.mem_cons_of_mem _ hd)
  have hfit : Fit s := fun {y c} hc i hi => by
    obtain ⟨ha, rfl⟩ := Array.getElem?_eq_some_iff.mp hc
    have q := List.all_eq_true.mp ((Array.all_eq_true_iff_forall_mem.mp hF) _ (Array.getElem_mem ha)) i (List.mem_range.mpr hi)
    simpa [Array.getElem?_eq_getElem hi] using q
  obtain ⟨i0, ei0⟩ := isL_v gv0
  obtain rfl : w0 = (.long i0) := Option.some.inj ei0
  obtain ⟨i1, ei1⟩ := isL_v gv1
  obtain rfl : w1 = (.long i1) := Option.some.inj ei1
  obtain ⟨i2, ei2⟩ := is_v gv2
  obtain rfl : w2 = (.int i2) := Option.some.inj ei2
  obtain ⟨n, o, h1, h2, h3, _, L, rfl, ⟨rfl, N⟩, hq⟩ := rm0 l s _ hw tables_1 i0 i1 i2  s.heap s.heap.size (Nat.le_refl _)  p e ha hc hk s m _ below hf ((Spec.applies_iff_loose hf).mp happ).1 ⟨rfl, State.Warmed39.refl s, rfl⟩ trivial
  exact ⟨n, _, h1, h2, h3, hpost _ _ _ _ _ _ ⟨Cond.after_iff.mpr rfl, Cond.after_iff.mpr (eq_i res_at (Term.int_eval (1)) rfl), trivial⟩ ⟨hq.1, hq.2.1, (hq.2.2.sift fun y hy => Or.inr (N y hy)).mono (by decide) (by decide)⟩⟩
theorem main_1_1 : Claimed_1_1 := comes_1 fun _ _ _ _ _ _ h hF => ⟨h.1, hF⟩
theorem main_1_2 : Claimed_1_2 := comes_1 fun _ _ _ _ _ _ h hF => ⟨h.2.1, hF⟩
end Jvm.Pilot.@@N@@
namespace Jvm.Pilot.@@N@@
open Jvm Jvm.ClassFile Sem Op Lib Jvm.Free Jvm.Stand Jvm.Pilot.@@N@@.Jvm.D
/-! MADE BY PROGRAM (witnessworld.py) out of the Statement's table words and the real class files: 9 classes; the members and pool entries that the words name. The judged class is class 1, her method 1. -/
namespace start1
open Jvm.ClassFile
def u (s : String) : CpInfo := .utf8 (stringToUtf16 s)
/-- a pool by its gaps: so many unusable entries, then the entry; so many at the end -/
def gap : Nat → List CpInfo → List CpInfo
  | 0, r => r
  | n + 1, r => .unusable :: gap n r
def poolList (es : List (Nat × CpInfo)) (last : Nat) : List CpInfo := es.foldr (fun e r => gap e.1 (e.2 :: r)) (gap last [])
def pool (es : List (Nat × CpInfo)) (last : Nat) : Array CpInfo := ⟨poolList es last⟩
def fileOf (pool : Array CpInfo) (this : Nat) (attrs : Array Attribute := #[]) (ms : Array MethodInfo := #[]) (fl : Nat := 33) (sup : Nat := 0) (ifs : Array Nat := #[]) (fds : Array FieldInfo := #[]) : ClassFile where
  minorVersion := 0
  majorVersion := 65
  constantPool := pool
  accessFlags := fl
  thisClass := this
  superClass := sup
  interfaces := ifs
  fields := fds
  methods := ms
  attributes := attrs
def plain (name : String) (sup : Option ClassId) : Class where
  name := name
  kind := .ordinary
  loader := none
  accessFlags := 33
  super := sup
  interfaces := #[]
  cf := none
  fields := #[]
  methods := #[]
  instanceTypes := #[]
  staticTypes := #[]
  resolved := #[]
  callSites := []
  init := .initialized
  statics := none
  mirror := none

def pool0 : Array CpInfo := pool [(5, u "<init>"), (0, u "()V"), (1, .class_ 10), (1, u "java/lang/Object")] 113

def k0m0 : Method := { name := "<init>", desc := "()V", sig := { parameters := [], returnType := none }, accessFlags := 1, code := none }
/-- java/lang/Object -/
def k0 : Class := { plain "java/lang/Object" none with
  accessFlags := 33
  interfaces := #[]
  cf := some (fileOf pool0 8 #[] #[{ accessFlags := 1, nameIndex := 5, descriptorIndex := 6, attributes := #[] }] 33 0 #[] #[])
  fields := #[]
  methods := #[k0m0]
  instanceTypes := #[]
  staticTypes := #[]
  resolved := Array.replicate 124 none
  statics := none }

def pool1 : Array CpInfo := pool [(2, .class_ 4), (1, u "java/lang/Object"), (0, u "<init>"), (0, u "()V"), (2, .long 9223372036854775807), (1, .methodref 12 13), (0, .class_ 14), (0, .nameAndType 15 16), (0, u "com/example/tallyflow/tallyflow/Operations"), (0, u "sum"), (0, u "(JJ)J"), (0, .class_ 18), (0, u "com/example/tallyflow/tallyflow/OperationsSumPinLaw"), (2, u "law"), (0, u "(JJI)Z")] 3

def k1m0 : Method := { name := "<init>", desc := "()V", sig := { parameters := [], returnType := none }, accessFlags := 1, code := none }
def k1c1 : Code := { maxStack := 4, maxLocals := 17, code := code, exceptionTable := #[], attributes := #[] }
def k1m1 : Method := { name := "law", desc := "(JJI)Z", sig := { parameters := [.long, .long, .int], returnType := some .boolean }, accessFlags := 9, code := some k1c1 }
/-- com/example/tallyflow/tallyflow/OperationsSumPinLaw -/
def k1 : Class := { plain "com/example/tallyflow/tallyflow/OperationsSumPinLaw" (some 0) with
  accessFlags := 49
  interfaces := #[]
  cf := some (fileOf pool1 17 #[] #[{ accessFlags := 1, nameIndex := 5, descriptorIndex := 6, attributes := #[] }, { accessFlags := 9, nameIndex := 21, descriptorIndex := 22, attributes := #[] }] 49 2 #[] #[])
  fields := #[]
  methods := #[k1m0, k1m1]
  instanceTypes := #[]
  staticTypes := #[]
  resolved := Array.replicate 26 none
  statics := none }

def pool2 : Array CpInfo := pool [(2, .class_ 4), (1, u "java/lang/Object"), (12, .class_ 19), (1, u "com/example/tallyflow/tallyflow/Operations"), (0, u "limit"), (0, u "J"), (2, u "spent"), (0, .class_ 26), (0, u "com/example/tallyflow/tallyflow/Operations$Exceeded"), (8, u "(JJ)J"), (2, .long 9223372036854775807), (1, u "LOGARITHM"), (0, u "I"), (11, u "sum")] 19

def k2c0 : Code := { maxStack := 6, maxLocals := 4, code := prog_82_method_6_code, exceptionTable := #[], attributes := #[] }
def k2m0 : Method := { name := "sum", desc := "(JJ)J", sig := { parameters := [.long, .long], returnType := some .long }, accessFlags := 8, code := some k2c0 }
/-- com/example/tallyflow/tallyflow/Operations -/
def k2 : Class := { plain "com/example/tallyflow/tallyflow/Operations" (some 0) with
  accessFlags := 48
  interfaces := #[]
  cf := some (fileOf pool2 17 #[.nestMembers #[25]] #[{ accessFlags := 8, nameIndex := 53, descriptorIndex := 35, attributes := #[] }] 48 2 #[] #[{ accessFlags := 24, nameIndex := 40, descriptorIndex := 41, attributes := #[] }, { accessFlags := 18, nameIndex := 20, descriptorIndex := 21, attributes := #[] }, { accessFlags := 2, nameIndex := 24, descriptorIndex := 21, attributes := #[] }])
  fields := #[{ name := "LOGARITHM", type := .int, accessFlags := 24, slot := 0, constantValue := 0 }, { name := "limit", type := .long, accessFlags := 18, slot := 0, constantValue := 0 }, { name := "spent", type := .long, accessFlags := 2, slot := 1, constantValue := 0 }]
  methods := #[k2m0]
  instanceTypes := #[.long, .long]
  staticTypes := #[.int]
  resolved := Array.replicate 73 none
  statics := none }

def pool3 : Array CpInfo := pool [(1, u "java/lang/Cloneable"), (0, .class_ 1), (0, u "java/lang/Object"), (0, .class_ 3)] 3

/-- java/lang/Cloneable -/
def k3 : Class := { plain "java/lang/Cloneable" (some 0) with
  accessFlags := 1537
  interfaces := #[]
  cf := some (fileOf pool3 2 #[] #[] 1537 4 #[] #[])
  fields := #[]
  methods := #[]
  instanceTypes := #[]
  staticTypes := #[]
  resolved := Array.replicate 8 none
  statics := none }

def pool4 : Array CpInfo := pool [(1, u "java/io/Serializable"), (0, .class_ 1), (0, u "java/lang/Object"), (0, .class_ 3)] 3

/-- java/io/Serializable -/
def k4 : Class := { plain "java/io/Serializable" (some 0) with
  accessFlags := 1537
  interfaces := #[]
  cf := some (fileOf pool4 2 #[] #[] 1537 4 #[] #[])
  fields := #[]
  methods := #[]
  instanceTypes := #[]
  staticTypes := #[]
  resolved := Array.replicate 8 none
  statics := none }

/-- the primitive byte -/
def k5 : Class := { plain "byte" none with kind := .primitive 'B', accessFlags := 0x411 }
/-- [B -/
def k6 : Class := { plain "[B" (some 0) with kind := .array 5 .byte, interfaces := #[3, 4], accessFlags := 1041 }

/-- the primitive int -/
def k7 : Class := { plain "int" none with kind := .primitive 'I', accessFlags := 0x411 }
/-- [I -/
def k8 : Class := { plain "[I" (some 0) with kind := .array 7 .int, interfaces := #[3, 4], accessFlags := 1041 }

def heap : Heap := #[]
def classes : Array Class := #[k0, k1, k2, k3, k4, k5, k6, k7, k8]
def interned : List (Array UInt16 × Addr) := []
def slotsUsed : Nat := 0
def theMethod : MethodId := ⟨1, 1⟩
def args0 : Array Value := #[.long 5, .long 300, .int 7]
def aboutOver (below : List Frame) : State where
  vm := { classes := classes, interned := interned.toArray }
  heap := heap
  slotsUsed := slotsUsed
  threads := #[{ frames := .invoking theMethod args0 :: below }]
def below0 : List Frame := [.native { method := ⟨0, 0⟩, args := #[] }]
def about1 : State := aboutOver below0
def p0 : Program := .bare "" "" ""
def e0 : Env := launch0.env 0 0 0
theorem w_frames : about1.frames = Frame.invoking theMethod args0 :: below0 := rfl
set_option maxRecDepth 65536 in
theorem w_args : argsFit about1.vm theMethod args0 = true := by decide +kernel
set_option maxRecDepth 65536 in
theorem w_heap : heapFits about1 = true := by decide +kernel
set_option maxRecDepth 65536 in
theorem w_runnable : about1.curStatus? = some .runnable := by decide +kernel
set_option maxRecDepth 65536 in
theorem w_alone : about1.alone = true := by decide +kernel
set_option maxRecDepth 65536 in
theorem w_named : about1.methodNamed? x = some theMethod := by decide +kernel
set_option maxRecDepth 65536 in
theorem w_hears : about1.hears theMethod below0 = true := by decide +kernel
set_option maxRecDepth 65536 in
theorem w_ripe : about1.ripe theMethod args0 below0 = true := by decide +kernel
theorem w_running : about1.status = .running := rfl
set_option maxRecDepth 65536 in
theorem w_room : about1.hasRoom e0.platform room_1 = true :=
  launch0.hasRoom_least _ room_1 (by decide +kernel) (by decide +kernel) (by decide +kernel) (by decide +kernel) (by decide +kernel) (by decide +kernel)
theorem allAtoms_all (ts : List Jvm.Cond) (a : Array Jvm.Value) (st : Jvm.State) : (allAtoms ts).before a st = ts.all (fun c => c.before a st) := by
  induction ts with
  | nil => rfl
  | cons c t ih =>
    show (Jvm.Cond.and c (allAtoms t)).before a st = _
    rw [Jvm.Cond.before_and, ih, List.all_cons]
def words1 : List Jvm.Cond := Jvm.Cond.code x code maxLocals ret :: tables_1
/-- a 'code' word, met by the world's own term for the bytes: nothing is compared byte by byte -/
theorem code_word {y : MethodName} {bytes : ByteArray} {mx : Nat} {rt : Option FieldType} {a : Array Value} {s : State} {m : MethodId} {meth : Method} {c : Code} (h1 : s.methodNamed? y = some m) (h2 : s.vm.method? m = some meth) (h3 : meth.code = some c) (h4 : c.code = bytes)
    (h5 : (c.maxLocals == mx && c.exceptionTable.isEmpty && decide (c.maxStack ≤ mostOperands) && decide (meth.sig.returnType = rt) && !meth.locks && decide (parseMethodDescriptor y.desc = some meth.sig)) = true) : (Jvm.Cond.code y bytes mx rt).before a s = true := by
  simp only [Bool.and_eq_true, beq_iff_eq, Bool.not_eq_true', decide_eq_true_eq] at h5
  obtain ⟨⟨⟨⟨⟨g1, g2⟩, g3⟩, g4⟩, g5⟩, g6⟩ := h5
  simp [Cond.before, Cond.holds, Cond.value, h1, h2, h3, h4, g1, g2, g3, g4, g5, g6]
def isCode : Jvm.Cond → Bool
  | .code _ _ _ _ => true
  | _ => false
theorem all_split {L : List Jvm.Cond} {P : Jvm.Cond → Bool} (h1 : L.all (fun c => isCode c || P c) = true) (h2 : ∀ c ∈ L.filter isCode, P c = true) : L.all P = true := by
  refine List.all_eq_true.mpr fun c hc => ?_
  have h := List.all_eq_true.mp h1 c hc
  rcases Bool.eq_false_or_eq_true (isCode c) with hi | hi
  · exact h2 c (List.mem_filter.mpr ⟨hc, hi⟩)
  · simpa [hi] using h
set_option maxRecDepth 65536 in
theorem w_c0 : (Jvm.Cond.code x code maxLocals ret).before args0 about1 = true := code_word (m := ⟨1, 1⟩) (meth := k1m1) (c := k1c1) (by decide +kernel) rfl rfl rfl (by decide +kernel)
set_option maxRecDepth 65536 in
theorem w_c1 : (Jvm.Cond.code ({ cls := "com/example/tallyflow/tallyflow/Operations", name := "sum", desc := "(JJ)J" } : Jvm.MethodName) prog_82_method_6_code (4 : Nat) (Option.some Jvm.ClassFile.FieldType.long)).before args0 about1 = true := code_word (m := ⟨2, 0⟩) (meth := k2m0) (c := k2c0) (by decide +kernel) rfl rfl rfl (by decide +kernel)
def codes1 : List Jvm.Cond := [Jvm.Cond.code x code maxLocals ret, Jvm.Cond.code ({ cls := "com/example/tallyflow/tallyflow/Operations", name := "sum", desc := "(JJ)J" } : Jvm.MethodName) prog_82_method_6_code (4 : Nat) (Option.some Jvm.ClassFile.FieldType.long)]
set_option maxRecDepth 65536 in
theorem codes_eq : words1.filter isCode = codes1 := rfl
theorem w_codes : ∀ c ∈ words1.filter isCode, c.before args0 about1 = true := by
  rw [codes_eq]
  intro c hc
  simp only [codes1, List.mem_cons, List.not_mem_nil, or_false] at hc
  rcases hc with rfl | rfl
  · exact w_c0
  · exact w_c1
set_option maxRecDepth 65536 in
theorem w_t1 : words1.all (fun c => isCode c || c.before args0 about1) = true := by decide +kernel
theorem w_tables : (allAtoms (Jvm.Cond.code x code maxLocals ret :: tables_1)).before args0 about1 = true := by
  rw [allAtoms_all]
  show words1.all (fun c => c.before args0 about1) = true
  refine all_split ?_ w_codes
  rw [w_t1]
set_option maxRecDepth 65536 in
theorem w_case : (Jvm.Cond.and given_1 narrow_1).before args0 about1 = true := by decide +kernel
theorem w_applies : (headSpec (Jvm.Cond.code x code maxLocals ret :: tables_1) room_1).applies x e0.platform about1 = true :=
  (Spec.applies_iff w_frames).mpr ⟨w_running, w_runnable, w_alone, w_named, w_hears, w_ripe, w_room, w_tables⟩
theorem atStart : AtStart classFile x code maxLocals ret World_1 tables_1 room_1 Calls_1 rest_1 Pre_1 launch0 p0 e0 about1 theMethod args0 below0 :=
  ⟨lists_1, trivial, launch0.admits_env _ _ _, launch0.least_env, fairChoices_fair.cas, fairChoices_fair.clock, w_frames, w_args, w_heap, w_applies, trivial, trivial, w_case⟩
end start1
theorem witness_1 : WitnessClaimed_1 := ⟨start1.p0, start1.e0, start1.about1, start1.theMethod, start1.args0, start1.below0, start1.atStart⟩
end Jvm.Pilot.@@N@@
