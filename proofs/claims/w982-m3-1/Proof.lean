import JvmDerived
import JvmDerived.Pilot.@@N@@Statement
import JvmDerived.Pilot.@@N@@Code
set_option linter.unusedVariables false
set_option linter.unusedSimpArgs false
namespace Jvm.RoadKit
open Sem ClassFile Op Lib Jvm.Stand Jvm.Free Jvm.LawKit
section New
variable {p : Program} {l : Launch} {e : Env} {R : Room} {s : State} {m : MethodId} {args : Array Value} {below : List Frame} {meth : Method} {c : Code} {T : State} {locs : List Loc} {cells slots : Nat}
theorem retI (X : Stand p l e R s m args below meth c T locs cells slots) (hx : p.tables.exec = Jvm.exec) {pc : Nat} {Ls : Array Slot} {z : Int32} {rest : List Value} (hret : meth.sig.returnType = some .int) (hd : decode c.code pc = .ok (.ireturn, 1)) {fs : List Frame}
    (hl : ∀ (f : JFrame) (acts : List Action), f.method = m → f.locked = none → f.entered = [] → (doReturn e (T.setTop f) acts (some (.int z))).1 = T.setFrames fs) : Steps p.tables e below (T.setTop (mkF m pc Ls (.int z :: rest))) (T.setFrames fs) := by
  have hm' : T.vm.method? m = some meth := X.method'
  have hn : narrow .int (.int z) = .int z := rfl
  show Steps p.tables e below (T.setTop { method := m, pc := pc, locals := Ls, stack := _ :: rest, locked := none }) _
  jvm_step X.here [X.here.top, hx, hd, hm', hret, hn]
  first | (intro acts; rw [hl _ acts rfl rfl rfl]) | rw [hl _ _ rfl rfl rfl]
  exact Steps.refl _
end New
end Jvm.RoadKit
namespace Jvm.Pilot.@@N@@
open Jvm Jvm.ClassFile Sem Op Lib Jvm.Free Jvm.Stand Jvm.LawKit Jvm.RoadKit Bundle Jvm.Pilot.@@N@@.Jvm.D
/-- the run from here ends well -/
def own_Go (tb : Tables) (e : Env) (below : List Frame) (P : Outcome → State → Prop) (T : State) (f : JFrame) : Prop := ∃ s₂ o, Steps tb e below (T.setTop f) s₂ ∧ s₂.status = .running ∧ Ended s₂ below o ∧ P o s₂
theorem own_go {tb : Tables} {e : Env} {below : List Frame} {P : Outcome → State → Prop} {T T' : State} {f f' : JFrame} (k : ∀ t, Steps tb e below (T'.setTop f') t → Steps tb e below (T.setTop f) t) (h : own_Go tb e below P T' f') : own_Go tb e below P T f := by
  obtain ⟨s₂, o, h1, h2⟩ := h
  exact ⟨s₂, o, k _ h1, h2⟩
theorem own_keep1 {h0 h h' : Heap} {ws : List Addr} {b : Addr} (K : Keep h0 h ws) (K' : Keep h h' [b]) (q : h0.size ≤ b) : Keep h0 h' ws := K.trans K' fun x hx => Or.inr (by cases List.mem_singleton.mp hx; exact q)
theorem own_eqi {a b : Term} {args : Array Value} {first s : State} {o : Option Outcome} {idx : List Nat} {y : Int32} (h : (Jvm.Cond.eq a b).value args first o s idx = some true) (hb : b.eval args first o idx s = some (.int y)) : a.eval args first o idx s = some (.int y) := by
  cases ha : a.eval args first o idx s with
  | none => simp [Cond.value, ha] at h
  | some x => cases x <;> simp [Cond.value, ha, hb] at h; subst h; rfl
theorem own_not1 {a b : Addr} (q : a ≠ b) : a ∉ [b] := fun h => q (List.mem_singleton.mp h)
def own_PW (s : State) (Q : Option Value → Heap → List Loc → Prop) (k n : Nat) (o : Outcome) (U : State) : Prop := ∃ v L, o = .returned v ∧ Q v U.heap L ∧ ReturnedEndW s o U L k n
def own_P (s : State) (Q : Option Value → Heap → List Loc → Prop) (k n : Nat) (o : Outcome) (U : State) : Prop := ∃ v L, o = .returned v ∧ Q v U.heap L ∧ FrameEnd s o U L k n
theorem own_ushr16 (x : Int32) : (XT.ushr x 16).toBitVec = x.toBitVec >>> 16 := by
  simp [XT.ushr]
theorem own_unmix (z : Int32) : (z ^^^ XT.ushr z 16) ^^^ XT.ushr (z ^^^ XT.ushr z 16) 16 = z := by
  apply Int32.toBitVec_inj.mp
  simp only [Int32.toBitVec_xor, own_ushr16]
  apply BitVec.eq_of_getLsbD_eq
  intro i hi
  have h : z.toBitVec.getLsbD (16 + (16 + i)) = false := BitVec.getLsbD_of_ge _ _ (by omega)
  simp [BitVec.getLsbD_xor, BitVec.getLsbD_ushiftRight, h]
theorem own_back (h : Int32) : (((h * -1640531527) ^^^ XT.ushr (h * -1640531527) 16) ^^^ XT.ushr ((h * -1640531527) ^^^ XT.ushr (h * -1640531527) 16) 16) * 340573321 = h := by
  rw [own_unmix, Int32.mul_assoc, show ((-1640531527 : Int32) * 340573321) = 1 from by decide, Int32.mul_one]
theorem d1_0 : decode prog_59_method_11_code 0 = .ok (.iload_n 0, 1) := by decide +kernel
theorem d1_1 : decode prog_59_method_11_code 1 = .ok (.ldc 96, 2) := by decide +kernel
theorem d1_3 : decode prog_59_method_11_code 3 = .ok (.imul, 1) := by decide +kernel
theorem d1_4 : decode prog_59_method_11_code 4 = .ok (.istore_n 1, 1) := by decide +kernel
theorem d1_5 : decode prog_59_method_11_code 5 = .ok (.iload_n 1, 1) := by decide +kernel
theorem d1_6 : decode prog_59_method_11_code 6 = .ok (.iload_n 1, 1) := by decide +kernel
theorem d1_7 : decode prog_59_method_11_code 7 = .ok (.bipush 16, 2) := by decide +kernel
theorem d1_9 : decode prog_59_method_11_code 9 = .ok (.iushr, 1) := by decide +kernel
theorem d1_10 : decode prog_59_method_11_code 10 = .ok (.ixor, 1) := by decide +kernel
theorem d1_11 : decode prog_59_method_11_code 11 = .ok (.ireturn, 1) := by decide +kernel
theorem pn_0 : plainName "com/example/tallyflow/tallyflow/KeyTable" = true := by first | (simp [plainName, overriddenIn]; done) | decide +kernel
theorem ef_1 (m : MethodId) {p1 : Int32} : entryFrame m #[(.int p1)] 2 = mkF m 0 #[.val (.int p1), .unset] [] := by first | (simp [entryFrame, mkF, argsToLocals, Value.category]; done) | rfl
def Q1 (Z : State) (p1 : Int32) (h0 : Heap) (n0 : Nat) (v : Option Value) (h : Heap) (L : List Loc) : Prop := v = some (.int ((p1 * -1640531527) ^^^ XT.ushr (p1 * -1640531527) 16)) ∧ Fr n0 L ∧ h = h0
set_option maxRecDepth 65536 in
set_option maxHeartbeats 40000000 in
theorem rm1 (l : Launch) (Z : State) (a0 : Array Value) (hw : ∀ d ∈ tables_1, d.before a0 Z = true) (ws : List Jvm.Cond) (p1 : Int32) (h0 : Heap) (n0 : Nat) (Z0 : n0 ≤ h0.size) :
    MetFree l (⟨"com/example/tallyflow/tallyflow/KeyTable", "spread", "(I)I"⟩ : MethodName) (head1 (Jvm.Cond.code (⟨"com/example/tallyflow/tallyflow/KeyTable", "spread", "(I)I"⟩ : MethodName) prog_59_method_11_code 2 (some .int) :: ws) ({ frames := 0, cells := 0, slots := 0, locals := 0 } : Room)) (fun a U => a = #[(.int p1)] ∧ Z.Warmed39 U.vm ∧ U.heap = h0) (fun _ _ _ _ _ => True) (fun _ U o U' => ∃ v L, o = .returned v ∧ Q1 Z p1 h0 n0 v U'.heap L ∧ FrameEnd U o U' L (({ frames := 0, cells := 0, slots := 0, locals := 0 } : Room)).cells (({ frames := 0, cells := 0, slots := 0, locals := 0 } : Room)).slots) := by
  refine MetFree.of_bodySF (plainFor_of_name pn_0) hisR ?_
  intro p e s m args below meth c s₁ Bd hml0 hP hK
  obtain ⟨rfl, hZ, hh⟩ := hP
  have hx := Bd.exec
  have hby := Bd.bytes
  have hml : c.maxLocals = 2 := hml0
  have hown : s.vm.findClass "com/example/tallyflow/tallyflow/KeyTable" = some m.cls := findClass_of_methodNamed Bd.named
  have hnm := (name_of_methodNamed Bd.named Bd.method).1
  have X0 : Stand p l e ({ frames := 0, cells := 0, slots := 0, locals := 0 } : Room) s m #[(.int p1)] below meth c s₁ [] 0 0 := Stand.of_body Bd
  have e0 : s₁.heap = h0 := by rw [← hh, Bd.state]; rfl
  have N0 := Fr.nil n0
  show own_Go p.tables e below (own_P s (Q1 Z p1 h0 n0) ({ frames := 0, cells := 0, slots := 0, locals := 0 } : Room).cells ({ frames := 0, cells := 0, slots := 0, locals := 0 } : Room).slots) s₁ _
  rw [ef_1]
  show own_Go p.tables e below _ s₁ (mkF m 0 #[.val (.int p1), .unset] [])
  refine own_go (fun t k => XS.iloadN X0.here hx rfl (hb hby d1_0) rfl k) ?_
  show own_Go p.tables e below _ s₁ (mkF m 1 #[.val (.int p1), .unset] [(.int p1)])
  refine own_go (fun t k => X0.ldcI hx hown (mvT hZ (hw _ (List.mem_of_getElem? (i := 4) rfl))) rfl (hb hby d1_1) k) ?_
  show own_Go p.tables e below _ s₁ (mkF m 3 #[.val (.int p1), .unset] [(.int (-1640531527 : Int32)), (.int p1)])
  refine own_go (fun t k => XS.imul X0.here hx rfl (hb hby d1_3) rfl k) ?_
  show own_Go p.tables e below _ s₁ (mkF m 4 #[.val (.int p1), .unset] [(.int (p1 * (-1640531527 : Int32)))])
  refine own_go (fun t k => XS.istoreN X0.here hx rfl (hb hby d1_4) rfl (l' := #[.val (.int p1), .val (.int (p1 * (-1640531527 : Int32)))]) rfl k) ?_
  show own_Go p.tables e below _ s₁ (mkF m 5 #[.val (.int p1), .val (.int (p1 * (-1640531527 : Int32)))] [])
  refine own_go (fun t k => XS.iloadN X0.here hx rfl (hb hby d1_5) rfl k) ?_
  show own_Go p.tables e below _ s₁ (mkF m 6 #[.val (.int p1), .val (.int (p1 * (-1640531527 : Int32)))] [(.int (p1 * (-1640531527 : Int32)))])
  refine own_go (fun t k => XS.iloadN X0.here hx rfl (hb hby d1_6) rfl k) ?_
  show own_Go p.tables e below _ s₁ (mkF m 7 #[.val (.int p1), .val (.int (p1 * (-1640531527 : Int32)))] [(.int (p1 * (-1640531527 : Int32))), (.int (p1 * (-1640531527 : Int32)))])
  refine own_go (fun t k => XS.bipush X0.here hx rfl (hb hby d1_7) k) ?_
  show own_Go p.tables e below _ s₁ (mkF m 9 #[.val (.int p1), .val (.int (p1 * (-1640531527 : Int32)))] [(.int (16 : Int32)), (.int (p1 * (-1640531527 : Int32))), (.int (p1 * (-1640531527 : Int32)))])
  refine own_go (fun t k => XT.iushr X0.here hx rfl (hb hby d1_9) rfl k) ?_
  show own_Go p.tables e below _ s₁ (mkF m 10 #[.val (.int p1), .val (.int (p1 * (-1640531527 : Int32)))] [(.int (XT.ushr (p1 * (-1640531527 : Int32)) (16 : Int32))), (.int (p1 * (-1640531527 : Int32)))])
  refine own_go (fun t k => XT.ixor X0.here hx rfl (hb hby d1_10) rfl k) ?_
  show own_Go p.tables e below _ s₁ (mkF m 11 #[.val (.int p1), .val (.int (p1 * (-1640531527 : Int32)))] [(.int ((p1 * (-1640531527 : Int32)) ^^^ (XT.ushr (p1 * (-1640531527 : Int32)) (16 : Int32))))])
  obtain ⟨fs, hr, hrun, hended, hW, hsame⟩ := X0.leave (v := some (.int ((p1 * (-1640531527 : Int32)) ^^^ (XT.ushr (p1 * (-1640531527 : Int32)) (16 : Int32))))) (fun h => by rw [Bd.returns] at h; cases h)
  refine ⟨_, _, ?_, hrun, hended, _, _, rfl, ?_, ⟨_, rfl⟩, hW, hsame.mono (by decide) (by decide)⟩
  · exact retI X0 hx Bd.returns (hb hby d1_11) hr
  · show Q1 Z p1 h0 n0 _ s₁.heap _
    rw [e0]
    exact ⟨rfl, N0, rfl⟩
theorem pd_0 : parseMethodDescriptor "(I)I" = some ⟨[.int], some .int⟩ := by decide +kernel
theorem pn_1 : plainName "com/example/tallyflow/tallyflow/KeyTableSpreadPinLaw" = true := by first | (simp [plainName, overriddenIn]; done) | decide +kernel
theorem ef_0 (m : MethodId) {p1 : Int32} : entryFrame m #[(.int p1)] maxLocals = mkF m 0 #[.val (.int p1), .unset, .unset] [] := by first | (simp [entryFrame, mkF, argsToLocals, Value.category, maxLocals]; done) | rfl
def Q0 (Z : State) (p1 : Int32) (h0 : Heap) (n0 : Nat) (v : Option Value) (h : Heap) (L : List Loc) : Prop := v = some (.int 1) ∧ Fr n0 L
set_option maxRecDepth 65536 in
set_option maxHeartbeats 40000000 in
theorem rm0 (l : Launch) (Z : State) (a0 : Array Value) (hw : ∀ d ∈ tables_1, d.before a0 Z = true) (ws : List Jvm.Cond) (p1 : Int32) (h0 : Heap) (n0 : Nat) (Z0 : n0 ≤ h0.size) :
    MetFree l x (head1 (Jvm.Cond.code x code maxLocals ret :: ws) room_1) (fun a U => a = #[(.int p1)] ∧ Z.Warmed39 U.vm ∧ U.heap = h0) (fun _ _ _ _ _ => True) (fun _ U o U' => ∃ v L, o = .returned v ∧ Q0 Z p1 h0 n0 v U'.heap L ∧ FrameEnd U o U' L (room_1).cells (room_1).slots) := by
  refine MetFree.of_bodySF (plainFor_of_name pn_1) hisR ?_
  intro p e s m args below meth c s₁ Bd hml0 hP hK
  obtain ⟨rfl, hZ, hh⟩ := hP
  have hx := Bd.exec
  have hby := Bd.bytes
  have hml : c.maxLocals = 3 := hml0
  have hown : s.vm.findClass "com/example/tallyflow/tallyflow/KeyTableSpreadPinLaw" = some m.cls := findClass_of_methodNamed Bd.named
  have hnm := (name_of_methodNamed Bd.named Bd.method).1
  have X0 : Stand p l e room_1 s m #[(.int p1)] below meth c s₁ [] 0 0 := Stand.of_body Bd
  have e0 : s₁.heap = h0 := by rw [← hh, Bd.state]; rfl
  have N0 := Fr.nil n0
  show own_Go p.tables e below (own_P s (Q0 Z p1 h0 n0) room_1.cells room_1.slots) s₁ _
  rw [ef_0]
  show own_Go p.tables e below _ s₁ (mkF m 0 #[.val (.int p1), .unset, .unset] [])
  refine own_go (fun t k => XS.iloadN X0.here hx rfl (hb hby at_0) rfl k) ?_
  show own_Go p.tables e below _ s₁ (mkF m 1 #[.val (.int p1), .unset, .unset] [(.int p1)])
  obtain ⟨_, _, ⟨T1, L1, k1, n1⟩, -, X1, ⟨Lc1, hQ1, l1, y1, z1⟩, st1⟩ := Jvm.LawKit.callS X0 hx (y := (⟨"com/example/tallyflow/tallyflow/KeyTable", "spread", "(I)I"⟩ : MethodName)) hown (mvT hZ (hw _ (List.mem_of_getElem? (i := 0) rfl))) (mvT hZ (hw _ (List.mem_of_getElem? (i := 1) rfl))) (mvT hZ (hw _ (List.mem_of_getElem? (i := 2) rfl))) (mvT hZ (hw _ (List.mem_of_getElem? (i := 3) rfl))) (by decide) (backOf (W := 0) (rm1 l Z a0 hw [] p1 h0 n0 Z0) hZ (hw _ (List.mem_of_getElem? (i := 3) rfl)) (hw _ (List.mem_of_getElem? (i := 2) rfl)) (by decide) (by decide)) (g := (mkF m 1 #[.val (.int p1), .unset, .unset] [(.int p1)])) rfl (by rw [hml]; rfl) (argsL := [(.int p1)]) (rest := []) (lenOf pd_0 rfl) rfl (by show 2 * 0 + _ ≤ _; exact Nat.le_of_eq rfl) (hb hby at_1) (fun _ _ => ⟨rfl, e0, (by decide : 0 + 0 ≤ _), (by decide : 0 + 0 ≤ _)⟩)
  dsimp only [Pt.U, Pt.locs, Pt.cells, Pt.slots] at X1 l1 y1 z1 st1 hQ1
  subst l1 y1 z1
  obtain ⟨rfl, N1q, e1⟩ := hQ1
  have N1 := Fr.app N0 N1q
  refine own_go (fun t k => st1 t k) ?_
  show own_Go p.tables e below _ T1 (mkF m 4 #[.val (.int p1), .unset, .unset] [(.int ((p1 * -1640531527) ^^^ XT.ushr (p1 * -1640531527) 16))])
  refine own_go (fun t k => XS.istoreN X1.here hx rfl (hb hby at_4) rfl (l' := #[.val (.int p1), .val (.int ((p1 * -1640531527) ^^^ XT.ushr (p1 * -1640531527) 16)), .unset]) rfl k) ?_
  show own_Go p.tables e below _ T1 (mkF m 5 #[.val (.int p1), .val (.int ((p1 * -1640531527) ^^^ XT.ushr (p1 * -1640531527) 16)), .unset] [])
  refine own_go (fun t k => XS.iloadN X1.here hx rfl (hb hby at_5) rfl k) ?_
  show own_Go p.tables e below _ T1 (mkF m 6 #[.val (.int p1), .val (.int ((p1 * -1640531527) ^^^ XT.ushr (p1 * -1640531527) 16)), .unset] [(.int ((p1 * -1640531527) ^^^ XT.ushr (p1 * -1640531527) 16))])
  refine own_go (fun t k => XS.iloadN X1.here hx rfl (hb hby at_6) rfl k) ?_
  show own_Go p.tables e below _ T1 (mkF m 7 #[.val (.int p1), .val (.int ((p1 * -1640531527) ^^^ XT.ushr (p1 * -1640531527) 16)), .unset] [(.int ((p1 * -1640531527) ^^^ XT.ushr (p1 * -1640531527) 16)), (.int ((p1 * -1640531527) ^^^ XT.ushr (p1 * -1640531527) 16))])
  refine own_go (fun t k => XS.bipush X1.here hx rfl (hb hby at_7) k) ?_
  show own_Go p.tables e below _ T1 (mkF m 9 #[.val (.int p1), .val (.int ((p1 * -1640531527) ^^^ XT.ushr (p1 * -1640531527) 16)), .unset] [(.int (16 : Int32)), (.int ((p1 * -1640531527) ^^^ XT.ushr (p1 * -1640531527) 16)), (.int ((p1 * -1640531527) ^^^ XT.ushr (p1 * -1640531527) 16))])
  refine own_go (fun t k => XT.iushr X1.here hx rfl (hb hby at_9) rfl k) ?_
  show own_Go p.tables e below _ T1 (mkF m 10 #[.val (.int p1), .val (.int ((p1 * -1640531527) ^^^ XT.ushr (p1 * -1640531527) 16)), .unset] [(.int (XT.ushr ((p1 * -1640531527) ^^^ XT.ushr (p1 * -1640531527) 16) (16 : Int32))), (.int ((p1 * -1640531527) ^^^ XT.ushr (p1 * -1640531527) 16))])
  refine own_go (fun t k => XT.ixor X1.here hx rfl (hb hby at_10) rfl k) ?_
  show own_Go p.tables e below _ T1 (mkF m 11 #[.val (.int p1), .val (.int ((p1 * -1640531527) ^^^ XT.ushr (p1 * -1640531527) 16)), .unset] [(.int (((p1 * -1640531527) ^^^ XT.ushr (p1 * -1640531527) 16) ^^^ (XT.ushr ((p1 * -1640531527) ^^^ XT.ushr (p1 * -1640531527) 16) (16 : Int32))))])
  refine own_go (fun t k => XS.istoreN X1.here hx rfl (hb hby at_11) rfl (l' := #[.val (.int p1), .val (.int ((p1 * -1640531527) ^^^ XT.ushr (p1 * -1640531527) 16)), .val (.int (((p1 * -1640531527) ^^^ XT.ushr (p1 * -1640531527) 16) ^^^ (XT.ushr ((p1 * -1640531527) ^^^ XT.ushr (p1 * -1640531527) 16) (16 : Int32))))]) rfl k) ?_
  show own_Go p.tables e below _ T1 (mkF m 12 #[.val (.int p1), .val (.int ((p1 * -1640531527) ^^^ XT.ushr (p1 * -1640531527) 16)), .val (.int (((p1 * -1640531527) ^^^ XT.ushr (p1 * -1640531527) 16) ^^^ (XT.ushr ((p1 * -1640531527) ^^^ XT.ushr (p1 * -1640531527) 16) (16 : Int32))))] [])
  refine own_go (fun t k => XS.iloadN X1.here hx rfl (hb hby at_12) rfl k) ?_
  show own_Go p.tables e below _ T1 (mkF m 13 #[.val (.int p1), .val (.int ((p1 * -1640531527) ^^^ XT.ushr (p1 * -1640531527) 16)), .val (.int (((p1 * -1640531527) ^^^ XT.ushr (p1 * -1640531527) 16) ^^^ (XT.ushr ((p1 * -1640531527) ^^^ XT.ushr (p1 * -1640531527) 16) (16 : Int32))))] [(.int (((p1 * -1640531527) ^^^ XT.ushr (p1 * -1640531527) 16) ^^^ (XT.ushr ((p1 * -1640531527) ^^^ XT.ushr (p1 * -1640531527) 16) (16 : Int32))))])
  refine own_go (fun t k => X1.ldcI hx hown (mvT hZ (hw _ (List.mem_of_getElem? (i := 5) rfl))) rfl (hb hby at_13) k) ?_
  show own_Go p.tables e below _ T1 (mkF m 15 #[.val (.int p1), .val (.int ((p1 * -1640531527) ^^^ XT.ushr (p1 * -1640531527) 16)), .val (.int (((p1 * -1640531527) ^^^ XT.ushr (p1 * -1640531527) 16) ^^^ (XT.ushr ((p1 * -1640531527) ^^^ XT.ushr (p1 * -1640531527) 16) (16 : Int32))))] [(.int (340573321 : Int32)), (.int (((p1 * -1640531527) ^^^ XT.ushr (p1 * -1640531527) 16) ^^^ (XT.ushr ((p1 * -1640531527) ^^^ XT.ushr (p1 * -1640531527) 16) (16 : Int32))))])
  refine own_go (fun t k => XS.imul X1.here hx rfl (hb hby at_15) rfl k) ?_
  show own_Go p.tables e below _ T1 (mkF m 16 #[.val (.int p1), .val (.int ((p1 * -1640531527) ^^^ XT.ushr (p1 * -1640531527) 16)), .val (.int (((p1 * -1640531527) ^^^ XT.ushr (p1 * -1640531527) 16) ^^^ (XT.ushr ((p1 * -1640531527) ^^^ XT.ushr (p1 * -1640531527) 16) (16 : Int32))))] [(.int ((((p1 * -1640531527) ^^^ XT.ushr (p1 * -1640531527) 16) ^^^ (XT.ushr ((p1 * -1640531527) ^^^ XT.ushr (p1 * -1640531527) 16) (16 : Int32))) * (340573321 : Int32)))])
  refine own_go (fun t k => XS.iloadN X1.here hx rfl (hb hby at_16) rfl k) ?_
  show own_Go p.tables e below _ T1 (mkF m 17 #[.val (.int p1), .val (.int ((p1 * -1640531527) ^^^ XT.ushr (p1 * -1640531527) 16)), .val (.int (((p1 * -1640531527) ^^^ XT.ushr (p1 * -1640531527) 16) ^^^ (XT.ushr ((p1 * -1640531527) ^^^ XT.ushr (p1 * -1640531527) 16) (16 : Int32))))] [(.int p1), (.int ((((p1 * -1640531527) ^^^ XT.ushr (p1 * -1640531527) 16) ^^^ (XT.ushr ((p1 * -1640531527) ^^^ XT.ushr (p1 * -1640531527) 16) (16 : Int32))) * (340573321 : Int32)))])
  refine own_go (fun t k => XS.icmpNo X1.here hx rfl (hb hby at_17) rfl (XT.ii_ne_f (own_back p1)) k) ?_
  show own_Go p.tables e below _ T1 (mkF m 20 #[.val (.int p1), .val (.int ((p1 * -1640531527) ^^^ XT.ushr (p1 * -1640531527) 16)), .val (.int (((p1 * -1640531527) ^^^ XT.ushr (p1 * -1640531527) 16) ^^^ (XT.ushr ((p1 * -1640531527) ^^^ XT.ushr (p1 * -1640531527) 16) (16 : Int32))))] [])
  refine own_go (fun t k => XS.iconst X1.here hx rfl (hb hby at_20) k) ?_
  show own_Go p.tables e below _ T1 (mkF m 21 #[.val (.int p1), .val (.int ((p1 * -1640531527) ^^^ XT.ushr (p1 * -1640531527) 16)), .val (.int (((p1 * -1640531527) ^^^ XT.ushr (p1 * -1640531527) 16) ^^^ (XT.ushr ((p1 * -1640531527) ^^^ XT.ushr (p1 * -1640531527) 16) (16 : Int32))))] [(.int (1 : Int32))])
  refine own_go (fun t k => XS.goto X1.here hx rfl (pc0 := 21) (pc' := 25) rfl (hb hby at_21) (by decide) (by decide) k) ?_
  show own_Go p.tables e below _ T1 (mkF m 25 #[.val (.int p1), .val (.int ((p1 * -1640531527) ^^^ XT.ushr (p1 * -1640531527) 16)), .val (.int (((p1 * -1640531527) ^^^ XT.ushr (p1 * -1640531527) 16) ^^^ (XT.ushr ((p1 * -1640531527) ^^^ XT.ushr (p1 * -1640531527) 16) (16 : Int32))))] [(.int (1 : Int32))])
  obtain ⟨fs, hr, hrun, hended, hW, hsame⟩ := X1.leave (v := some (.int (1 : Int32))) (fun h => by rw [Bd.returns] at h; cases h)
  refine ⟨_, _, ?_, hrun, hended, _, _, rfl, ?_, ⟨_, rfl⟩, hW, hsame.mono (by decide) (by decide)⟩
  · exact retN X1 hx (t := .boolean) Bd.returns (by simp) (hb hby at_25) hr
  · show Q0 Z p1 h0 n0 _ T1.heap _
    rw [e1]
    exact ⟨rfl, N1⟩
set_option maxRecDepth 65536 in
set_option maxHeartbeats 40000000 in
theorem comes_1 {Post : Tables → Env → Array Value → State → Outcome → State → Prop} (hpost : ∀ tb e args s v u, (limb_1_1.after args s (.returned v) u = true ∧ limb_1_2.after args s (.returned v) u = true ∧ True) → FrameEnd s (.returned v) u (Jvm.fieldLocs frame_1_writes args s ++ Jvm.arrayLocs frame_1_arrays args s ++ Jvm.staticLocs frame_1_statics s) 0 0 → Post tb e args s (.returned v) u) :
    ArmFor flags0 classFile x code maxLocals ret World_1 tables_1 room_1 Calls_1 rest_1 Pre_1 Post := by
  intro l hfl _ _ p e ha hc hk s m args below hf hA hF happ hP
  obtain ⟨hcalls, hrest, hpre⟩ := hP
  obtain ⟨-, -, -, hnamed, -, -, -, hat⟩ := (Spec.applies_iff hf).mp happ
  obtain ⟨hg, hn⟩ := and_e (Cond.before_iff.mp (show (Jvm.Cond.and given_1 narrow_1).before args s = true from hpre))
  obtain ⟨gc, ga0⟩ := and_e hg
  have gv0 := ga0
  obtain ⟨w0, rfl⟩ : ∃ w0 : Value, args = #[w0] := by
    have hs : args.size = 1 := by simpa [Cond.value, given_1] using gc
    obtain ⟨L⟩ := args
    match L, hs with
    | [w0], _ => exact ⟨w0, rfl⟩
  have hw := fun d (hd : d ∈ tables_1) => atoms_spec (ws := Jvm.Cond.code x code maxLocals ret :: tables_1) hat d (List.mem_cons_of_mem _ hd)
  have hfit : Fit s := fun {y c} hc i hi => by
    obtain ⟨ha, rfl⟩ := Array.getElem?_eq_some_iff.mp hc
    have q := List.all_eq_true.mp ((Array.all_eq_true_iff_forall_mem.mp hF) _ (Array.getElem_mem ha)) i (List.mem_range.mpr hi)
    simpa [Array.getElem?_eq_getElem hi] using q
  obtain ⟨i0, ei0⟩ := is_v gv0
  obtain rfl : w0 = (.int i0) := Option.some.inj ei0
  obtain ⟨n, o, h1, h2, h3, _, L, rfl, ⟨rfl, N⟩, hq⟩ := rm0 l s _ hw tables_1 i0  s.heap s.heap.size (Nat.le_refl _)  p e ha hc hk s m _ below hf ((Spec.applies_iff_loose hf).mp happ).1 ⟨rfl, State.Warmed39.refl s, rfl⟩ trivial
  exact ⟨n, _, h1, h2, h3, hpost _ _ _ _ _ _ ⟨Cond.after_iff.mpr rfl, Cond.after_iff.mpr (eq_i res_at (Term.int_eval (1)) rfl), trivial⟩ ⟨hq.1, hq.2.1, (hq.2.2.sift fun y hy => Or.inr (N y hy)).mono (by decide) (by decide)⟩⟩
theorem main_1_1 : Claimed_1_1 := comes_1 fun _ _ _ _ _ _ h hF => ⟨h.1, hF⟩
theorem main_1_2 : Claimed_1_2 := comes_1 fun _ _ _ _ _ _ h hF => ⟨h.2.1, hF⟩
end Jvm.Pilot.@@N@@
namespace Jvm.Pilot.@@N@@
open Jvm Jvm.ClassFile Sem Op Lib Jvm.Free Jvm.Stand Jvm.Pilot.@@N@@.Jvm.D
/-! MADE BY PROGRAM (witnessworld.py) out of the Statement's table words and the real class files: 7 classes; the members and pool entries that the words name. The judged class is class 1, her method 1. -/
namespace start1
open Jvm.ClassFile
def u (s : String) : CpInfo := .utf8 (stringToUtf16 s)
/-- a pool by its gaps: so many unusable entries, then the entry; so many at the end -/
def gap : Nat → List CpInfo → List CpInfo
  | 0, r => r
  | n + 1, r => .unusable :: gap n r
def poolList (es : List (Nat × CpInfo)) (last : Nat) : List CpInfo := es.foldr (fun e r => gap e.1 (e.2 :: r)) (gap last [])
def pool (es : List (Nat × CpInfo)) (last : Nat) : Array CpInfo := ⟨poolList es last⟩
def fileOf (pool : Array CpInfo) (this : Nat) (attrs : Array Attribute := #[]) (ms : Array MethodInfo := #[]) (fl : Nat := 33) (sup : Nat := 0) (ifs : Array Nat := #[]) (fds : Array FieldInfo := #[]) : ClassFile where
  minorVersion := 0
  majorVersion := 65
  constantPool := pool
  accessFlags := fl
  thisClass := this
  superClass := sup
  interfaces := ifs
  fields := fds
  methods := ms
  attributes := attrs
def plain (name : String) (sup : Option ClassId) : Class where
  name := name
  kind := .ordinary
  loader := none
  accessFlags := 33
  super := sup
  interfaces := #[]
  cf := none
  fields := #[]
  methods := #[]
  instanceTypes := #[]
  staticTypes := #[]
  resolved := #[]
  callSites := []
  init := .initialized
  statics := none
  mirror := none

def pool0 : Array CpInfo := pool [(5, u "<init>"), (0, u "()V"), (1, .class_ 10), (1, u "java/lang/Object")] 113

def k0m0 : Method := { name := "<init>", desc := "()V", sig := { parameters := [], returnType := none }, accessFlags := 1, code := none }
/-- java/lang/Object -/
def k0 : Class := { plain "java/lang/Object" none with
  accessFlags := 33
  interfaces := #[]
  cf := some (fileOf pool0 8 #[] #[{ accessFlags := 1, nameIndex := 5, descriptorIndex := 6, attributes := #[] }] 33 0 #[] #[])
  fields := #[]
  methods := #[k0m0]
  instanceTypes := #[]
  staticTypes := #[]
  resolved := Array.replicate 124 none
  statics := none }

def pool1 : Array CpInfo := pool [(2, .class_ 4), (1, u "java/lang/Object"), (0, u "<init>"), (0, u "()V"), (0, .methodref 8 9), (0, .class_ 10), (0, .nameAndType 11 12), (0, u "com/example/tallyflow/tallyflow/KeyTable"), (0, u "spread"), (0, u "(I)I"), (0, .integer 340573321), (0, .class_ 15), (0, u "com/example/tallyflow/tallyflow/KeyTableSpreadPinLaw"), (2, u "law"), (0, u "(I)Z")] 3

def k1m0 : Method := { name := "<init>", desc := "()V", sig := { parameters := [], returnType := none }, accessFlags := 1, code := none }
def k1c1 : Code := { maxStack := 3, maxLocals := 3, code := code, exceptionTable := #[], attributes := #[] }
def k1m1 : Method := { name := "law", desc := "(I)Z", sig := { parameters := [.int], returnType := some .boolean }, accessFlags := 9, code := some k1c1 }
/-- com/example/tallyflow/tallyflow/KeyTableSpreadPinLaw -/
def k1 : Class := { plain "com/example/tallyflow/tallyflow/KeyTableSpreadPinLaw" (some 0) with
  accessFlags := 49
  interfaces := #[]
  cf := some (fileOf pool1 14 #[] #[{ accessFlags := 1, nameIndex := 5, descriptorIndex := 6, attributes := #[] }, { accessFlags := 9, nameIndex := 18, descriptorIndex := 19, attributes := #[] }] 49 2 #[] #[])
  fields := #[]
  methods := #[k1m0, k1m1]
  instanceTypes := #[]
  staticTypes := #[]
  resolved := Array.replicate 23 none
  statics := none }

def pool2 : Array CpInfo := pool [(4, .class_ 6), (1, u "java/lang/Object"), (0, u "<init>"), (0, u "()V"), (1, .class_ 12), (1, u "com/example/tallyflow/tallyflow/KeyTable"), (0, u "values"), (0, u "[I"), (2, u "start"), (6, u "places"), (0, u "[J"), (2, u "size"), (0, u "I"), (6, u "spread"), (0, u "(I)I"), (58, .integer 2654435769), (4, u "LONGEST")] 28

def k2m0 : Method := { name := "<init>", desc := "()V", sig := { parameters := [], returnType := none }, accessFlags := 0, code := none }
def k2c1 : Code := { maxStack := 3, maxLocals := 2, code := prog_59_method_11_code, exceptionTable := #[], attributes := #[] }
def k2m1 : Method := { name := "spread", desc := "(I)I", sig := { parameters := [.int], returnType := some .int }, accessFlags := 8, code := some k2c1 }
/-- com/example/tallyflow/tallyflow/KeyTable -/
def k2 : Class := { plain "com/example/tallyflow/tallyflow/KeyTable" (some 0) with
  accessFlags := 48
  interfaces := #[]
  cf := some (fileOf pool2 10 #[] #[{ accessFlags := 0, nameIndex := 7, descriptorIndex := 8, attributes := #[] }, { accessFlags := 8, nameIndex := 36, descriptorIndex := 37, attributes := #[] }] 48 4 #[] #[{ accessFlags := 24, nameIndex := 101, descriptorIndex := 29, attributes := #[] }, { accessFlags := 2, nameIndex := 13, descriptorIndex := 14, attributes := #[] }, { accessFlags := 2, nameIndex := 17, descriptorIndex := 14, attributes := #[] }, { accessFlags := 2, nameIndex := 28, descriptorIndex := 29, attributes := #[] }, { accessFlags := 2, nameIndex := 24, descriptorIndex := 25, attributes := #[] }])
  fields := #[{ name := "LONGEST", type := .int, accessFlags := 24, slot := 0, constantValue := 0 }, { name := "values", type := (.array .int), accessFlags := 2, slot := 0, constantValue := 0 }, { name := "start", type := (.array .int), accessFlags := 2, slot := 1, constantValue := 0 }, { name := "size", type := .int, accessFlags := 2, slot := 2, constantValue := 0 }, { name := "places", type := (.array .long), accessFlags := 2, slot := 3, constantValue := 0 }]
  methods := #[k2m0, k2m1]
  instanceTypes := #[(.array .int), (.array .int), .int, (.array .long)]
  staticTypes := #[.int]
  resolved := Array.replicate 130 none
  statics := none }

def pool3 : Array CpInfo := pool [(1, u "java/lang/Cloneable"), (0, .class_ 1), (0, u "java/lang/Object"), (0, .class_ 3)] 3

/-- java/lang/Cloneable -/
def k3 : Class := { plain "java/lang/Cloneable" (some 0) with
  accessFlags := 1537
  interfaces := #[]
  cf := some (fileOf pool3 2 #[] #[] 1537 4 #[] #[])
  fields := #[]
  methods := #[]
  instanceTypes := #[]
  staticTypes := #[]
  resolved := Array.replicate 8 none
  statics := none }

def pool4 : Array CpInfo := pool [(1, u "java/io/Serializable"), (0, .class_ 1), (0, u "java/lang/Object"), (0, .class_ 3)] 3

/-- java/io/Serializable -/
def k4 : Class := { plain "java/io/Serializable" (some 0) with
  accessFlags := 1537
  interfaces := #[]
  cf := some (fileOf pool4 2 #[] #[] 1537 4 #[] #[])
  fields := #[]
  methods := #[]
  instanceTypes := #[]
  staticTypes := #[]
  resolved := Array.replicate 8 none
  statics := none }

/-- the primitive byte -/
def k5 : Class := { plain "byte" none with kind := .primitive 'B', accessFlags := 0x411 }
/-- [B -/
def k6 : Class := { plain "[B" (some 0) with kind := .array 5 .byte, interfaces := #[3, 4], accessFlags := 1041 }

def heap : Heap := #[]
def classes : Array Class := #[k0, k1, k2, k3, k4, k5, k6]
def interned : List (Array UInt16 × Addr) := []
def slotsUsed : Nat := 0
def theMethod : MethodId := ⟨1, 1⟩
def args0 : Array Value := #[.int 5]
def aboutOver (below : List Frame) : State where
  vm := { classes := classes, interned := interned.toArray }
  heap := heap
  slotsUsed := slotsUsed
  threads := #[{ frames := .invoking theMethod args0 :: below }]
def below0 : List Frame := [.native { method := ⟨0, 0⟩, args := #[] }]
def about1 : State := aboutOver below0
def p0 : Program := .bare "" "" ""
def e0 : Env := launch0.env 0 0 0
theorem w_frames : about1.frames = Frame.invoking theMethod args0 :: below0 := rfl
set_option maxRecDepth 65536 in
theorem w_args : argsFit about1.vm theMethod args0 = true := by decide +kernel
set_option maxRecDepth 65536 in
theorem w_heap : heapFits about1 = true := by decide +kernel
set_option maxRecDepth 65536 in
theorem w_runnable : about1.curStatus? = some .runnable := by decide +kernel
set_option maxRecDepth 65536 in
theorem w_alone : about1.alone = true := by decide +kernel
set_option maxRecDepth 65536 in
theorem w_named : about1.methodNamed? x = some theMethod := by decide +kernel
set_option maxRecDepth 65536 in
theorem w_hears : about1.hears theMethod below0 = true := by decide +kernel
set_option maxRecDepth 65536 in
theorem w_ripe : about1.ripe theMethod args0 below0 = true := by decide +kernel
theorem w_running : about1.status = .running := rfl
set_option maxRecDepth 65536 in
theorem w_room : about1.hasRoom e0.platform room_1 = true :=
  launch0.hasRoom_least _ room_1 (by decide +kernel) (by decide +kernel) (by decide +kernel) (by decide +kernel) (by decide +kernel) (by decide +kernel)
theorem allAtoms_all (ts : List Jvm.Cond) (a : Array Jvm.Value) (st : Jvm.State) : (allAtoms ts).before a st = ts.all (fun c => c.before a st) := by
  induction ts with
  | nil => rfl
  | cons c t ih =>
    show (Jvm.Cond.and c (allAtoms t)).before a st = _
    rw [Jvm.Cond.before_and, ih, List.all_cons]
def words1 : List Jvm.Cond := Jvm.Cond.code x code maxLocals ret :: tables_1
/-- a 'code' word, met by the world's own term for the bytes: nothing is compared byte by byte -/
theorem code_word {y : MethodName} {bytes : ByteArray} {mx : Nat} {rt : Option FieldType} {a : Array Value} {s : State} {m : MethodId} {meth : Method} {c : Code} (h1 : s.methodNamed? y = some m) (h2 : s.vm.method? m = some meth) (h3 : meth.code = some c) (h4 : c.code = bytes)
    (h5 : (c.maxLocals == mx && c.exceptionTable.isEmpty && decide (c.maxStack ≤ mostOperands) && decide (meth.sig.returnType = rt) && !meth.locks && decide (parseMethodDescriptor y.desc = some meth.sig)) = true) : (Jvm.Cond.code y bytes mx rt).before a s = true := by
  simp only [Bool.and_eq_true, beq_iff_eq, Bool.not_eq_true', decide_eq_true_eq] at h5
  obtain ⟨⟨⟨⟨⟨g1, g2⟩, g3⟩, g4⟩, g5⟩, g6⟩ := h5
  simp [Cond.before, Cond.holds, Cond.value, h1, h2, h3, h4, g1, g2, g3, g4, g5, g6]
def isCode : Jvm.Cond → Bool
  | .code _ _ _ _ => true
  | _ => false
theorem all_split {L : List Jvm.Cond} {P : Jvm.Cond → Bool} (h1 : L.all (fun c => isCode c || P c) = true) (h2 : ∀ c ∈ L.filter isCode, P c = true) : L.all P = true := by
  refine List.all_eq_true.mpr fun c hc => ?_
  have h := List.all_eq_true.mp h1 c hc
  rcases Bool.eq_false_or_eq_true (isCode c) with hi | hi
  · exact h2 c (List.mem_filter.mpr ⟨hc, hi⟩)
  · simpa [hi] using h
set_option maxRecDepth 65536 in
theorem w_c0 : (Jvm.Cond.code x code maxLocals ret).before args0 about1 = true := code_word (m := ⟨1, 1⟩) (meth := k1m1) (c := k1c1) (by decide +kernel) rfl rfl rfl (by decide +kernel)
set_option maxRecDepth 65536 in
theorem w_c1 : (Jvm.Cond.code ({ cls := "com/example/tallyflow/tallyflow/KeyTable", name := "spread", desc := "(I)I" } : Jvm.MethodName) prog_59_method_11_code (2 : Nat) (Option.some Jvm.ClassFile.FieldType.int)).before args0 about1 = true := code_word (m := ⟨2, 1⟩) (meth := k2m1) (c := k2c1) (by decide +kernel) rfl rfl rfl (by decide +kernel)
def codes1 : List Jvm.Cond := [Jvm.Cond.code x code maxLocals ret, Jvm.Cond.code ({ cls := "com/example/tallyflow/tallyflow/KeyTable", name := "spread", desc := "(I)I" } : Jvm.MethodName) prog_59_method_11_code (2 : Nat) (Option.some Jvm.ClassFile.FieldType.int)]
set_option maxRecDepth 65536 in
theorem codes_eq : words1.filter isCode = codes1 := rfl
theorem w_codes : ∀ c ∈ words1.filter isCode, c.before args0 about1 = true := by
  rw [codes_eq]
  intro c hc
  simp only [codes1, List.mem_cons, List.not_mem_nil, or_false] at hc
  rcases hc with rfl | rfl
  · exact w_c0
  · exact w_c1
set_option maxRecDepth 65536 in
theorem w_t1 : words1.all (fun c => isCode c || c.before args0 about1) = true := by decide +kernel
theorem w_tables : (allAtoms (Jvm.Cond.code x code maxLocals ret :: tables_1)).before args0 about1 = true := by
  rw [allAtoms_all]
  show words1.all (fun c => c.before args0 about1) = true
  refine all_split ?_ w_codes
  rw [w_t1]
set_option maxRecDepth 65536 in
theorem w_case : (Jvm.Cond.and given_1 narrow_1).before args0 about1 = true := by decide +kernel
theorem w_applies : (headSpec (Jvm.Cond.code x code maxLocals ret :: tables_1) room_1).applies x e0.platform about1 = true :=
  (Spec.applies_iff w_frames).mpr ⟨w_running, w_runnable, w_alone, w_named, w_hears, w_ripe, w_room, w_tables⟩
theorem atStart : AtStart classFile x code maxLocals ret World_1 tables_1 room_1 Calls_1 rest_1 Pre_1 launch0 p0 e0 about1 theMethod args0 below0 :=
  ⟨lists_1, trivial, launch0.admits_env _ _ _, launch0.least_env, fairChoices_fair.cas, fairChoices_fair.clock, w_frames, w_args, w_heap, w_applies, trivial, trivial, w_case⟩
end start1
theorem witness_1 : WitnessClaimed_1 := ⟨start1.p0, start1.e0, start1.about1, start1.theMethod, start1.args0, start1.below0, start1.atStart⟩
end Jvm.Pilot.@@N@@
