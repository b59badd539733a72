import JvmDerived
import JvmDerived.Pilot.@@N@@Statement
import JvmDerived.Pilot.@@N@@Code
set_option linter.unusedVariables false
set_option linter.unusedSimpArgs false
namespace Jvm.RoadKit
open Sem ClassFile Op Lib Jvm.Stand Jvm.Free Jvm.LawKit
section New
variable {p : Program} {l : Launch} {e : Env} {R : Room} {s : State} {m : MethodId} {args : Array Value} {below : List Frame} {meth : Method} {c : Code} {T : State} {locs : List Loc} {cells slots : Nat}
theorem retI (X : Stand p l e R s m args below meth c T locs cells slots) (hx : p.tables.exec = Jvm.exec) {pc : Nat} {Ls : Array Slot} {z : Int32} {rest : List Value} (hret : meth.sig.returnType = some .int) (hd : decode c.code pc = .ok (.ireturn, 1)) {fs : List Frame}
    (hl : ∀ (f : JFrame) (acts : List Action), f.method = m → f.locked = none → f.entered = [] → (doReturn e (T.setTop f) acts (some (.int z))).1 = T.setFrames fs) : Steps p.tables e below (T.setTop (mkF m pc Ls (.int z :: rest))) (T.setFrames fs) := by
  have hm' : T.vm.method? m = some meth := X.method'
  have hn : narrow .int (.int z) = .int z := rfl
  show Steps p.tables e below (T.setTop { method := m, pc := pc, locals := Ls, stack := _ :: rest, locked := none }) _
  jvm_step X.here [X.here.top, hx, hd, hm', hret, hn]
  first | (intro acts; rw [hl _ acts rfl rfl rfl]) | rw [hl _ _ rfl rfl rfl]
  exact Steps.refl _
end New
end Jvm.RoadKit
namespace Jvm.Pilot.@@N@@
open Jvm Jvm.ClassFile Sem Op Lib Jvm.Free Jvm.Stand Jvm.LawKit Jvm.RoadKit Bundle Jvm.Pilot.@@N@@.Jvm.D
/-- the run from here ends well -/
def own_Go (tb : Tables) (e : Env) (below : List Frame) (P : Outcome → State → Prop) (T : State) (f : JFrame) : Prop := ∃ s₂ o, Steps tb e below (T.setTop f) s₂ ∧ s₂.status = .running ∧ Ended s₂ below o ∧ P o s₂
theorem own_go {tb : Tables} {e : Env} {below : List Frame} {P : Outcome → State → Prop} {T T' : State} {f f' : JFrame} (k : ∀ t, Steps tb e below (T'.setTop f') t → Steps tb e below (T.setTop f) t) (h : own_Go tb e below P T' f') : own_Go tb e below P T f := by
  obtain ⟨s₂, o, h1, h2⟩ := h
  exact ⟨s₂, o, k _ h1, h2⟩
theorem own_keep1 {h0 h h' : Heap} {ws : List Addr} {b : Addr} (K : Keep h0 h ws) (K' : Keep h h' [b]) (q : h0.size ≤ b) : Keep h0 h' ws := K.trans K' fun x hx => Or.inr (by cases List.mem_singleton.mp hx; exact q)
theorem own_eqi {a b : Term} {args : Array Value} {first s : State} {o : Option Outcome} {idx : List Nat} {y : Int32} (h : (Jvm.Cond.eq a b).value args first o s idx = some true) (hb : b.eval args first o idx s = some (.int y)) : a.eval args first o idx s = some (.int y) := by
  cases ha : a.eval args first o idx s with
  | none => simp [Cond.value, ha] at h
  | some x => cases x <;> simp [Cond.value, ha, hb] at h; subst h; rfl
theorem own_not1 {a b : Addr} (q : a ≠ b) : a ∉ [b] := fun h => q (List.mem_singleton.mp h)
def own_PW (s : State) (Q : Option Value → Heap → List Loc → Prop) (k n : Nat) (o : Outcome) (U : State) : Prop := ∃ v L, o = .returned v ∧ Q v U.heap L ∧ ReturnedEndW s o U L k n
def own_P (s : State) (Q : Option Value → Heap → List Loc → Prop) (k n : Nat) (o : Outcome) (U : State) : Prop := ∃ v L, o = .returned v ∧ Q v U.heap L ∧ FrameEnd s o U L k n
theorem own_i64 (x : Int32) : x.toInt64.toInt = x.toInt := by simp
def own_lv (L0 L1 L2 L3 L4 : Nat) (t : Int64) (m j s : Int32) : Nat := if t = 0 then L0 else if m.toInt64 < t then if j.toInt64 < t then if s.toInt64 < t then L4 else L3 else L2 else L1
def own_rk (L0 L1 L2 L3 L4 x : Nat) : Int32 := if x = L0 then 0 else if x = L1 then 1 else if x = L2 then 2 else if x = L3 then 3 else if x = L4 then 4 else -1
def own_i1 (t : Int64) : Int32 := if t < 1 then 0 else 1
def own_i2 (t : Int64) (m : Int32) : Int32 := if m.toInt64 < t then 1 else 0
theorem own_lv_rk {L0 L1 L2 L3 L4 : Nat} (h01 : L1 ≠ L0) (h02 : L2 ≠ L0) (h03 : L3 ≠ L0) (h04 : L4 ≠ L0) (h12 : L2 ≠ L1) (h13 : L3 ≠ L1) (h14 : L4 ≠ L1) (h23 : L3 ≠ L2) (h24 : L4 ≠ L2) (h34 : L4 ≠ L3)
    {t : Int64} {m j s : Int32} (ht : ¬ t < 0) (hm : 0 < m.toInt) (hmj : m < j) (hjs : j < s) :
    own_rk L0 L1 L2 L3 L4 (own_lv L0 L1 L2 L3 L4 t m j s) = own_i1 t + own_i2 t m + own_i2 t j + own_i2 t s := by
  rw [Int64.lt_iff_toInt_lt, Int64.toInt_zero] at ht
  rw [Int32.lt_iff_toInt_lt] at hmj hjs
  have c1 : t < 1 ↔ t.toInt < 1 := by rw [Int64.lt_iff_toInt_lt, show (1 : Int64).toInt = 1 from by decide]
  have c0 : t = 0 ↔ t.toInt = 0 := by rw [← Int64.toInt_inj, Int64.toInt_zero]
  have cm : ∀ x : Int32, x.toInt64 < t ↔ x.toInt < t.toInt := fun x => by rw [Int64.lt_iff_toInt_lt, own_i64]
  unfold own_rk own_lv own_i1 own_i2
  simp only [c1, c0, cm]
  by_cases a : t.toInt = 0
  · rw [if_pos a, if_pos rfl, if_pos (by omega), if_neg (by omega), if_neg (by omega), if_neg (by omega)]; rfl
  · rw [if_neg a, if_neg (by omega : ¬ t.toInt < 1)]
    by_cases b : m.toInt < t.toInt
    · rw [if_pos b, if_pos b]
      by_cases c : j.toInt < t.toInt
      · rw [if_pos c, if_pos c]
        by_cases d : s.toInt < t.toInt
        · rw [if_pos d, if_pos d, if_neg h04, if_neg h14, if_neg h24, if_neg h34, if_pos rfl]; rfl
        · rw [if_neg d, if_neg d, if_neg h03, if_neg h13, if_neg h23, if_pos rfl]; rfl
      · rw [if_neg c, if_neg c, if_neg (by omega : ¬ s.toInt < t.toInt), if_neg h02, if_neg h12, if_pos rfl]; rfl
    · rw [if_neg b, if_neg b, if_neg (by omega : ¬ j.toInt < t.toInt), if_neg (by omega : ¬ s.toInt < t.toInt), if_neg h01, if_pos rfl]; rfl
theorem own_mask (x m : Int32) (hm : m.toBitVec.toNat < 2 ^ 31) : 0 ≤ (x &&& m).toInt ∧ (x &&& m).toInt ≤ m.toInt := by
  have h1 : (x &&& m).toBitVec.toNat ≤ m.toBitVec.toNat := by rw [Int32.toBitVec_and, BitVec.toNat_and]; exact Nat.and_le_right
  have e1 : (x &&& m).toInt = (x &&& m).toBitVec.toNat := BitVec.toInt_eq_toNat_of_lt (by omega)
  have e2 : m.toInt = m.toBitVec.toNat := BitVec.toInt_eq_toNat_of_lt (by omega)
  rw [e1, e2]; omega
theorem own_add {x y : Int32} (h1 : -2147483648 ≤ x.toInt + y.toInt) (h2 : x.toInt + y.toInt < 2147483648) : (x + y).toInt = x.toInt + y.toInt := by
  rw [Int32.toInt_add, Int.bmod_eq_of_le] <;> omega
theorem own_one32 : (1 : Int32).toInt = 1 := by decide
theorem own_ranks (a b c m1 m2 m3 : Int32) (h1 : m1.toBitVec.toNat < 2 ^ 29) (h2 : m2.toBitVec.toNat < 2 ^ 29) (h3 : m3.toBitVec.toNat < 2 ^ 29) :
    0 < ((1 : Int32) + (a &&& m1)).toInt ∧ ((1 : Int32) + (a &&& m1)) < (((1 : Int32) + (a &&& m1)) + 1) + (b &&& m2) ∧ (((1 : Int32) + (a &&& m1)) + 1) + (b &&& m2) < ((((1 : Int32) + (a &&& m1)) + 1) + (b &&& m2) + 1) + (c &&& m3) := by
  have q1 := own_mask a m1 (by omega); have q2 := own_mask b m2 (by omega); have q3 := own_mask c m3 (by omega)
  have e1 : m1.toInt = m1.toBitVec.toNat := BitVec.toInt_eq_toNat_of_lt (by omega)
  have e2 : m2.toInt = m2.toBitVec.toNat := BitVec.toInt_eq_toNat_of_lt (by omega)
  have e3 : m3.toInt = m3.toBitVec.toNat := BitVec.toInt_eq_toNat_of_lt (by omega)
  have o := own_one32
  have a1 : ((1 : Int32) + (a &&& m1)).toInt = 1 + (a &&& m1).toInt := by rw [own_add] <;> omega
  generalize ((1 : Int32) + (a &&& m1)) = r1 at *
  have a2 : (r1 + 1).toInt = r1.toInt + 1 := by rw [own_add] <;> omega
  have a3 : (r1 + 1 + (b &&& m2)).toInt = r1.toInt + 1 + (b &&& m2).toInt := by rw [own_add] <;> omega
  generalize (r1 + 1 + (b &&& m2)) = r2 at *
  have a4 : (r2 + 1).toInt = r2.toInt + 1 := by rw [own_add] <;> omega
  have a5 : (r2 + 1 + (c &&& m3)).toInt = r2.toInt + 1 + (c &&& m3).toInt := by rw [own_add] <;> omega
  refine ⟨by omega, ?_, ?_⟩ <;> rw [Int32.lt_iff_toInt_lt] <;> omega
theorem d2_0 : decode jdk_30_method_1_code 0 = .ok (.aload_n 0, 1) := by decide +kernel
theorem d2_1 : decode jdk_30_method_1_code 1 = .ok (.invokespecial 1, 3) := by decide +kernel
theorem d2_4 : decode jdk_30_method_1_code 4 = .ok (.return_, 1) := by decide +kernel
theorem pn_0 : plainName "java/lang/Record" = true := by first | (simp [plainName, overriddenIn]; done) | decide +kernel
theorem ef_2 (m : MethodId) {a1 : Addr} : entryFrame m #[(.ref a1)] 1 = mkF m 0 #[.val (.ref a1)] [] := by first | (simp [entryFrame, mkF, argsToLocals, Value.category]; done) | rfl
def Q2 (Z : State) (a1 : Addr) (h0 : Heap) (n0 : Nat) (v : Option Value) (h : Heap) (L : List Loc) : Prop := v = none ∧ Fr n0 L ∧ h = h0
set_option maxRecDepth 65536 in
set_option maxHeartbeats 40000000 in
theorem rm2 (l : Launch) (Z : State) (a0 : Array Value) (hw : ∀ d ∈ tables_1, d.before a0 Z = true) (ws : List Jvm.Cond) (a1 : Addr) (h0 : Heap) (n0 : Nat) (Z0 : n0 ≤ h0.size) :
    MetFree l (⟨"java/lang/Record", "<init>", "()V"⟩ : MethodName) (head1 (Jvm.Cond.code (⟨"java/lang/Record", "<init>", "()V"⟩ : MethodName) jdk_30_method_1_code 1 none :: ws) ({ frames := 1, cells := 0, slots := 0, locals := 12 } : Room)) (fun a U => a = #[(.ref a1)] ∧ Z.Warmed39 U.vm ∧ U.heap = h0) (fun _ _ _ _ _ => True) (fun _ U o U' => ∃ v L, o = .returned v ∧ Q2 Z a1 h0 n0 v U'.heap L ∧ FrameEnd U o U' L (({ frames := 1, cells := 0, slots := 0, locals := 12 } : Room)).cells (({ frames := 1, cells := 0, slots := 0, locals := 12 } : Room)).slots) := by
  refine MetFree.of_bodySF (plainFor_of_name pn_0) hisR ?_
  intro p e s m args below meth c s₁ Bd hml0 hP hK
  obtain ⟨rfl, hZ, hh⟩ := hP
  have hx := Bd.exec
  have hby := Bd.bytes
  have hml : c.maxLocals = 1 := hml0
  have hown : s.vm.findClass "java/lang/Record" = some m.cls := findClass_of_methodNamed Bd.named
  have hnm := (name_of_methodNamed Bd.named Bd.method).1
  have X0 : Stand p l e ({ frames := 1, cells := 0, slots := 0, locals := 12 } : Room) s m #[(.ref a1)] below meth c s₁ [] 0 0 := Stand.of_body Bd
  have e0 : s₁.heap = h0 := by rw [← hh, Bd.state]; rfl
  have N0 := Fr.nil n0
  show own_Go p.tables e below (own_P s (Q2 Z a1 h0 n0) ({ frames := 1, cells := 0, slots := 0, locals := 12 } : Room).cells ({ frames := 1, cells := 0, slots := 0, locals := 12 } : Room).slots) s₁ _
  rw [ef_2]
  show own_Go p.tables e below _ s₁ (mkF m 0 #[.val (.ref a1)] [])
  refine own_go (fun tz kz => XS.aloadN X0.here hx rfl (hb hby d2_0) rfl rfl kz) ?_
  show own_Go p.tables e below _ s₁ (mkF m 1 #[.val (.ref a1)] [(.ref a1)])
  obtain ⟨T1, X1, e1, st1⟩ := initO X0 hx hZ hown (hw _ (List.mem_of_getElem? (i := 12) rfl)) (hw _ (List.mem_of_getElem? (i := 13) rfl)) (hw _ (List.mem_of_getElem? (i := 14) rfl)) e0 (g := (mkF m 1 #[.val (.ref a1)] [(.ref a1)])) rfl (by rw [hml]; rfl) rfl (hb hby d2_1) (by decide) (W := 0) (by show 2 * 0 + _ ≤ _; exact Nat.le_of_eq rfl) (by decide)
  refine own_go st1 ?_
  show own_Go p.tables e below _ T1 (mkF m 4 #[.val (.ref a1)] [])
  obtain ⟨fs, hr, hrun, hended, hW, hsame⟩ := X1.leave (v := none) (fun _ => rfl) (BodyLoose.notSynchronized Bd)
  refine ⟨_, _, ?_, hrun, hended, _, _, rfl, ?_, ⟨_, rfl⟩, hW, hsame.mono (by decide) (by decide)⟩
  · exact X1.returnOut hx Bd.returns (hb hby d2_4) hr
  · show Q2 Z a1 h0 n0 _ T1.heap _
    rw [e1]
    exact ⟨rfl, N0, rfl⟩
theorem d1_0 : decode prog_97_method_1_code 0 = .ok (.aload_n 0, 1) := by decide +kernel
theorem d1_1 : decode prog_97_method_1_code 1 = .ok (.invokespecial 1, 3) := by decide +kernel
theorem d1_4 : decode prog_97_method_1_code 4 = .ok (.iload_n 1, 1) := by decide +kernel
theorem d1_5 : decode prog_97_method_1_code 5 = .ok (.iconst 1, 1) := by decide +kernel
theorem d1_6 : decode prog_97_method_1_code 6 = .ok (.if_icmp .lt 13, 3) := by decide +kernel
theorem d1_9 : decode prog_97_method_1_code 9 = .ok (.iload_n 2, 1) := by decide +kernel
theorem d1_10 : decode prog_97_method_1_code 10 = .ok (.iload_n 1, 1) := by decide +kernel
theorem d1_11 : decode prog_97_method_1_code 11 = .ok (.if_icmp .le 8, 3) := by decide +kernel
theorem d1_14 : decode prog_97_method_1_code 14 = .ok (.iload_n 3, 1) := by decide +kernel
theorem d1_15 : decode prog_97_method_1_code 15 = .ok (.iload_n 2, 1) := by decide +kernel
theorem d1_16 : decode prog_97_method_1_code 16 = .ok (.if_icmp .gt 19, 3) := by decide +kernel
theorem d1_19 : decode prog_97_method_1_code 19 = .ok (.new 7, 3) := by decide +kernel
theorem d1_22 : decode prog_97_method_1_code 22 = .ok (.dup, 1) := by decide +kernel
theorem d1_23 : decode prog_97_method_1_code 23 = .ok (.iload_n 1, 1) := by decide +kernel
theorem d1_24 : decode prog_97_method_1_code 24 = .ok (.iload_n 2, 1) := by decide +kernel
theorem d1_25 : decode prog_97_method_1_code 25 = .ok (.iload_n 3, 1) := by decide +kernel
theorem d1_26 : decode prog_97_method_1_code 26 = .ok (.invokedynamic 9, 5) := by decide +kernel
theorem d1_31 : decode prog_97_method_1_code 31 = .ok (.invokespecial 13, 3) := by decide +kernel
theorem d1_34 : decode prog_97_method_1_code 34 = .ok (.athrow, 1) := by decide +kernel
theorem d1_35 : decode prog_97_method_1_code 35 = .ok (.aload_n 0, 1) := by decide +kernel
theorem d1_36 : decode prog_97_method_1_code 36 = .ok (.iload_n 1, 1) := by decide +kernel
theorem d1_37 : decode prog_97_method_1_code 37 = .ok (.putfield 16, 3) := by decide +kernel
theorem d1_40 : decode prog_97_method_1_code 40 = .ok (.aload_n 0, 1) := by decide +kernel
theorem d1_41 : decode prog_97_method_1_code 41 = .ok (.iload_n 2, 1) := by decide +kernel
theorem d1_42 : decode prog_97_method_1_code 42 = .ok (.putfield 22, 3) := by decide +kernel
theorem d1_45 : decode prog_97_method_1_code 45 = .ok (.aload_n 0, 1) := by decide +kernel
theorem d1_46 : decode prog_97_method_1_code 46 = .ok (.iload_n 3, 1) := by decide +kernel
theorem d1_47 : decode prog_97_method_1_code 47 = .ok (.putfield 25, 3) := by decide +kernel
theorem d1_50 : decode prog_97_method_1_code 50 = .ok (.return_, 1) := by decide +kernel
theorem pd_0 : parseMethodDescriptor "()V" = some ⟨[], none⟩ := by decide +kernel
theorem pn_1 : plainName "com/example/gunline/gunline/core/SeverityLevels" = true := by first | (simp [plainName, overriddenIn]; done) | decide +kernel
theorem ef_1 (m : MethodId) {a1 : Addr} {p2 : Int32} {p3 : Int32} {p4 : Int32} : entryFrame m #[(.ref a1), (.int p2), (.int p3), (.int p4)] 4 = mkF m 0 #[.val (.ref a1), .val (.int p2), .val (.int p3), .val (.int p4)] [] := by first | (simp [entryFrame, mkF, argsToLocals, Value.category]; done) | rfl
def Q1 (Z : State) (a1 : Addr) (p2 : Int32) (p3 : Int32) (p4 : Int32) (u_minorTo : Value) (u_majorTo : Value) (u_severeTo : Value) (h0 : Heap) (n0 : Nat) (v : Option Value) (h : Heap) (L : List Loc) : Prop := v = none ∧ Fr n0 L ∧ Keep h0 h [a1] ∧ Exa Z h a1 "com/example/gunline/gunline/core/SeverityLevels" ∧ Fld Z h a1 "com/example/gunline/gunline/core/SeverityLevels" "minorTo" "I" (.int p2) ∧ Fld Z h a1 "com/example/gunline/gunline/core/SeverityLevels" "majorTo" "I" (.int p3) ∧ Fld Z h a1 "com/example/gunline/gunline/core/SeverityLevels" "severeTo" "I" (.int p4)
set_option maxRecDepth 65536 in
set_option maxHeartbeats 40000000 in
theorem rm1 (l : Launch) (Z : State) (a0 : Array Value) (hw : ∀ d ∈ tables_1, d.before a0 Z = true) (ws : List Jvm.Cond) (a1 : Addr) (p2 : Int32) (p3 : Int32) (p4 : Int32) (u_minorTo : Value) (u_majorTo : Value) (u_severeTo : Value) (h0 : Heap) (n0 : Nat) (Z0 : n0 ≤ h0.size) (F_minorTo : Fld Z h0 a1 "com/example/gunline/gunline/core/SeverityLevels" "minorTo" "I" u_minorTo) (F_majorTo : Fld Z h0 a1 "com/example/gunline/gunline/core/SeverityLevels" "majorTo" "I" u_majorTo) (F_severeTo : Fld Z h0 a1 "com/example/gunline/gunline/core/SeverityLevels" "severeTo" "I" u_severeTo) (Ex : Exa Z h0 a1 "com/example/gunline/gunline/core/SeverityLevels") (g : n0 ≤ a1) (h1 : ¬ p2 < 1) (h2 : p2 < p3) (h3 : p3 < p4) :
    MetFree l (⟨"com/example/gunline/gunline/core/SeverityLevels", "<init>", "(III)V"⟩ : MethodName) (head1 (Jvm.Cond.code (⟨"com/example/gunline/gunline/core/SeverityLevels", "<init>", "(III)V"⟩ : MethodName) prog_97_method_1_code 4 none :: ws) ({ frames := 2, cells := 0, slots := 0, locals := 24 } : Room)) (fun a U => a = #[(.ref a1), (.int p2), (.int p3), (.int p4)] ∧ Z.Warmed39 U.vm ∧ U.heap = h0) (fun _ _ _ _ _ => True) (fun _ U o U' => ∃ v L, o = .returned v ∧ Q1 Z a1 p2 p3 p4 u_minorTo u_majorTo u_severeTo h0 n0 v U'.heap L ∧ FrameEnd U o U' L (({ frames := 2, cells := 0, slots := 0, locals := 24 } : Room)).cells (({ frames := 2, cells := 0, slots := 0, locals := 24 } : Room)).slots) := by
  refine MetFree.of_bodySF (plainFor_of_name pn_1) hisR ?_
  intro p e s m args below meth c s₁ Bd hml0 hP hK
  obtain ⟨rfl, hZ, hh⟩ := hP
  have hx := Bd.exec
  have hby := Bd.bytes
  have hml : c.maxLocals = 4 := hml0
  have hown : s.vm.findClass "com/example/gunline/gunline/core/SeverityLevels" = some m.cls := findClass_of_methodNamed Bd.named
  have hnm := (name_of_methodNamed Bd.named Bd.method).1
  have X0 : Stand p l e ({ frames := 2, cells := 0, slots := 0, locals := 24 } : Room) s m #[(.ref a1), (.int p2), (.int p3), (.int p4)] below meth c s₁ [] 0 0 := Stand.of_body Bd
  have e0 : s₁.heap = h0 := by rw [← hh, Bd.state]; rfl
  have N0 := Fr.nil n0
  show own_Go p.tables e below (own_P s (Q1 Z a1 p2 p3 p4 u_minorTo u_majorTo u_severeTo h0 n0) ({ frames := 2, cells := 0, slots := 0, locals := 24 } : Room).cells ({ frames := 2, cells := 0, slots := 0, locals := 24 } : Room).slots) s₁ _
  rw [ef_1]
  show own_Go p.tables e below _ s₁ (mkF m 0 #[.val (.ref a1), .val (.int p2), .val (.int p3), .val (.int p4)] [])
  refine own_go (fun tz kz => XS.aloadN X0.here hx rfl (hb hby d1_0) rfl rfl kz) ?_
  show own_Go p.tables e below _ s₁ (mkF m 1 #[.val (.ref a1), .val (.int p2), .val (.int p3), .val (.int p4)] [(.ref a1)])
  obtain ⟨_, _, ⟨T1, L1, k1, n1⟩, -, X1, ⟨Lc1, hQ1, l1, y1, z1⟩, st1⟩ := X0.specialBack hx (y := (⟨"java/lang/Record", "<init>", "()V"⟩ : MethodName)) rfl hown (mvT hZ (hw _ (List.mem_of_getElem? (i := 7) rfl))) (mvT hZ (hw _ (List.mem_of_getElem? (i := 8) rfl))) (mvT hZ (hw _ (List.mem_of_getElem? (i := 11) rfl))) (by decide) (backOf (W := 0) (rm2 l Z a0 hw [] a1 h0 n0 Z0) hZ (hw _ (List.mem_of_getElem? (i := 11) rfl)) (hw _ (List.mem_of_getElem? (i := 10) rfl)) (by decide) (by decide)) (g := (mkF m 1 #[.val (.ref a1), .val (.int p2), .val (.int p3), .val (.int p4)] [(.ref a1)])) rfl (by rw [hml]; rfl) (Steps.refl _) (a := a1) (argsL := []) (rest := []) (lenOf pd_0 rfl) rfl (by show 2 * 0 + _ ≤ _; exact Nat.le_of_eq rfl) (hb hby d1_1) (fun _ _ => ⟨rfl, e0, (by decide : 0 + 0 ≤ _), (by decide : 0 + 0 ≤ _)⟩)
  dsimp only [Pt.U, Pt.locs, Pt.cells, Pt.slots] at X1 l1 y1 z1 st1 hQ1
  subst l1 y1 z1
  obtain ⟨rfl, N1q, e1⟩ := hQ1
  have N1 := Fr.app N0 N1q
  refine own_go (fun tz kz => st1.trans kz) ?_
  show own_Go p.tables e below _ T1 (mkF m 4 #[.val (.ref a1), .val (.int p2), .val (.int p3), .val (.int p4)] [])
  refine own_go (fun tz kz => XS.iloadN X1.here hx rfl (hb hby d1_4) rfl kz) ?_
  show own_Go p.tables e below _ T1 (mkF m 5 #[.val (.ref a1), .val (.int p2), .val (.int p3), .val (.int p4)] [(.int p2)])
  refine own_go (fun tz kz => XS.iconst X1.here hx rfl (hb hby d1_5) kz) ?_
  show own_Go p.tables e below _ T1 (mkF m 6 #[.val (.ref a1), .val (.int p2), .val (.int p3), .val (.int p4)] [(.int (1 : Int32)), (.int p2)])
  refine own_go (fun tz kz => XS.icmpNo X1.here hx rfl (hb hby d1_6) rfl (XT.ii_lt_f h1) kz) ?_
  show own_Go p.tables e below _ T1 (mkF m 9 #[.val (.ref a1), .val (.int p2), .val (.int p3), .val (.int p4)] [])
  refine own_go (fun tz kz => XS.iloadN X1.here hx rfl (hb hby d1_9) rfl kz) ?_
  show own_Go p.tables e below _ T1 (mkF m 10 #[.val (.ref a1), .val (.int p2), .val (.int p3), .val (.int p4)] [(.int p3)])
  refine own_go (fun tz kz => XS.iloadN X1.here hx rfl (hb hby d1_10) rfl kz) ?_
  show own_Go p.tables e below _ T1 (mkF m 11 #[.val (.ref a1), .val (.int p2), .val (.int p3), .val (.int p4)] [(.int p2), (.int p3)])
  refine own_go (fun tz kz => XS.icmpNo X1.here hx rfl (hb hby d1_11) rfl (XT.ii_le_f h2) kz) ?_
  show own_Go p.tables e below _ T1 (mkF m 14 #[.val (.ref a1), .val (.int p2), .val (.int p3), .val (.int p4)] [])
  refine own_go (fun tz kz => XS.iloadN X1.here hx rfl (hb hby d1_14) rfl kz) ?_
  show own_Go p.tables e below _ T1 (mkF m 15 #[.val (.ref a1), .val (.int p2), .val (.int p3), .val (.int p4)] [(.int p4)])
  refine own_go (fun tz kz => XS.iloadN X1.here hx rfl (hb hby d1_15) rfl kz) ?_
  show own_Go p.tables e below _ T1 (mkF m 16 #[.val (.ref a1), .val (.int p2), .val (.int p3), .val (.int p4)] [(.int p3), (.int p4)])
  refine own_go (fun tz kz => XS.icmpYes X1.here hx rfl (pc0 := 16) (pc' := 35) rfl (hb hby d1_16) rfl (XT.ii_gt_t h3) (by decide) (by decide) kz) ?_
  show own_Go p.tables e below _ T1 (mkF m 35 #[.val (.ref a1), .val (.int p2), .val (.int p3), .val (.int p4)] [])
  refine own_go (fun tz kz => XS.aloadN X1.here hx rfl (hb hby d1_35) rfl rfl kz) ?_
  show own_Go p.tables e below _ T1 (mkF m 36 #[.val (.ref a1), .val (.int p2), .val (.int p3), .val (.int p4)] [(.ref a1)])
  refine own_go (fun tz kz => XS.iloadN X1.here hx rfl (hb hby d1_36) rfl kz) ?_
  show own_Go p.tables e below _ T1 (mkF m 37 #[.val (.ref a1), .val (.int p2), .val (.int p3), .val (.int p4)] [(.int p2), (.ref a1)])
  obtain ⟨T2, h2, X2, e2, W2, st2⟩ := putF X1 hx hZ hown (host := "") (Or.inl (hw _ (List.mem_of_getElem? (i := 15) rfl))) Via.refl e1 F_minorTo Ex (Or.inr ⟨(hw _ (List.mem_of_getElem? (i := 16) rfl)), rfl, hnm⟩) (hw _ (List.mem_of_getElem? (i := 2) rfl)) (ty := .int) (by decide) rfl rfl (g := (mkF m 37 #[.val (.ref a1), .val (.int p2), .val (.int p3), .val (.int p4)] [(.int p2), (.ref a1)])) rfl rfl (hb hby d1_37)
  have Fw2 := F_minorTo.same W2
  have N2 := Fr.snoc X2 N1 g
  refine own_go st2 ?_
  show own_Go p.tables e below _ T2 (mkF m 40 #[.val (.ref a1), .val (.int p2), .val (.int p3), .val (.int p4)] [])
  refine own_go (fun tz kz => XS.aloadN X2.here hx rfl (hb hby d1_40) rfl rfl kz) ?_
  show own_Go p.tables e below _ T2 (mkF m 41 #[.val (.ref a1), .val (.int p2), .val (.int p3), .val (.int p4)] [(.ref a1)])
  refine own_go (fun tz kz => XS.iloadN X2.here hx rfl (hb hby d1_41) rfl kz) ?_
  show own_Go p.tables e below _ T2 (mkF m 42 #[.val (.ref a1), .val (.int p2), .val (.int p3), .val (.int p4)] [(.int p3), (.ref a1)])
  obtain ⟨T3, h3, X3, e3, W3, st3⟩ := putF X2 hx hZ hown (host := "") (Or.inl (hw _ (List.mem_of_getElem? (i := 17) rfl))) Via.refl e2 (F_majorTo.other W2 (Or.inr (slot_ne (Or.inr (hw _ (List.mem_of_getElem? (i := 18) rfl))) (Or.inr (hw _ (List.mem_of_getElem? (i := 16) rfl))) (by decide) (t := .int) (t' := .int) (by decide) (by decide)))) (Ex.wr W2) (Or.inr ⟨(hw _ (List.mem_of_getElem? (i := 18) rfl)), rfl, hnm⟩) (hw _ (List.mem_of_getElem? (i := 2) rfl)) (ty := .int) (by decide) rfl rfl (g := (mkF m 42 #[.val (.ref a1), .val (.int p2), .val (.int p3), .val (.int p4)] [(.int p3), (.ref a1)])) rfl rfl (hb hby d1_42)
  have Fw3 := (F_majorTo.other W2 (Or.inr (slot_ne (Or.inr (hw _ (List.mem_of_getElem? (i := 18) rfl))) (Or.inr (hw _ (List.mem_of_getElem? (i := 16) rfl))) (by decide) (t := .int) (t' := .int) (by decide) (by decide)))).same W3
  have N3 := Fr.snoc X3 N2 g
  refine own_go st3 ?_
  show own_Go p.tables e below _ T3 (mkF m 45 #[.val (.ref a1), .val (.int p2), .val (.int p3), .val (.int p4)] [])
  refine own_go (fun tz kz => XS.aloadN X3.here hx rfl (hb hby d1_45) rfl rfl kz) ?_
  show own_Go p.tables e below _ T3 (mkF m 46 #[.val (.ref a1), .val (.int p2), .val (.int p3), .val (.int p4)] [(.ref a1)])
  refine own_go (fun tz kz => XS.iloadN X3.here hx rfl (hb hby d1_46) rfl kz) ?_
  show own_Go p.tables e below _ T3 (mkF m 47 #[.val (.ref a1), .val (.int p2), .val (.int p3), .val (.int p4)] [(.int p4), (.ref a1)])
  obtain ⟨T4, h4, X4, e4, W4, st4⟩ := putF X3 hx hZ hown (host := "") (Or.inl (hw _ (List.mem_of_getElem? (i := 19) rfl))) Via.refl e3 ((F_severeTo.other W2 (Or.inr (slot_ne (Or.inr (hw _ (List.mem_of_getElem? (i := 20) rfl))) (Or.inr (hw _ (List.mem_of_getElem? (i := 16) rfl))) (by decide) (t := .int) (t' := .int) (by decide) (by decide)))).other W3 (Or.inr (slot_ne (Or.inr (hw _ (List.mem_of_getElem? (i := 20) rfl))) (Or.inr (hw _ (List.mem_of_getElem? (i := 18) rfl))) (by decide) (t := .int) (t' := .int) (by decide) (by decide)))) ((Ex.wr W2).wr W3) (Or.inr ⟨(hw _ (List.mem_of_getElem? (i := 20) rfl)), rfl, hnm⟩) (hw _ (List.mem_of_getElem? (i := 2) rfl)) (ty := .int) (by decide) rfl rfl (g := (mkF m 47 #[.val (.ref a1), .val (.int p2), .val (.int p3), .val (.int p4)] [(.int p4), (.ref a1)])) rfl rfl (hb hby d1_47)
  have Fw4 := ((F_severeTo.other W2 (Or.inr (slot_ne (Or.inr (hw _ (List.mem_of_getElem? (i := 20) rfl))) (Or.inr (hw _ (List.mem_of_getElem? (i := 16) rfl))) (by decide) (t := .int) (t' := .int) (by decide) (by decide)))).other W3 (Or.inr (slot_ne (Or.inr (hw _ (List.mem_of_getElem? (i := 20) rfl))) (Or.inr (hw _ (List.mem_of_getElem? (i := 18) rfl))) (by decide) (t := .int) (t' := .int) (by decide) (by decide)))).same W4
  have N4 := Fr.snoc X4 N3 g
  refine own_go st4 ?_
  show own_Go p.tables e below _ T4 (mkF m 50 #[.val (.ref a1), .val (.int p2), .val (.int p3), .val (.int p4)] [])
  obtain ⟨fs, hr, hrun, hended, hW, hsame⟩ := X4.leave (v := none) (fun _ => rfl) (BodyLoose.notSynchronized Bd)
  refine ⟨_, _, ?_, hrun, hended, _, _, rfl, ?_, ⟨_, rfl⟩, hW, hsame.mono (by decide) (by decide)⟩
  · exact X4.returnOut hx Bd.returns (hb hby d1_50) hr
  · show Q1 Z a1 p2 p3 p4 u_minorTo u_majorTo u_severeTo h0 n0 _ T4.heap _
    rw [e4]
    exact ⟨rfl, N4, ((((Keep.refl _ _).wr W2 (Or.inl (List.mem_of_getElem? (i := 0) rfl))).wr W3 (Or.inl (List.mem_of_getElem? (i := 0) rfl))).wr W4 (Or.inl (List.mem_of_getElem? (i := 0) rfl))), (((Ex.wr W2).wr W3).wr W4), ((Fw2.other W3 (Or.inr (slot_ne (Or.inr (hw _ (List.mem_of_getElem? (i := 16) rfl))) (Or.inr (hw _ (List.mem_of_getElem? (i := 18) rfl))) (by decide) (t := .int) (t' := .int) (by decide) (by decide)))).other W4 (Or.inr (slot_ne (Or.inr (hw _ (List.mem_of_getElem? (i := 16) rfl))) (Or.inr (hw _ (List.mem_of_getElem? (i := 20) rfl))) (by decide) (t := .int) (t' := .int) (by decide) (by decide)))), (Fw3.other W4 (Or.inr (slot_ne (Or.inr (hw _ (List.mem_of_getElem? (i := 18) rfl))) (Or.inr (hw _ (List.mem_of_getElem? (i := 20) rfl))) (by decide) (t := .int) (t' := .int) (by decide) (by decide)))), Fw4⟩
theorem d4_0 : decode prog_97_method_3_code 0 = .ok (.lload_n 1, 1) := by decide +kernel
theorem d4_1 : decode prog_97_method_3_code 1 = .ok (.lconst 0, 1) := by decide +kernel
theorem d4_2 : decode prog_97_method_3_code 2 = .ok (.lcmp, 1) := by decide +kernel
theorem d4_3 : decode prog_97_method_3_code 3 = .ok (.ifCond .ge 17, 3) := by decide +kernel
theorem d4_6 : decode prog_97_method_3_code 6 = .ok (.new 7, 3) := by decide +kernel
theorem d4_9 : decode prog_97_method_3_code 9 = .ok (.dup, 1) := by decide +kernel
theorem d4_10 : decode prog_97_method_3_code 10 = .ok (.lload_n 1, 1) := by decide +kernel
theorem d4_11 : decode prog_97_method_3_code 11 = .ok (.invokedynamic 28, 5) := by decide +kernel
theorem d4_16 : decode prog_97_method_3_code 16 = .ok (.invokespecial 13, 3) := by decide +kernel
theorem d4_19 : decode prog_97_method_3_code 19 = .ok (.athrow, 1) := by decide +kernel
theorem d4_20 : decode prog_97_method_3_code 20 = .ok (.lload_n 1, 1) := by decide +kernel
theorem d4_21 : decode prog_97_method_3_code 21 = .ok (.lconst 0, 1) := by decide +kernel
theorem d4_22 : decode prog_97_method_3_code 22 = .ok (.lcmp, 1) := by decide +kernel
theorem d4_23 : decode prog_97_method_3_code 23 = .ok (.ifCond .ne 7, 3) := by decide +kernel
theorem d4_26 : decode prog_97_method_3_code 26 = .ok (.getstatic 31, 3) := by decide +kernel
theorem d4_29 : decode prog_97_method_3_code 29 = .ok (.areturn, 1) := by decide +kernel
theorem d4_30 : decode prog_97_method_3_code 30 = .ok (.lload_n 1, 1) := by decide +kernel
theorem d4_31 : decode prog_97_method_3_code 31 = .ok (.aload_n 0, 1) := by decide +kernel
theorem d4_32 : decode prog_97_method_3_code 32 = .ok (.getfield 16, 3) := by decide +kernel
theorem d4_35 : decode prog_97_method_3_code 35 = .ok (.i2l, 1) := by decide +kernel
theorem d4_36 : decode prog_97_method_3_code 36 = .ok (.lcmp, 1) := by decide +kernel
theorem d4_37 : decode prog_97_method_3_code 37 = .ok (.ifCond .gt 7, 3) := by decide +kernel
theorem d4_40 : decode prog_97_method_3_code 40 = .ok (.getstatic 37, 3) := by decide +kernel
theorem d4_43 : decode prog_97_method_3_code 43 = .ok (.areturn, 1) := by decide +kernel
theorem d4_44 : decode prog_97_method_3_code 44 = .ok (.lload_n 1, 1) := by decide +kernel
theorem d4_45 : decode prog_97_method_3_code 45 = .ok (.aload_n 0, 1) := by decide +kernel
theorem d4_46 : decode prog_97_method_3_code 46 = .ok (.getfield 22, 3) := by decide +kernel
theorem d4_49 : decode prog_97_method_3_code 49 = .ok (.i2l, 1) := by decide +kernel
theorem d4_50 : decode prog_97_method_3_code 50 = .ok (.lcmp, 1) := by decide +kernel
theorem d4_51 : decode prog_97_method_3_code 51 = .ok (.ifCond .gt 7, 3) := by decide +kernel
theorem d4_54 : decode prog_97_method_3_code 54 = .ok (.getstatic 40, 3) := by decide +kernel
theorem d4_57 : decode prog_97_method_3_code 57 = .ok (.areturn, 1) := by decide +kernel
theorem d4_58 : decode prog_97_method_3_code 58 = .ok (.lload_n 1, 1) := by decide +kernel
theorem d4_59 : decode prog_97_method_3_code 59 = .ok (.aload_n 0, 1) := by decide +kernel
theorem d4_60 : decode prog_97_method_3_code 60 = .ok (.getfield 25, 3) := by decide +kernel
theorem d4_63 : decode prog_97_method_3_code 63 = .ok (.i2l, 1) := by decide +kernel
theorem d4_64 : decode prog_97_method_3_code 64 = .ok (.lcmp, 1) := by decide +kernel
theorem d4_65 : decode prog_97_method_3_code 65 = .ok (.ifCond .gt 9, 3) := by decide +kernel
theorem d4_68 : decode prog_97_method_3_code 68 = .ok (.getstatic 43, 3) := by decide +kernel
theorem d4_71 : decode prog_97_method_3_code 71 = .ok (.goto 6, 3) := by decide +kernel
theorem d4_74 : decode prog_97_method_3_code 74 = .ok (.getstatic 46, 3) := by decide +kernel
theorem d4_77 : decode prog_97_method_3_code 77 = .ok (.areturn, 1) := by decide +kernel
theorem ef_4 (m : MethodId) {a1 : Addr} {q2 : Int64} : entryFrame m #[(.ref a1), (.long q2)] 3 = mkF m 0 #[.val (.ref a1), .val (.long q2), .second] [] := by first | (simp [entryFrame, mkF, argsToLocals, Value.category]; done) | rfl
def Q4 (Z : State) (a1 : Addr) (q2 : Int64) (mi : Int32) (ma : Int32) (se : Int32) (ad0 : Addr) (ad1 : Addr) (ad2 : Addr) (ad3 : Addr) (ad4 : Addr) (h0 : Heap) (n0 : Nat) (v : Option Value) (h : Heap) (L : List Loc) : Prop := v = some (.ref (own_lv ad0 ad1 ad2 ad3 ad4 q2 mi ma se)) ∧ Fr n0 L ∧ h = h0
set_option maxRecDepth 65536 in
set_option maxHeartbeats 40000000 in
theorem rm4 (l : Launch) (Z : State) (a0 : Array Value) (hw : ∀ d ∈ tables_1, d.before a0 Z = true) (ws : List Jvm.Cond) (a1 : Addr) (q2 : Int64) (mi : Int32) (ma : Int32) (se : Int32) (ad0 : Addr) (ad1 : Addr) (ad2 : Addr) (ad3 : Addr) (ad4 : Addr) (h0 : Heap) (n0 : Nat) (Z0 : n0 ≤ h0.size) (F0 : Fld Z h0 a1 "com/example/gunline/gunline/core/SeverityLevels" "minorTo" "I" (.int mi)) (F1 : Fld Z h0 a1 "com/example/gunline/gunline/core/SeverityLevels" "majorTo" "I" (.int ma)) (F2 : Fld Z h0 a1 "com/example/gunline/gunline/core/SeverityLevels" "severeTo" "I" (.int se)) (S0 : Sta Z h0 "com/example/gunline/gunline/core/SeverityLevels$Level" "NONE" "Lcom/example/gunline/gunline/core/SeverityLevels$Level;" (.ref ad0)) (S1 : Sta Z h0 "com/example/gunline/gunline/core/SeverityLevels$Level" "MINOR" "Lcom/example/gunline/gunline/core/SeverityLevels$Level;" (.ref ad1)) (S2 : Sta Z h0 "com/example/gunline/gunline/core/SeverityLevels$Level" "MAJOR" "Lcom/example/gunline/gunline/core/SeverityLevels$Level;" (.ref ad2)) (S3 : Sta Z h0 "com/example/gunline/gunline/core/SeverityLevels$Level" "SEVERE" "Lcom/example/gunline/gunline/core/SeverityLevels$Level;" (.ref ad3)) (S4 : Sta Z h0 "com/example/gunline/gunline/core/SeverityLevels$Level" "OVERWHELMED" "Lcom/example/gunline/gunline/core/SeverityLevels$Level;" (.ref ad4)) (ht : ¬ q2 < 0) :
    MetFree l (⟨"com/example/gunline/gunline/core/SeverityLevels", "level", "(J)Lcom/example/gunline/gunline/core/SeverityLevels$Level;"⟩ : MethodName) (head1 (Jvm.Cond.code (⟨"com/example/gunline/gunline/core/SeverityLevels", "level", "(J)Lcom/example/gunline/gunline/core/SeverityLevels$Level;"⟩ : MethodName) prog_97_method_3_code 3 (some (.object "com/example/gunline/gunline/core/SeverityLevels$Level")) :: ws) ({ frames := 0, cells := 0, slots := 0, locals := 0 } : Room)) (fun a U => a = #[(.ref a1), (.long q2)] ∧ Z.Warmed39 U.vm ∧ U.heap = h0) (fun _ _ _ _ _ => True) (fun _ U o U' => ∃ v L, o = .returned v ∧ Q4 Z a1 q2 mi ma se ad0 ad1 ad2 ad3 ad4 h0 n0 v U'.heap L ∧ FrameEnd U o U' L (({ frames := 0, cells := 0, slots := 0, locals := 0 } : Room)).cells (({ frames := 0, cells := 0, slots := 0, locals := 0 } : Room)).slots) := by
  refine MetFree.of_bodySF (plainFor_of_name pn_1) hisR ?_
  intro p e s m args below meth c s₁ Bd hml0 hP hK
  obtain ⟨rfl, hZ, hh⟩ := hP
  have hx := Bd.exec
  have hby := Bd.bytes
  have hml : c.maxLocals = 3 := hml0
  have hown : s.vm.findClass "com/example/gunline/gunline/core/SeverityLevels" = some m.cls := findClass_of_methodNamed Bd.named
  have hnm := (name_of_methodNamed Bd.named Bd.method).1
  have X0 : Stand p l e ({ frames := 0, cells := 0, slots := 0, locals := 0 } : Room) s m #[(.ref a1), (.long q2)] below meth c s₁ [] 0 0 := Stand.of_body Bd
  have e0 : s₁.heap = h0 := by rw [← hh, Bd.state]; rfl
  have N0 := Fr.nil n0
  show own_Go p.tables e below (own_P s (Q4 Z a1 q2 mi ma se ad0 ad1 ad2 ad3 ad4 h0 n0) ({ frames := 0, cells := 0, slots := 0, locals := 0 } : Room).cells ({ frames := 0, cells := 0, slots := 0, locals := 0 } : Room).slots) s₁ _
  rw [ef_4]
  show own_Go p.tables e below _ s₁ (mkF m 0 #[.val (.ref a1), .val (.long q2), .second] [])
  refine own_go (fun tz kz => XT.lloadN X0.here hx rfl (hb hby d4_0) rfl kz) ?_
  show own_Go p.tables e below _ s₁ (mkF m 1 #[.val (.ref a1), .val (.long q2), .second] [(.long q2)])
  refine own_go (fun tz kz => XT.lconst X0.here hx rfl (hb hby d4_1) kz) ?_
  show own_Go p.tables e below _ s₁ (mkF m 2 #[.val (.ref a1), .val (.long q2), .second] [(.long (0 : Int64)), (.long q2)])
  refine own_go (fun tz kz => XT.lcmp X0.here hx rfl (hb hby d4_2) rfl kz) ?_
  show own_Go p.tables e below _ s₁ (mkF m 3 #[.val (.ref a1), .val (.long q2), .second] [(.int (XT.cmpL q2 (0 : Int64)))])
  refine own_go (fun tz kz => XS.ifYes X0.here hx rfl (pc0 := 3) (pc' := 20) rfl (hb hby d4_3) rfl (XT.ll_ge_t ht) (by decide) (by decide) kz) ?_
  show own_Go p.tables e below _ s₁ (mkF m 20 #[.val (.ref a1), .val (.long q2), .second] [])
  refine own_go (fun tz kz => XT.lloadN X0.here hx rfl (hb hby d4_20) rfl kz) ?_
  show own_Go p.tables e below _ s₁ (mkF m 21 #[.val (.ref a1), .val (.long q2), .second] [(.long q2)])
  refine own_go (fun tz kz => XT.lconst X0.here hx rfl (hb hby d4_21) kz) ?_
  show own_Go p.tables e below _ s₁ (mkF m 22 #[.val (.ref a1), .val (.long q2), .second] [(.long (0 : Int64)), (.long q2)])
  refine own_go (fun tz kz => XT.lcmp X0.here hx rfl (hb hby d4_22) rfl kz) ?_
  show own_Go p.tables e below _ s₁ (mkF m 23 #[.val (.ref a1), .val (.long q2), .second] [(.int (XT.cmpL q2 (0 : Int64)))])
  by_cases c0 : q2 = (0 : Int64)
  ·
    refine own_go (fun tz kz => XS.ifNo X0.here hx rfl (hb hby d4_23) rfl (XT.ll_ne_f c0) kz) ?_
    show own_Go p.tables e below _ s₁ (mkF m 26 #[.val (.ref a1), .val (.long q2), .second] [])
    obtain ⟨T1, X1, e1, st1⟩ := getS2 X0 hx hZ hown (host := "") (Or.inl (hw _ (List.mem_of_getElem? (i := 26) rfl))) Via.refl e0 S0 (g := (mkF m 26 #[.val (.ref a1), .val (.long q2), .second] [])) rfl (hb hby d4_26)
    refine own_go st1 ?_
    show own_Go p.tables e below _ T1 (mkF m 29 #[.val (.ref a1), .val (.long q2), .second] [(.ref ad0)])
    obtain ⟨fs, hr, hrun, hended, hW, hsame⟩ := X1.leave (v := some (.ref ad0)) (fun h => by rw [Bd.returns] at h; cases h) (BodyLoose.notSynchronized Bd)
    refine ⟨_, _, ?_, hrun, hended, _, _, rfl, ?_, ⟨_, rfl⟩, hW, hsame.mono (by decide) (by decide)⟩
    · exact retOut X1 hx Bd.returns rfl (Or.inr (Or.inr (Or.inr (Or.inr ⟨rfl, rfl, rfl⟩)))) (hb hby d4_29) hr
    · show Q4 Z a1 q2 mi ma se ad0 ad1 ad2 ad3 ad4 h0 n0 _ T1.heap _
      rw [e1]
      exact ⟨congrArg (fun z => some (Value.ref z)) (if_pos c0).symm, N0, rfl⟩
  ·
    refine own_go (fun tz kz => XS.ifYes X0.here hx rfl (pc0 := 23) (pc' := 30) rfl (hb hby d4_23) rfl (XT.ll_ne_t c0) (by decide) (by decide) kz) ?_
    show own_Go p.tables e below _ s₁ (mkF m 30 #[.val (.ref a1), .val (.long q2), .second] [])
    refine own_go (fun tz kz => XT.lloadN X0.here hx rfl (hb hby d4_30) rfl kz) ?_
    show own_Go p.tables e below _ s₁ (mkF m 31 #[.val (.ref a1), .val (.long q2), .second] [(.long q2)])
    refine own_go (fun tz kz => XS.aloadN X0.here hx rfl (hb hby d4_31) rfl rfl kz) ?_
    show own_Go p.tables e below _ s₁ (mkF m 32 #[.val (.ref a1), .val (.long q2), .second] [(.ref a1), (.long q2)])
    obtain ⟨T2, X2, e2, st2⟩ := getF X0 hx hZ hown (host := "") (Or.inl (hw _ (List.mem_of_getElem? (i := 15) rfl))) Via.refl e0 F0 (g := (mkF m 32 #[.val (.ref a1), .val (.long q2), .second] [(.ref a1), (.long q2)])) rfl rfl (hb hby d4_32)
    refine own_go st2 ?_
    show own_Go p.tables e below _ T2 (mkF m 35 #[.val (.ref a1), .val (.long q2), .second] [(.int mi), (.long q2)])
    refine own_go (fun tz kz => XT.i2l X2.here hx rfl (hb hby d4_35) rfl kz) ?_
    show own_Go p.tables e below _ T2 (mkF m 36 #[.val (.ref a1), .val (.long q2), .second] [(.long mi.toInt64), (.long q2)])
    refine own_go (fun tz kz => XT.lcmp X2.here hx rfl (hb hby d4_36) rfl kz) ?_
    show own_Go p.tables e below _ T2 (mkF m 37 #[.val (.ref a1), .val (.long q2), .second] [(.int (XT.cmpL q2 mi.toInt64))])
    by_cases c1 : mi.toInt64 < q2
    ·
      refine own_go (fun tz kz => XS.ifYes X2.here hx rfl (pc0 := 37) (pc' := 44) rfl (hb hby d4_37) rfl (XT.ll_gt_t c1) (by decide) (by decide) kz) ?_
      show own_Go p.tables e below _ T2 (mkF m 44 #[.val (.ref a1), .val (.long q2), .second] [])
      refine own_go (fun tz kz => XT.lloadN X2.here hx rfl (hb hby d4_44) rfl kz) ?_
      show own_Go p.tables e below _ T2 (mkF m 45 #[.val (.ref a1), .val (.long q2), .second] [(.long q2)])
      refine own_go (fun tz kz => XS.aloadN X2.here hx rfl (hb hby d4_45) rfl rfl kz) ?_
      show own_Go p.tables e below _ T2 (mkF m 46 #[.val (.ref a1), .val (.long q2), .second] [(.ref a1), (.long q2)])
      obtain ⟨T3, X3, e3, st3⟩ := getF X2 hx hZ hown (host := "") (Or.inl (hw _ (List.mem_of_getElem? (i := 17) rfl))) Via.refl e2 F1 (g := (mkF m 46 #[.val (.ref a1), .val (.long q2), .second] [(.ref a1), (.long q2)])) rfl rfl (hb hby d4_46)
      refine own_go st3 ?_
      show own_Go p.tables e below _ T3 (mkF m 49 #[.val (.ref a1), .val (.long q2), .second] [(.int ma), (.long q2)])
      refine own_go (fun tz kz => XT.i2l X3.here hx rfl (hb hby d4_49) rfl kz) ?_
      show own_Go p.tables e below _ T3 (mkF m 50 #[.val (.ref a1), .val (.long q2), .second] [(.long ma.toInt64), (.long q2)])
      refine own_go (fun tz kz => XT.lcmp X3.here hx rfl (hb hby d4_50) rfl kz) ?_
      show own_Go p.tables e below _ T3 (mkF m 51 #[.val (.ref a1), .val (.long q2), .second] [(.int (XT.cmpL q2 ma.toInt64))])
      by_cases c2 : ma.toInt64 < q2
      ·
        refine own_go (fun tz kz => XS.ifYes X3.here hx rfl (pc0 := 51) (pc' := 58) rfl (hb hby d4_51) rfl (XT.ll_gt_t c2) (by decide) (by decide) kz) ?_
        show own_Go p.tables e below _ T3 (mkF m 58 #[.val (.ref a1), .val (.long q2), .second] [])
        refine own_go (fun tz kz => XT.lloadN X3.here hx rfl (hb hby d4_58) rfl kz) ?_
        show own_Go p.tables e below _ T3 (mkF m 59 #[.val (.ref a1), .val (.long q2), .second] [(.long q2)])
        refine own_go (fun tz kz => XS.aloadN X3.here hx rfl (hb hby d4_59) rfl rfl kz) ?_
        show own_Go p.tables e below _ T3 (mkF m 60 #[.val (.ref a1), .val (.long q2), .second] [(.ref a1), (.long q2)])
        obtain ⟨T4, X4, e4, st4⟩ := getF X3 hx hZ hown (host := "") (Or.inl (hw _ (List.mem_of_getElem? (i := 19) rfl))) Via.refl e3 F2 (g := (mkF m 60 #[.val (.ref a1), .val (.long q2), .second] [(.ref a1), (.long q2)])) rfl rfl (hb hby d4_60)
        refine own_go st4 ?_
        show own_Go p.tables e below _ T4 (mkF m 63 #[.val (.ref a1), .val (.long q2), .second] [(.int se), (.long q2)])
        refine own_go (fun tz kz => XT.i2l X4.here hx rfl (hb hby d4_63) rfl kz) ?_
        show own_Go p.tables e below _ T4 (mkF m 64 #[.val (.ref a1), .val (.long q2), .second] [(.long se.toInt64), (.long q2)])
        refine own_go (fun tz kz => XT.lcmp X4.here hx rfl (hb hby d4_64) rfl kz) ?_
        show own_Go p.tables e below _ T4 (mkF m 65 #[.val (.ref a1), .val (.long q2), .second] [(.int (XT.cmpL q2 se.toInt64))])
        by_cases c3 : se.toInt64 < q2
        ·
          refine own_go (fun tz kz => XS.ifYes X4.here hx rfl (pc0 := 65) (pc' := 74) rfl (hb hby d4_65) rfl (XT.ll_gt_t c3) (by decide) (by decide) kz) ?_
          show own_Go p.tables e below _ T4 (mkF m 74 #[.val (.ref a1), .val (.long q2), .second] [])
          obtain ⟨T5, X5, e5, st5⟩ := getS2 X4 hx hZ hown (host := "") (Or.inl (hw _ (List.mem_of_getElem? (i := 40) rfl))) Via.refl e4 S4 (g := (mkF m 74 #[.val (.ref a1), .val (.long q2), .second] [])) rfl (hb hby d4_74)
          refine own_go st5 ?_
          show own_Go p.tables e below _ T5 (mkF m 77 #[.val (.ref a1), .val (.long q2), .second] [(.ref ad4)])
          obtain ⟨fs, hr, hrun, hended, hW, hsame⟩ := X5.leave (v := some (.ref ad4)) (fun h => by rw [Bd.returns] at h; cases h) (BodyLoose.notSynchronized Bd)
          refine ⟨_, _, ?_, hrun, hended, _, _, rfl, ?_, ⟨_, rfl⟩, hW, hsame.mono (by decide) (by decide)⟩
          · exact retOut X5 hx Bd.returns rfl (Or.inr (Or.inr (Or.inr (Or.inr ⟨rfl, rfl, rfl⟩)))) (hb hby d4_77) hr
          · show Q4 Z a1 q2 mi ma se ad0 ad1 ad2 ad3 ad4 h0 n0 _ T5.heap _
            rw [e5]
            exact ⟨congrArg (fun z => some (Value.ref z)) (((if_neg c0).trans (if_pos c1)).trans ((if_pos c2).trans (if_pos c3))).symm, N0, rfl⟩
        ·
          refine own_go (fun tz kz => XS.ifNo X4.here hx rfl (hb hby d4_65) rfl (XT.ll_gt_f c3) kz) ?_
          show own_Go p.tables e below _ T4 (mkF m 68 #[.val (.ref a1), .val (.long q2), .second] [])
          obtain ⟨T6, X6, e6, st6⟩ := getS2 X4 hx hZ hown (host := "") (Or.inl (hw _ (List.mem_of_getElem? (i := 46) rfl))) Via.refl e4 S3 (g := (mkF m 68 #[.val (.ref a1), .val (.long q2), .second] [])) rfl (hb hby d4_68)
          refine own_go st6 ?_
          show own_Go p.tables e below _ T6 (mkF m 71 #[.val (.ref a1), .val (.long q2), .second] [(.ref ad3)])
          refine own_go (fun tz kz => XS.goto X6.here hx rfl (pc0 := 71) (pc' := 77) rfl (hb hby d4_71) (by decide) (by decide) kz) ?_
          show own_Go p.tables e below _ T6 (mkF m 77 #[.val (.ref a1), .val (.long q2), .second] [(.ref ad3)])
          obtain ⟨fs, hr, hrun, hended, hW, hsame⟩ := X6.leave (v := some (.ref ad3)) (fun h => by rw [Bd.returns] at h; cases h) (BodyLoose.notSynchronized Bd)
          refine ⟨_, _, ?_, hrun, hended, _, _, rfl, ?_, ⟨_, rfl⟩, hW, hsame.mono (by decide) (by decide)⟩
          · exact retOut X6 hx Bd.returns rfl (Or.inr (Or.inr (Or.inr (Or.inr ⟨rfl, rfl, rfl⟩)))) (hb hby d4_77) hr
          · show Q4 Z a1 q2 mi ma se ad0 ad1 ad2 ad3 ad4 h0 n0 _ T6.heap _
            rw [e6]
            exact ⟨congrArg (fun z => some (Value.ref z)) (((if_neg c0).trans (if_pos c1)).trans ((if_pos c2).trans (if_neg c3))).symm, N0, rfl⟩
      ·
        refine own_go (fun tz kz => XS.ifNo X3.here hx rfl (hb hby d4_51) rfl (XT.ll_gt_f c2) kz) ?_
        show own_Go p.tables e below _ T3 (mkF m 54 #[.val (.ref a1), .val (.long q2), .second] [])
        obtain ⟨T7, X7, e7, st7⟩ := getS2 X3 hx hZ hown (host := "") (Or.inl (hw _ (List.mem_of_getElem? (i := 35) rfl))) Via.refl e3 S2 (g := (mkF m 54 #[.val (.ref a1), .val (.long q2), .second] [])) rfl (hb hby d4_54)
        refine own_go st7 ?_
        show own_Go p.tables e below _ T7 (mkF m 57 #[.val (.ref a1), .val (.long q2), .second] [(.ref ad2)])
        obtain ⟨fs, hr, hrun, hended, hW, hsame⟩ := X7.leave (v := some (.ref ad2)) (fun h => by rw [Bd.returns] at h; cases h) (BodyLoose.notSynchronized Bd)
        refine ⟨_, _, ?_, hrun, hended, _, _, rfl, ?_, ⟨_, rfl⟩, hW, hsame.mono (by decide) (by decide)⟩
        · exact retOut X7 hx Bd.returns rfl (Or.inr (Or.inr (Or.inr (Or.inr ⟨rfl, rfl, rfl⟩)))) (hb hby d4_57) hr
        · show Q4 Z a1 q2 mi ma se ad0 ad1 ad2 ad3 ad4 h0 n0 _ T7.heap _
          rw [e7]
          exact ⟨congrArg (fun z => some (Value.ref z)) (((if_neg c0).trans (if_pos c1)).trans (if_neg c2)).symm, N0, rfl⟩
    ·
      refine own_go (fun tz kz => XS.ifNo X2.here hx rfl (hb hby d4_37) rfl (XT.ll_gt_f c1) kz) ?_
      show own_Go p.tables e below _ T2 (mkF m 40 #[.val (.ref a1), .val (.long q2), .second] [])
      obtain ⟨T8, X8, e8, st8⟩ := getS2 X2 hx hZ hown (host := "") (Or.inl (hw _ (List.mem_of_getElem? (i := 45) rfl))) Via.refl e2 S1 (g := (mkF m 40 #[.val (.ref a1), .val (.long q2), .second] [])) rfl (hb hby d4_40)
      refine own_go st8 ?_
      show own_Go p.tables e below _ T8 (mkF m 43 #[.val (.ref a1), .val (.long q2), .second] [(.ref ad1)])
      obtain ⟨fs, hr, hrun, hended, hW, hsame⟩ := X8.leave (v := some (.ref ad1)) (fun h => by rw [Bd.returns] at h; cases h) (BodyLoose.notSynchronized Bd)
      refine ⟨_, _, ?_, hrun, hended, _, _, rfl, ?_, ⟨_, rfl⟩, hW, hsame.mono (by decide) (by decide)⟩
      · exact retOut X8 hx Bd.returns rfl (Or.inr (Or.inr (Or.inr (Or.inr ⟨rfl, rfl, rfl⟩)))) (hb hby d4_43) hr
      · show Q4 Z a1 q2 mi ma se ad0 ad1 ad2 ad3 ad4 h0 n0 _ T8.heap _
        rw [e8]
        exact ⟨congrArg (fun z => some (Value.ref z)) ((if_neg c0).trans (if_neg c1)).symm, N0, rfl⟩
theorem d5_0 : decode method_2_code 0 = .ok (.aload_n 0, 1) := by decide +kernel
theorem d5_1 : decode method_2_code 1 = .ok (.getstatic 7, 3) := by decide +kernel
theorem d5_4 : decode method_2_code 4 = .ok (.if_acmp .ne 5, 3) := by decide +kernel
theorem d5_7 : decode method_2_code 7 = .ok (.iconst 0, 1) := by decide +kernel
theorem d5_8 : decode method_2_code 8 = .ok (.ireturn, 1) := by decide +kernel
theorem d5_9 : decode method_2_code 9 = .ok (.aload_n 0, 1) := by decide +kernel
theorem d5_10 : decode method_2_code 10 = .ok (.getstatic 13, 3) := by decide +kernel
theorem d5_13 : decode method_2_code 13 = .ok (.if_acmp .ne 5, 3) := by decide +kernel
theorem d5_16 : decode method_2_code 16 = .ok (.iconst 1, 1) := by decide +kernel
theorem d5_17 : decode method_2_code 17 = .ok (.ireturn, 1) := by decide +kernel
theorem d5_18 : decode method_2_code 18 = .ok (.aload_n 0, 1) := by decide +kernel
theorem d5_19 : decode method_2_code 19 = .ok (.getstatic 16, 3) := by decide +kernel
theorem d5_22 : decode method_2_code 22 = .ok (.if_acmp .ne 5, 3) := by decide +kernel
theorem d5_25 : decode method_2_code 25 = .ok (.iconst 2, 1) := by decide +kernel
theorem d5_26 : decode method_2_code 26 = .ok (.ireturn, 1) := by decide +kernel
theorem d5_27 : decode method_2_code 27 = .ok (.aload_n 0, 1) := by decide +kernel
theorem d5_28 : decode method_2_code 28 = .ok (.getstatic 19, 3) := by decide +kernel
theorem d5_31 : decode method_2_code 31 = .ok (.if_acmp .ne 5, 3) := by decide +kernel
theorem d5_34 : decode method_2_code 34 = .ok (.iconst 3, 1) := by decide +kernel
theorem d5_35 : decode method_2_code 35 = .ok (.ireturn, 1) := by decide +kernel
theorem d5_36 : decode method_2_code 36 = .ok (.aload_n 0, 1) := by decide +kernel
theorem d5_37 : decode method_2_code 37 = .ok (.getstatic 22, 3) := by decide +kernel
theorem d5_40 : decode method_2_code 40 = .ok (.if_acmp .ne 5, 3) := by decide +kernel
theorem d5_43 : decode method_2_code 43 = .ok (.iconst 4, 1) := by decide +kernel
theorem d5_44 : decode method_2_code 44 = .ok (.ireturn, 1) := by decide +kernel
theorem d5_45 : decode method_2_code 45 = .ok (.iconst (-1), 1) := by decide +kernel
theorem d5_46 : decode method_2_code 46 = .ok (.ireturn, 1) := by decide +kernel
theorem pn_2 : plainName "com/example/gunline/gunline/core/SeverityLevelsLevelPinLaw" = true := by first | (simp [plainName, overriddenIn]; done) | decide +kernel
theorem ef_5 (m : MethodId) {a1 : Addr} : entryFrame m #[(.ref a1)] 1 = mkF m 0 #[.val (.ref a1)] [] := by first | (simp [entryFrame, mkF, argsToLocals, Value.category]; done) | rfl
def Q5 (Z : State) (a1 : Addr) (ad0 : Addr) (ad1 : Addr) (ad2 : Addr) (ad3 : Addr) (ad4 : Addr) (h0 : Heap) (n0 : Nat) (v : Option Value) (h : Heap) (L : List Loc) : Prop := v = some (.int (own_rk ad0 ad1 ad2 ad3 ad4 a1)) ∧ Fr n0 L ∧ h = h0
set_option maxRecDepth 65536 in
set_option maxHeartbeats 40000000 in
theorem rm5 (l : Launch) (Z : State) (a0 : Array Value) (hw : ∀ d ∈ tables_1, d.before a0 Z = true) (ws : List Jvm.Cond) (a1 : Addr) (ad0 : Addr) (ad1 : Addr) (ad2 : Addr) (ad3 : Addr) (ad4 : Addr) (h0 : Heap) (n0 : Nat) (Z0 : n0 ≤ h0.size) (S0 : Sta Z h0 "com/example/gunline/gunline/core/SeverityLevels$Level" "NONE" "Lcom/example/gunline/gunline/core/SeverityLevels$Level;" (.ref ad0)) (S1 : Sta Z h0 "com/example/gunline/gunline/core/SeverityLevels$Level" "MINOR" "Lcom/example/gunline/gunline/core/SeverityLevels$Level;" (.ref ad1)) (S2 : Sta Z h0 "com/example/gunline/gunline/core/SeverityLevels$Level" "MAJOR" "Lcom/example/gunline/gunline/core/SeverityLevels$Level;" (.ref ad2)) (S3 : Sta Z h0 "com/example/gunline/gunline/core/SeverityLevels$Level" "SEVERE" "Lcom/example/gunline/gunline/core/SeverityLevels$Level;" (.ref ad3)) (S4 : Sta Z h0 "com/example/gunline/gunline/core/SeverityLevels$Level" "OVERWHELMED" "Lcom/example/gunline/gunline/core/SeverityLevels$Level;" (.ref ad4)) :
    MetFree l (⟨"com/example/gunline/gunline/core/SeverityLevelsLevelPinLaw", "rank", "(Lcom/example/gunline/gunline/core/SeverityLevels$Level;)I"⟩ : MethodName) (head1 (Jvm.Cond.code (⟨"com/example/gunline/gunline/core/SeverityLevelsLevelPinLaw", "rank", "(Lcom/example/gunline/gunline/core/SeverityLevels$Level;)I"⟩ : MethodName) method_2_code 1 (some .int) :: ws) ({ frames := 0, cells := 0, slots := 0, locals := 0 } : Room)) (fun a U => a = #[(.ref a1)] ∧ Z.Warmed39 U.vm ∧ U.heap = h0) (fun _ _ _ _ _ => True) (fun _ U o U' => ∃ v L, o = .returned v ∧ Q5 Z a1 ad0 ad1 ad2 ad3 ad4 h0 n0 v U'.heap L ∧ FrameEnd U o U' L (({ frames := 0, cells := 0, slots := 0, locals := 0 } : Room)).cells (({ frames := 0, cells := 0, slots := 0, locals := 0 } : Room)).slots) := by
  refine MetFree.of_bodySF (plainFor_of_name pn_2) hisR ?_
  intro p e s m args below meth c s₁ Bd hml0 hP hK
  obtain ⟨rfl, hZ, hh⟩ := hP
  have hx := Bd.exec
  have hby := Bd.bytes
  have hml : c.maxLocals = 1 := hml0
  have hown : s.vm.findClass "com/example/gunline/gunline/core/SeverityLevelsLevelPinLaw" = some m.cls := findClass_of_methodNamed Bd.named
  have hnm := (name_of_methodNamed Bd.named Bd.method).1
  have X0 : Stand p l e ({ frames := 0, cells := 0, slots := 0, locals := 0 } : Room) s m #[(.ref a1)] below meth c s₁ [] 0 0 := Stand.of_body Bd
  have e0 : s₁.heap = h0 := by rw [← hh, Bd.state]; rfl
  have N0 := Fr.nil n0
  show own_Go p.tables e below (own_P s (Q5 Z a1 ad0 ad1 ad2 ad3 ad4 h0 n0) ({ frames := 0, cells := 0, slots := 0, locals := 0 } : Room).cells ({ frames := 0, cells := 0, slots := 0, locals := 0 } : Room).slots) s₁ _
  rw [ef_5]
  show own_Go p.tables e below _ s₁ (mkF m 0 #[.val (.ref a1)] [])
  refine own_go (fun tz kz => XS.aloadN X0.here hx rfl (hb hby d5_0) rfl rfl kz) ?_
  show own_Go p.tables e below _ s₁ (mkF m 1 #[.val (.ref a1)] [(.ref a1)])
  obtain ⟨T1, X1, e1, st1⟩ := getS2 X0 hx hZ hown (host := "") (Or.inl (hw _ (List.mem_of_getElem? (i := 33) rfl))) Via.refl e0 S0 (g := (mkF m 1 #[.val (.ref a1)] [(.ref a1)])) rfl (hb hby d5_1)
  refine own_go st1 ?_
  show own_Go p.tables e below _ T1 (mkF m 4 #[.val (.ref a1)] [(.ref ad0), (.ref a1)])
  by_cases c0 : a1 = ad0
  ·
    refine own_go (fun tz kz => XT.acmpNo X1.here hx rfl (hb hby d5_4) rfl rfl rfl (XT.aa_ne_f (congrArg Value.ref c0)) kz) ?_
    show own_Go p.tables e below _ T1 (mkF m 7 #[.val (.ref a1)] [])
    refine own_go (fun tz kz => XS.iconst X1.here hx rfl (hb hby d5_7) kz) ?_
    show own_Go p.tables e below _ T1 (mkF m 8 #[.val (.ref a1)] [(.int (0 : Int32))])
    obtain ⟨fs, hr, hrun, hended, hW, hsame⟩ := X1.leave (v := some (.int (0 : Int32))) (fun h => by rw [Bd.returns] at h; cases h) (BodyLoose.notSynchronized Bd)
    refine ⟨_, _, ?_, hrun, hended, _, _, rfl, ?_, ⟨_, rfl⟩, hW, hsame.mono (by decide) (by decide)⟩
    · exact retI X1 hx Bd.returns (hb hby d5_8) hr
    · show Q5 Z a1 ad0 ad1 ad2 ad3 ad4 h0 n0 _ T1.heap _
      rw [e1]
      exact ⟨congrArg (fun z => some (Value.int z)) ( if_pos c0).symm, N0, rfl⟩
  ·
    refine own_go (fun tz kz => XT.acmpYes X1.here hx rfl (pc0 := 4) (pc' := 9) rfl (hb hby d5_4) rfl rfl rfl (XT.aa_ne_t (fun q => c0 (Value.ref.inj q))) (by decide) (by decide) kz) ?_
    show own_Go p.tables e below _ T1 (mkF m 9 #[.val (.ref a1)] [])
    refine own_go (fun tz kz => XS.aloadN X1.here hx rfl (hb hby d5_9) rfl rfl kz) ?_
    show own_Go p.tables e below _ T1 (mkF m 10 #[.val (.ref a1)] [(.ref a1)])
    obtain ⟨T2, X2, e2, st2⟩ := getS2 X1 hx hZ hown (host := "") (Or.inl (hw _ (List.mem_of_getElem? (i := 37) rfl))) Via.refl e1 S1 (g := (mkF m 10 #[.val (.ref a1)] [(.ref a1)])) rfl (hb hby d5_10)
    refine own_go st2 ?_
    show own_Go p.tables e below _ T2 (mkF m 13 #[.val (.ref a1)] [(.ref ad1), (.ref a1)])
    by_cases c1 : a1 = ad1
    ·
      refine own_go (fun tz kz => XT.acmpNo X2.here hx rfl (hb hby d5_13) rfl rfl rfl (XT.aa_ne_f (congrArg Value.ref c1)) kz) ?_
      show own_Go p.tables e below _ T2 (mkF m 16 #[.val (.ref a1)] [])
      refine own_go (fun tz kz => XS.iconst X2.here hx rfl (hb hby d5_16) kz) ?_
      show own_Go p.tables e below _ T2 (mkF m 17 #[.val (.ref a1)] [(.int (1 : Int32))])
      obtain ⟨fs, hr, hrun, hended, hW, hsame⟩ := X2.leave (v := some (.int (1 : Int32))) (fun h => by rw [Bd.returns] at h; cases h) (BodyLoose.notSynchronized Bd)
      refine ⟨_, _, ?_, hrun, hended, _, _, rfl, ?_, ⟨_, rfl⟩, hW, hsame.mono (by decide) (by decide)⟩
      · exact retI X2 hx Bd.returns (hb hby d5_17) hr
      · show Q5 Z a1 ad0 ad1 ad2 ad3 ad4 h0 n0 _ T2.heap _
        rw [e2]
        exact ⟨congrArg (fun z => some (Value.int z)) ((if_neg c0).trans <| if_pos c1).symm, N0, rfl⟩
    ·
      refine own_go (fun tz kz => XT.acmpYes X2.here hx rfl (pc0 := 13) (pc' := 18) rfl (hb hby d5_13) rfl rfl rfl (XT.aa_ne_t (fun q => c1 (Value.ref.inj q))) (by decide) (by decide) kz) ?_
      show own_Go p.tables e below _ T2 (mkF m 18 #[.val (.ref a1)] [])
      refine own_go (fun tz kz => XS.aloadN X2.here hx rfl (hb hby d5_18) rfl rfl kz) ?_
      show own_Go p.tables e below _ T2 (mkF m 19 #[.val (.ref a1)] [(.ref a1)])
      obtain ⟨T3, X3, e3, st3⟩ := getS2 X2 hx hZ hown (host := "") (Or.inl (hw _ (List.mem_of_getElem? (i := 39) rfl))) Via.refl e2 S2 (g := (mkF m 19 #[.val (.ref a1)] [(.ref a1)])) rfl (hb hby d5_19)
      refine own_go st3 ?_
      show own_Go p.tables e below _ T3 (mkF m 22 #[.val (.ref a1)] [(.ref ad2), (.ref a1)])
      by_cases c2 : a1 = ad2
      ·
        refine own_go (fun tz kz => XT.acmpNo X3.here hx rfl (hb hby d5_22) rfl rfl rfl (XT.aa_ne_f (congrArg Value.ref c2)) kz) ?_
        show own_Go p.tables e below _ T3 (mkF m 25 #[.val (.ref a1)] [])
        refine own_go (fun tz kz => XS.iconst X3.here hx rfl (hb hby d5_25) kz) ?_
        show own_Go p.tables e below _ T3 (mkF m 26 #[.val (.ref a1)] [(.int (2 : Int32))])
        obtain ⟨fs, hr, hrun, hended, hW, hsame⟩ := X3.leave (v := some (.int (2 : Int32))) (fun h => by rw [Bd.returns] at h; cases h) (BodyLoose.notSynchronized Bd)
        refine ⟨_, _, ?_, hrun, hended, _, _, rfl, ?_, ⟨_, rfl⟩, hW, hsame.mono (by decide) (by decide)⟩
        · exact retI X3 hx Bd.returns (hb hby d5_26) hr
        · show Q5 Z a1 ad0 ad1 ad2 ad3 ad4 h0 n0 _ T3.heap _
          rw [e3]
          exact ⟨congrArg (fun z => some (Value.int z)) ((if_neg c0).trans <| (if_neg c1).trans <| if_pos c2).symm, N0, rfl⟩
      ·
        refine own_go (fun tz kz => XT.acmpYes X3.here hx rfl (pc0 := 22) (pc' := 27) rfl (hb hby d5_22) rfl rfl rfl (XT.aa_ne_t (fun q => c2 (Value.ref.inj q))) (by decide) (by decide) kz) ?_
        show own_Go p.tables e below _ T3 (mkF m 27 #[.val (.ref a1)] [])
        refine own_go (fun tz kz => XS.aloadN X3.here hx rfl (hb hby d5_27) rfl rfl kz) ?_
        show own_Go p.tables e below _ T3 (mkF m 28 #[.val (.ref a1)] [(.ref a1)])
        obtain ⟨T4, X4, e4, st4⟩ := getS2 X3 hx hZ hown (host := "") (Or.inl (hw _ (List.mem_of_getElem? (i := 42) rfl))) Via.refl e3 S3 (g := (mkF m 28 #[.val (.ref a1)] [(.ref a1)])) rfl (hb hby d5_28)
        refine own_go st4 ?_
        show own_Go p.tables e below _ T4 (mkF m 31 #[.val (.ref a1)] [(.ref ad3), (.ref a1)])
        by_cases c3 : a1 = ad3
        ·
          refine own_go (fun tz kz => XT.acmpNo X4.here hx rfl (hb hby d5_31) rfl rfl rfl (XT.aa_ne_f (congrArg Value.ref c3)) kz) ?_
          show own_Go p.tables e below _ T4 (mkF m 34 #[.val (.ref a1)] [])
          refine own_go (fun tz kz => XS.iconst X4.here hx rfl (hb hby d5_34) kz) ?_
          show own_Go p.tables e below _ T4 (mkF m 35 #[.val (.ref a1)] [(.int (3 : Int32))])
          obtain ⟨fs, hr, hrun, hended, hW, hsame⟩ := X4.leave (v := some (.int (3 : Int32))) (fun h => by rw [Bd.returns] at h; cases h) (BodyLoose.notSynchronized Bd)
          refine ⟨_, _, ?_, hrun, hended, _, _, rfl, ?_, ⟨_, rfl⟩, hW, hsame.mono (by decide) (by decide)⟩
          · exact retI X4 hx Bd.returns (hb hby d5_35) hr
          · show Q5 Z a1 ad0 ad1 ad2 ad3 ad4 h0 n0 _ T4.heap _
            rw [e4]
            exact ⟨congrArg (fun z => some (Value.int z)) ((if_neg c0).trans <| (if_neg c1).trans <| (if_neg c2).trans <| if_pos c3).symm, N0, rfl⟩
        ·
          refine own_go (fun tz kz => XT.acmpYes X4.here hx rfl (pc0 := 31) (pc' := 36) rfl (hb hby d5_31) rfl rfl rfl (XT.aa_ne_t (fun q => c3 (Value.ref.inj q))) (by decide) (by decide) kz) ?_
          show own_Go p.tables e below _ T4 (mkF m 36 #[.val (.ref a1)] [])
          refine own_go (fun tz kz => XS.aloadN X4.here hx rfl (hb hby d5_36) rfl rfl kz) ?_
          show own_Go p.tables e below _ T4 (mkF m 37 #[.val (.ref a1)] [(.ref a1)])
          obtain ⟨T5, X5, e5, st5⟩ := getS2 X4 hx hZ hown (host := "") (Or.inl (hw _ (List.mem_of_getElem? (i := 44) rfl))) Via.refl e4 S4 (g := (mkF m 37 #[.val (.ref a1)] [(.ref a1)])) rfl (hb hby d5_37)
          refine own_go st5 ?_
          show own_Go p.tables e below _ T5 (mkF m 40 #[.val (.ref a1)] [(.ref ad4), (.ref a1)])
          by_cases c4 : a1 = ad4
          ·
            refine own_go (fun tz kz => XT.acmpNo X5.here hx rfl (hb hby d5_40) rfl rfl rfl (XT.aa_ne_f (congrArg Value.ref c4)) kz) ?_
            show own_Go p.tables e below _ T5 (mkF m 43 #[.val (.ref a1)] [])
            refine own_go (fun tz kz => XS.iconst X5.here hx rfl (hb hby d5_43) kz) ?_
            show own_Go p.tables e below _ T5 (mkF m 44 #[.val (.ref a1)] [(.int (4 : Int32))])
            obtain ⟨fs, hr, hrun, hended, hW, hsame⟩ := X5.leave (v := some (.int (4 : Int32))) (fun h => by rw [Bd.returns] at h; cases h) (BodyLoose.notSynchronized Bd)
            refine ⟨_, _, ?_, hrun, hended, _, _, rfl, ?_, ⟨_, rfl⟩, hW, hsame.mono (by decide) (by decide)⟩
            · exact retI X5 hx Bd.returns (hb hby d5_44) hr
            · show Q5 Z a1 ad0 ad1 ad2 ad3 ad4 h0 n0 _ T5.heap _
              rw [e5]
              exact ⟨congrArg (fun z => some (Value.int z)) ((if_neg c0).trans <| (if_neg c1).trans <| (if_neg c2).trans <| (if_neg c3).trans <| if_pos c4).symm, N0, rfl⟩
          ·
            refine own_go (fun tz kz => XT.acmpYes X5.here hx rfl (pc0 := 40) (pc' := 45) rfl (hb hby d5_40) rfl rfl rfl (XT.aa_ne_t (fun q => c4 (Value.ref.inj q))) (by decide) (by decide) kz) ?_
            show own_Go p.tables e below _ T5 (mkF m 45 #[.val (.ref a1)] [])
            refine own_go (fun tz kz => XS.iconst X5.here hx rfl (hb hby d5_45) kz) ?_
            show own_Go p.tables e below _ T5 (mkF m 46 #[.val (.ref a1)] [(.int (-1 : Int32))])
            obtain ⟨fs, hr, hrun, hended, hW, hsame⟩ := X5.leave (v := some (.int (-1 : Int32))) (fun h => by rw [Bd.returns] at h; cases h) (BodyLoose.notSynchronized Bd)
            refine ⟨_, _, ?_, hrun, hended, _, _, rfl, ?_, ⟨_, rfl⟩, hW, hsame.mono (by decide) (by decide)⟩
            · exact retI X5 hx Bd.returns (hb hby d5_46) hr
            · show Q5 Z a1 ad0 ad1 ad2 ad3 ad4 h0 n0 _ T5.heap _
              rw [e5]
              exact ⟨congrArg (fun z => some (Value.int z)) ((if_neg c0).trans <| (if_neg c1).trans <| (if_neg c2).trans <| (if_neg c3).trans <| if_neg c4).symm, N0, rfl⟩
theorem pd_1 : parseMethodDescriptor "(III)V" = some ⟨[.int, .int, .int], none⟩ := by decide +kernel
theorem pd_2 : parseMethodDescriptor "(J)Lcom/example/gunline/gunline/core/SeverityLevels$Level;" = some ⟨[.long], some (.object "com/example/gunline/gunline/core/SeverityLevels$Level")⟩ := by decide +kernel
theorem pd_3 : parseMethodDescriptor "(Lcom/example/gunline/gunline/core/SeverityLevels$Level;)I" = some ⟨[(.object "com/example/gunline/gunline/core/SeverityLevels$Level")], some .int⟩ := by decide +kernel
theorem ef_0 (m : MethodId) {p1 : Int32} {p2 : Int32} {p3 : Int32} {p4 : Int32} {q5 : Int64} : entryFrame m #[(.int p1), (.int p2), (.int p3), (.int p4), (.long q5)] maxLocals = mkF m 0 #[.val (.int p1), .val (.int p2), .val (.int p3), .val (.int p4), .val (.long q5), .second, .unset, .unset, .unset, .unset, .unset, .unset, .unset, .unset, .unset, .unset] [] := by first | (simp [entryFrame, mkF, argsToLocals, Value.category, maxLocals]; done) | rfl
def Q0 (Z : State) (p1 : Int32) (p2 : Int32) (p3 : Int32) (p4 : Int32) (q5 : Int64) (ad0 : Addr) (ad1 : Addr) (ad2 : Addr) (ad3 : Addr) (ad4 : Addr) (h0 : Heap) (n0 : Nat) (v : Option Value) (h : Heap) (L : List Loc) : Prop := v = some (.int 1) ∧ Fr n0 L
set_option maxRecDepth 65536 in
set_option maxHeartbeats 40000000 in
theorem rm0 (l : Launch) (Z : State) (a0 : Array Value) (hw : ∀ d ∈ tables_1, d.before a0 Z = true) (ws : List Jvm.Cond) (p1 : Int32) (p2 : Int32) (p3 : Int32) (p4 : Int32) (q5 : Int64) (ad0 : Addr) (ad1 : Addr) (ad2 : Addr) (ad3 : Addr) (ad4 : Addr) (h0 : Heap) (n0 : Nat) (Z0 : n0 ≤ h0.size) (S0 : Sta Z Z.heap "com/example/gunline/gunline/core/SeverityLevels$Level" "NONE" "Lcom/example/gunline/gunline/core/SeverityLevels$Level;" (.ref ad0)) (S1 : Sta Z Z.heap "com/example/gunline/gunline/core/SeverityLevels$Level" "MINOR" "Lcom/example/gunline/gunline/core/SeverityLevels$Level;" (.ref ad1)) (S2 : Sta Z Z.heap "com/example/gunline/gunline/core/SeverityLevels$Level" "MAJOR" "Lcom/example/gunline/gunline/core/SeverityLevels$Level;" (.ref ad2)) (S3 : Sta Z Z.heap "com/example/gunline/gunline/core/SeverityLevels$Level" "SEVERE" "Lcom/example/gunline/gunline/core/SeverityLevels$Level;" (.ref ad3)) (S4 : Sta Z Z.heap "com/example/gunline/gunline/core/SeverityLevels$Level" "OVERWHELMED" "Lcom/example/gunline/gunline/core/SeverityLevels$Level;" (.ref ad4)) (h01 : ad1 ≠ ad0) (h02 : ad2 ≠ ad0) (h03 : ad3 ≠ ad0) (h04 : ad4 ≠ ad0) (h12 : ad2 ≠ ad1) (h13 : ad3 ≠ ad1) (h14 : ad4 ≠ ad1) (h23 : ad3 ≠ ad2) (h24 : ad4 ≠ ad2) (h34 : ad4 ≠ ad3) (O0 : Old Z n0 h0) :
    MetFree l x (head1 (Jvm.Cond.code x code maxLocals ret :: ws) room_1) (fun a U => a = #[(.int p1), (.int p2), (.int p3), (.int p4), (.long q5)] ∧ Z.Warmed39 U.vm ∧ U.heap = h0) (fun _ _ _ _ _ => True) (fun _ U o U' => ∃ v L, o = .returned v ∧ Q0 Z p1 p2 p3 p4 q5 ad0 ad1 ad2 ad3 ad4 h0 n0 v U'.heap L ∧ FrameEnd U o U' L (room_1).cells (room_1).slots) := by
  refine MetFree.of_bodySF (plainFor_of_name pn_2) hisR ?_
  intro p e s m args below meth c s₁ Bd hml0 hP hK
  obtain ⟨rfl, hZ, hh⟩ := hP
  have hx := Bd.exec
  have hby := Bd.bytes
  have hml : c.maxLocals = 16 := hml0
  have hown : s.vm.findClass "com/example/gunline/gunline/core/SeverityLevelsLevelPinLaw" = some m.cls := findClass_of_methodNamed Bd.named
  have hnm := (name_of_methodNamed Bd.named Bd.method).1
  have X0 : Stand p l e room_1 s m #[(.int p1), (.int p2), (.int p3), (.int p4), (.long q5)] below meth c s₁ [] 0 0 := Stand.of_body Bd
  have e0 : s₁.heap = h0 := by rw [← hh, Bd.state]; rfl
  have N0 := Fr.nil n0
  show own_Go p.tables e below (own_P s (Q0 Z p1 p2 p3 p4 q5 ad0 ad1 ad2 ad3 ad4 h0 n0) room_1.cells room_1.slots) s₁ _
  rw [ef_0]
  show own_Go p.tables e below _ s₁ (mkF m 0 #[.val (.int p1), .val (.int p2), .val (.int p3), .val (.int p4), .val (.long q5), .second, .unset, .unset, .unset, .unset, .unset, .unset, .unset, .unset, .unset, .unset] [])
  obtain ⟨hr1, hr12, hr23⟩ := own_ranks p1 p2 p3 536870911 536870911 536870911 (by decide) (by decide) (by decide)
  refine own_go (fun tz kz => XS.iconst X0.here hx rfl (hb hby at_0) kz) ?_
  show own_Go p.tables e below _ s₁ (mkF m 1 #[.val (.int p1), .val (.int p2), .val (.int p3), .val (.int p4), .val (.long q5), .second, .unset, .unset, .unset, .unset, .unset, .unset, .unset, .unset, .unset, .unset] [(.int (1 : Int32))])
  refine own_go (fun tz kz => XS.iloadN X0.here hx rfl (hb hby at_1) rfl kz) ?_
  show own_Go p.tables e below _ s₁ (mkF m 2 #[.val (.int p1), .val (.int p2), .val (.int p3), .val (.int p4), .val (.long q5), .second, .unset, .unset, .unset, .unset, .unset, .unset, .unset, .unset, .unset, .unset] [(.int p1), (.int (1 : Int32))])
  refine own_go (fun tz kz => X0.ldcI hx hown (mvT hZ (hw _ (List.mem_of_getElem? (i := 0) rfl))) rfl (hb hby at_2) kz) ?_
  show own_Go p.tables e below _ s₁ (mkF m 4 #[.val (.int p1), .val (.int p2), .val (.int p3), .val (.int p4), .val (.long q5), .second, .unset, .unset, .unset, .unset, .unset, .unset, .unset, .unset, .unset, .unset] [(.int (536870911 : Int32)), (.int p1), (.int (1 : Int32))])
  refine own_go (fun tz kz => XS.iand X0.here hx rfl (hb hby at_4) rfl kz) ?_
  show own_Go p.tables e below _ s₁ (mkF m 5 #[.val (.int p1), .val (.int p2), .val (.int p3), .val (.int p4), .val (.long q5), .second, .unset, .unset, .unset, .unset, .unset, .unset, .unset, .unset, .unset, .unset] [(.int (p1 &&& (536870911 : Int32))), (.int (1 : Int32))])
  refine own_go (fun tz kz => XS.iadd X0.here hx rfl (hb hby at_5) rfl kz) ?_
  show own_Go p.tables e below _ s₁ (mkF m 6 #[.val (.int p1), .val (.int p2), .val (.int p3), .val (.int p4), .val (.long q5), .second, .unset, .unset, .unset, .unset, .unset, .unset, .unset, .unset, .unset, .unset] [(.int ((1 : Int32) + (p1 &&& (536870911 : Int32))))])
  refine own_go (fun tz kz => XS.istore X0.here hx rfl (hb hby at_6) rfl (l' := #[.val (.int p1), .val (.int p2), .val (.int p3), .val (.int p4), .val (.long q5), .second, .val (.int ((1 : Int32) + (p1 &&& (536870911 : Int32)))), .unset, .unset, .unset, .unset, .unset, .unset, .unset, .unset, .unset]) rfl kz) ?_
  show own_Go p.tables e below _ s₁ (mkF m 8 #[.val (.int p1), .val (.int p2), .val (.int p3), .val (.int p4), .val (.long q5), .second, .val (.int ((1 : Int32) + (p1 &&& (536870911 : Int32)))), .unset, .unset, .unset, .unset, .unset, .unset, .unset, .unset, .unset] [])
  generalize ((1 : Int32) + (p1 &&& (536870911 : Int32))) = r1 at hr1 hr12 hr23 ⊢
  show own_Go p.tables e below _ s₁ (mkF m 8 #[.val (.int p1), .val (.int p2), .val (.int p3), .val (.int p4), .val (.long q5), .second, .val (.int r1), .unset, .unset, .unset, .unset, .unset, .unset, .unset, .unset, .unset] [])
  refine own_go (fun tz kz => XS.iload X0.here hx rfl (hb hby at_8) rfl kz) ?_
  show own_Go p.tables e below _ s₁ (mkF m 10 #[.val (.int p1), .val (.int p2), .val (.int p3), .val (.int p4), .val (.long q5), .second, .val (.int r1), .unset, .unset, .unset, .unset, .unset, .unset, .unset, .unset, .unset] [(.int r1)])
  refine own_go (fun tz kz => XS.iconst X0.here hx rfl (hb hby at_10) kz) ?_
  show own_Go p.tables e below _ s₁ (mkF m 11 #[.val (.int p1), .val (.int p2), .val (.int p3), .val (.int p4), .val (.long q5), .second, .val (.int r1), .unset, .unset, .unset, .unset, .unset, .unset, .unset, .unset, .unset] [(.int (1 : Int32)), (.int r1)])
  refine own_go (fun tz kz => XS.iadd X0.here hx rfl (hb hby at_11) rfl kz) ?_
  show own_Go p.tables e below _ s₁ (mkF m 12 #[.val (.int p1), .val (.int p2), .val (.int p3), .val (.int p4), .val (.long q5), .second, .val (.int r1), .unset, .unset, .unset, .unset, .unset, .unset, .unset, .unset, .unset] [(.int (r1 + (1 : Int32)))])
  refine own_go (fun tz kz => XS.iloadN X0.here hx rfl (hb hby at_12) rfl kz) ?_
  show own_Go p.tables e below _ s₁ (mkF m 13 #[.val (.int p1), .val (.int p2), .val (.int p3), .val (.int p4), .val (.long q5), .second, .val (.int r1), .unset, .unset, .unset, .unset, .unset, .unset, .unset, .unset, .unset] [(.int p2), (.int (r1 + (1 : Int32)))])
  refine own_go (fun tz kz => X0.ldcI hx hown (mvT hZ (hw _ (List.mem_of_getElem? (i := 0) rfl))) rfl (hb hby at_13) kz) ?_
  show own_Go p.tables e below _ s₁ (mkF m 15 #[.val (.int p1), .val (.int p2), .val (.int p3), .val (.int p4), .val (.long q5), .second, .val (.int r1), .unset, .unset, .unset, .unset, .unset, .unset, .unset, .unset, .unset] [(.int (536870911 : Int32)), (.int p2), (.int (r1 + (1 : Int32)))])
  refine own_go (fun tz kz => XS.iand X0.here hx rfl (hb hby at_15) rfl kz) ?_
  show own_Go p.tables e below _ s₁ (mkF m 16 #[.val (.int p1), .val (.int p2), .val (.int p3), .val (.int p4), .val (.long q5), .second, .val (.int r1), .unset, .unset, .unset, .unset, .unset, .unset, .unset, .unset, .unset] [(.int (p2 &&& (536870911 : Int32))), (.int (r1 + (1 : Int32)))])
  refine own_go (fun tz kz => XS.iadd X0.here hx rfl (hb hby at_16) rfl kz) ?_
  show own_Go p.tables e below _ s₁ (mkF m 17 #[.val (.int p1), .val (.int p2), .val (.int p3), .val (.int p4), .val (.long q5), .second, .val (.int r1), .unset, .unset, .unset, .unset, .unset, .unset, .unset, .unset, .unset] [(.int ((r1 + (1 : Int32)) + (p2 &&& (536870911 : Int32))))])
  refine own_go (fun tz kz => XS.istore X0.here hx rfl (hb hby at_17) rfl (l' := #[.val (.int p1), .val (.int p2), .val (.int p3), .val (.int p4), .val (.long q5), .second, .val (.int r1), .val (.int ((r1 + (1 : Int32)) + (p2 &&& (536870911 : Int32)))), .unset, .unset, .unset, .unset, .unset, .unset, .unset, .unset]) rfl kz) ?_
  show own_Go p.tables e below _ s₁ (mkF m 19 #[.val (.int p1), .val (.int p2), .val (.int p3), .val (.int p4), .val (.long q5), .second, .val (.int r1), .val (.int ((r1 + (1 : Int32)) + (p2 &&& (536870911 : Int32)))), .unset, .unset, .unset, .unset, .unset, .unset, .unset, .unset] [])
  generalize ((r1 + (1 : Int32)) + (p2 &&& (536870911 : Int32))) = r2 at hr1 hr12 hr23 ⊢
  show own_Go p.tables e below _ s₁ (mkF m 19 #[.val (.int p1), .val (.int p2), .val (.int p3), .val (.int p4), .val (.long q5), .second, .val (.int r1), .val (.int r2), .unset, .unset, .unset, .unset, .unset, .unset, .unset, .unset] [])
  refine own_go (fun tz kz => XS.iload X0.here hx rfl (hb hby at_19) rfl kz) ?_
  show own_Go p.tables e below _ s₁ (mkF m 21 #[.val (.int p1), .val (.int p2), .val (.int p3), .val (.int p4), .val (.long q5), .second, .val (.int r1), .val (.int r2), .unset, .unset, .unset, .unset, .unset, .unset, .unset, .unset] [(.int r2)])
  refine own_go (fun tz kz => XS.iconst X0.here hx rfl (hb hby at_21) kz) ?_
  show own_Go p.tables e below _ s₁ (mkF m 22 #[.val (.int p1), .val (.int p2), .val (.int p3), .val (.int p4), .val (.long q5), .second, .val (.int r1), .val (.int r2), .unset, .unset, .unset, .unset, .unset, .unset, .unset, .unset] [(.int (1 : Int32)), (.int r2)])
  refine own_go (fun tz kz => XS.iadd X0.here hx rfl (hb hby at_22) rfl kz) ?_
  show own_Go p.tables e below _ s₁ (mkF m 23 #[.val (.int p1), .val (.int p2), .val (.int p3), .val (.int p4), .val (.long q5), .second, .val (.int r1), .val (.int r2), .unset, .unset, .unset, .unset, .unset, .unset, .unset, .unset] [(.int (r2 + (1 : Int32)))])
  refine own_go (fun tz kz => XS.iloadN X0.here hx rfl (hb hby at_23) rfl kz) ?_
  show own_Go p.tables e below _ s₁ (mkF m 24 #[.val (.int p1), .val (.int p2), .val (.int p3), .val (.int p4), .val (.long q5), .second, .val (.int r1), .val (.int r2), .unset, .unset, .unset, .unset, .unset, .unset, .unset, .unset] [(.int p3), (.int (r2 + (1 : Int32)))])
  refine own_go (fun tz kz => X0.ldcI hx hown (mvT hZ (hw _ (List.mem_of_getElem? (i := 0) rfl))) rfl (hb hby at_24) kz) ?_
  show own_Go p.tables e below _ s₁ (mkF m 26 #[.val (.int p1), .val (.int p2), .val (.int p3), .val (.int p4), .val (.long q5), .second, .val (.int r1), .val (.int r2), .unset, .unset, .unset, .unset, .unset, .unset, .unset, .unset] [(.int (536870911 : Int32)), (.int p3), (.int (r2 + (1 : Int32)))])
  refine own_go (fun tz kz => XS.iand X0.here hx rfl (hb hby at_26) rfl kz) ?_
  show own_Go p.tables e below _ s₁ (mkF m 27 #[.val (.int p1), .val (.int p2), .val (.int p3), .val (.int p4), .val (.long q5), .second, .val (.int r1), .val (.int r2), .unset, .unset, .unset, .unset, .unset, .unset, .unset, .unset] [(.int (p3 &&& (536870911 : Int32))), (.int (r2 + (1 : Int32)))])
  refine own_go (fun tz kz => XS.iadd X0.here hx rfl (hb hby at_27) rfl kz) ?_
  show own_Go p.tables e below _ s₁ (mkF m 28 #[.val (.int p1), .val (.int p2), .val (.int p3), .val (.int p4), .val (.long q5), .second, .val (.int r1), .val (.int r2), .unset, .unset, .unset, .unset, .unset, .unset, .unset, .unset] [(.int ((r2 + (1 : Int32)) + (p3 &&& (536870911 : Int32))))])
  refine own_go (fun tz kz => XS.istore X0.here hx rfl (hb hby at_28) rfl (l' := #[.val (.int p1), .val (.int p2), .val (.int p3), .val (.int p4), .val (.long q5), .second, .val (.int r1), .val (.int r2), .val (.int ((r2 + (1 : Int32)) + (p3 &&& (536870911 : Int32)))), .unset, .unset, .unset, .unset, .unset, .unset, .unset]) rfl kz) ?_
  show own_Go p.tables e below _ s₁ (mkF m 30 #[.val (.int p1), .val (.int p2), .val (.int p3), .val (.int p4), .val (.long q5), .second, .val (.int r1), .val (.int r2), .val (.int ((r2 + (1 : Int32)) + (p3 &&& (536870911 : Int32)))), .unset, .unset, .unset, .unset, .unset, .unset, .unset] [])
  generalize ((r2 + (1 : Int32)) + (p3 &&& (536870911 : Int32))) = r3 at hr1 hr12 hr23 ⊢
  show own_Go p.tables e below _ s₁ (mkF m 30 #[.val (.int p1), .val (.int p2), .val (.int p3), .val (.int p4), .val (.long q5), .second, .val (.int r1), .val (.int r2), .val (.int r3), .unset, .unset, .unset, .unset, .unset, .unset, .unset] [])
  have hr1' : ¬ r1 < 1 := by rw [Int32.lt_iff_toInt_lt, own_one32]; omega
  obtain ⟨T1, h1, X1, e1, E1, A1, D1, -, st1⟩ := newO X0 hx hZ hown (hw _ (List.mem_of_getElem? (i := 1) rfl)) (hw _ (List.mem_of_getElem? (i := 2) rfl)) (hw _ (List.mem_of_getElem? (i := 3) rfl)) e0 (g := (mkF m 30 #[.val (.int p1), .val (.int p2), .val (.int p3), .val (.int p4), .val (.long q5), .second, .val (.int r1), .val (.int r2), .val (.int r3), .unset, .unset, .unset, .unset, .unset, .unset, .unset] [])) rfl (hb hby at_30) (by decide) (by decide)
  obtain ⟨o, eq_o⟩ : ∃ z, z = (h0).size := ⟨_, rfl⟩
  rw [← eq_o] at A1 D1 st1
  have g_o : n0 ≤ o := Nat.le_trans Z0 (Nat.le_of_eq eq_o.symm)
  have F_minorTo_o : Fld Z h1 o "com/example/gunline/gunline/core/SeverityLevels" "minorTo" "I" (.int (0 : Int32)) := D1 (Or.inr (hw _ (List.mem_of_getElem? (i := 16) rfl))) (ty := .int) (by decide)
  have F_majorTo_o : Fld Z h1 o "com/example/gunline/gunline/core/SeverityLevels" "majorTo" "I" (.int (0 : Int32)) := D1 (Or.inr (hw _ (List.mem_of_getElem? (i := 18) rfl))) (ty := .int) (by decide)
  have F_severeTo_o : Fld Z h1 o "com/example/gunline/gunline/core/SeverityLevels" "severeTo" "I" (.int (0 : Int32)) := D1 (Or.inr (hw _ (List.mem_of_getElem? (i := 20) rfl))) (ty := .int) (by decide)
  refine own_go st1 ?_
  show own_Go p.tables e below _ T1 (mkF m 33 #[.val (.int p1), .val (.int p2), .val (.int p3), .val (.int p4), .val (.long q5), .second, .val (.int r1), .val (.int r2), .val (.int r3), .unset, .unset, .unset, .unset, .unset, .unset, .unset] [(.ref o)])
  refine own_go (fun tz kz => XS.dup X1.here hx rfl (hb hby at_33) rfl rfl kz) ?_
  show own_Go p.tables e below _ T1 (mkF m 34 #[.val (.int p1), .val (.int p2), .val (.int p3), .val (.int p4), .val (.long q5), .second, .val (.int r1), .val (.int r2), .val (.int r3), .unset, .unset, .unset, .unset, .unset, .unset, .unset] [(.ref o), (.ref o)])
  refine own_go (fun tz kz => XS.iload X1.here hx rfl (hb hby at_34) rfl kz) ?_
  show own_Go p.tables e below _ T1 (mkF m 36 #[.val (.int p1), .val (.int p2), .val (.int p3), .val (.int p4), .val (.long q5), .second, .val (.int r1), .val (.int r2), .val (.int r3), .unset, .unset, .unset, .unset, .unset, .unset, .unset] [(.int r1), (.ref o), (.ref o)])
  refine own_go (fun tz kz => XS.iload X1.here hx rfl (hb hby at_36) rfl kz) ?_
  show own_Go p.tables e below _ T1 (mkF m 38 #[.val (.int p1), .val (.int p2), .val (.int p3), .val (.int p4), .val (.long q5), .second, .val (.int r1), .val (.int r2), .val (.int r3), .unset, .unset, .unset, .unset, .unset, .unset, .unset] [(.int r2), (.int r1), (.ref o), (.ref o)])
  refine own_go (fun tz kz => XS.iload X1.here hx rfl (hb hby at_38) rfl kz) ?_
  show own_Go p.tables e below _ T1 (mkF m 40 #[.val (.int p1), .val (.int p2), .val (.int p3), .val (.int p4), .val (.long q5), .second, .val (.int r1), .val (.int r2), .val (.int r3), .unset, .unset, .unset, .unset, .unset, .unset, .unset] [(.int r3), (.int r2), (.int r1), (.ref o), (.ref o)])
  obtain ⟨_, _, ⟨T2, L2, k2, n2⟩, -, X2, ⟨Lc2, hQ2, l2, y2, z2⟩, st2⟩ := X1.specialBack hx (y := (⟨"com/example/gunline/gunline/core/SeverityLevels", "<init>", "(III)V"⟩ : MethodName)) rfl hown (mvT hZ (hw _ (List.mem_of_getElem? (i := 4) rfl))) (mvT hZ (hw _ (List.mem_of_getElem? (i := 5) rfl))) (mvT hZ (hw _ (List.mem_of_getElem? (i := 6) rfl))) (by decide) (backOf (W := 1) (rm1 l Z a0 hw [] o r1 r2 r3 _ _ _ h1 n0 (Nat.le_trans Z0 E1.1) F_minorTo_o F_majorTo_o F_severeTo_o A1 g_o hr1' hr12 hr23) hZ (hw _ (List.mem_of_getElem? (i := 6) rfl)) (hw _ (List.mem_of_getElem? (i := 3) rfl)) (by decide) (by decide)) (g := (mkF m 40 #[.val (.int p1), .val (.int p2), .val (.int p3), .val (.int p4), .val (.long q5), .second, .val (.int r1), .val (.int r2), .val (.int r3), .unset, .unset, .unset, .unset, .unset, .unset, .unset] [(.int r3), (.int r2), (.int r1), (.ref o), (.ref o)])) rfl (by rw [hml]; rfl) (Steps.refl _) (a := o) (argsL := [(.int r1), (.int r2), (.int r3)]) (rest := [(.ref o)]) (lenOf pd_1 rfl) rfl (by show 2 * 0 + _ ≤ _; exact Nat.le_of_eq rfl) (hb hby at_40) (fun _ _ => ⟨rfl, e1, (by decide : 1 + 0 ≤ _), (by decide : 3 + 0 ≤ _)⟩)
  dsimp only [Pt.U, Pt.locs, Pt.cells, Pt.slots] at X2 l2 y2 z2 st2 hQ2
  subst l2 y2 z2
  obtain ⟨rfl, N2q, K2, Ex, F0, F1, F2⟩ := hQ2
  have N2 := Fr.app N0 N2q
  refine own_go (fun tz kz => st2.trans kz) ?_
  show own_Go p.tables e below _ T2 (mkF m 43 #[.val (.int p1), .val (.int p2), .val (.int p3), .val (.int p4), .val (.long q5), .second, .val (.int r1), .val (.int r2), .val (.int r3), .unset, .unset, .unset, .unset, .unset, .unset, .unset] [(.ref o)])
  have O1 := (O0.ext E1).keep K2 (fun x hx => by cases List.mem_singleton.mp hx; exact g_o)
  have S0' := S0.ext O1.2
  have S1' := S1.ext O1.2
  have S2' := S2.ext O1.2
  have S3' := S3.ext O1.2
  have S4' := S4.ext O1.2
  refine own_go (fun tz kz => XS.astore X2.here hx rfl (hb hby at_43) rfl rfl (l' := #[.val (.int p1), .val (.int p2), .val (.int p3), .val (.int p4), .val (.long q5), .second, .val (.int r1), .val (.int r2), .val (.int r3), .val (.ref o), .unset, .unset, .unset, .unset, .unset, .unset]) rfl kz) ?_
  show own_Go p.tables e below _ T2 (mkF m 45 #[.val (.int p1), .val (.int p2), .val (.int p3), .val (.int p4), .val (.long q5), .second, .val (.int r1), .val (.int r2), .val (.int r3), .val (.ref o), .unset, .unset, .unset, .unset, .unset, .unset] [])
  refine own_go (fun tz kz => XS.iloadN X2.here hx rfl (hb hby at_45) rfl kz) ?_
  show own_Go p.tables e below _ T2 (mkF m 46 #[.val (.int p1), .val (.int p2), .val (.int p3), .val (.int p4), .val (.long q5), .second, .val (.int r1), .val (.int r2), .val (.int r3), .val (.ref o), .unset, .unset, .unset, .unset, .unset, .unset] [(.int p4)])
  refine own_go (fun tz kz => XS.bipush X2.here hx rfl (hb hby at_46) kz) ?_
  show own_Go p.tables e below _ T2 (mkF m 48 #[.val (.int p1), .val (.int p2), .val (.int p3), .val (.int p4), .val (.long q5), .second, .val (.int r1), .val (.int r2), .val (.int r3), .val (.ref o), .unset, .unset, .unset, .unset, .unset, .unset] [(.int (7 : Int32)), (.int p4)])
  refine own_go (fun tz kz => XS.iand X2.here hx rfl (hb hby at_48) rfl kz) ?_
  show own_Go p.tables e below _ T2 (mkF m 49 #[.val (.int p1), .val (.int p2), .val (.int p3), .val (.int p4), .val (.long q5), .second, .val (.int r1), .val (.int r2), .val (.int r3), .val (.ref o), .unset, .unset, .unset, .unset, .unset, .unset] [(.int (p4 &&& (7 : Int32)))])
  refine own_go (fun tz kz => XS.istore X2.here hx rfl (hb hby at_49) rfl (l' := #[.val (.int p1), .val (.int p2), .val (.int p3), .val (.int p4), .val (.long q5), .second, .val (.int r1), .val (.int r2), .val (.int r3), .val (.ref o), .val (.int (p4 &&& (7 : Int32))), .unset, .unset, .unset, .unset, .unset]) rfl kz) ?_
  show own_Go p.tables e below _ T2 (mkF m 51 #[.val (.int p1), .val (.int p2), .val (.int p3), .val (.int p4), .val (.long q5), .second, .val (.int r1), .val (.int r2), .val (.int r3), .val (.ref o), .val (.int (p4 &&& (7 : Int32))), .unset, .unset, .unset, .unset, .unset] [])
  refine own_go (fun tz kz => XS.iloadN X2.here hx rfl (hb hby at_51) rfl kz) ?_
  show own_Go p.tables e below _ T2 (mkF m 52 #[.val (.int p1), .val (.int p2), .val (.int p3), .val (.int p4), .val (.long q5), .second, .val (.int r1), .val (.int r2), .val (.int r3), .val (.ref o), .val (.int (p4 &&& (7 : Int32))), .unset, .unset, .unset, .unset, .unset] [(.int p4)])
  refine own_go (fun tz kz => XS.iconst X2.here hx rfl (hb hby at_52) kz) ?_
  show own_Go p.tables e below _ T2 (mkF m 53 #[.val (.int p1), .val (.int p2), .val (.int p3), .val (.int p4), .val (.long q5), .second, .val (.int r1), .val (.int r2), .val (.int r3), .val (.ref o), .val (.int (p4 &&& (7 : Int32))), .unset, .unset, .unset, .unset, .unset] [(.int (3 : Int32)), (.int p4)])
  refine own_go (fun tz kz => XT.iushr X2.here hx rfl (hb hby at_53) rfl kz) ?_
  show own_Go p.tables e below _ T2 (mkF m 54 #[.val (.int p1), .val (.int p2), .val (.int p3), .val (.int p4), .val (.long q5), .second, .val (.int r1), .val (.int r2), .val (.int r3), .val (.ref o), .val (.int (p4 &&& (7 : Int32))), .unset, .unset, .unset, .unset, .unset] [(.int (XT.ushr p4 (3 : Int32)))])
  refine own_go (fun tz kz => XS.iconst X2.here hx rfl (hb hby at_54) kz) ?_
  show own_Go p.tables e below _ T2 (mkF m 55 #[.val (.int p1), .val (.int p2), .val (.int p3), .val (.int p4), .val (.long q5), .second, .val (.int r1), .val (.int r2), .val (.int r3), .val (.ref o), .val (.int (p4 &&& (7 : Int32))), .unset, .unset, .unset, .unset, .unset] [(.int (3 : Int32)), (.int (XT.ushr p4 (3 : Int32)))])
  refine own_go (fun tz kz => XS.iand X2.here hx rfl (hb hby at_55) rfl kz) ?_
  show own_Go p.tables e below _ T2 (mkF m 56 #[.val (.int p1), .val (.int p2), .val (.int p3), .val (.int p4), .val (.long q5), .second, .val (.int r1), .val (.int r2), .val (.int r3), .val (.ref o), .val (.int (p4 &&& (7 : Int32))), .unset, .unset, .unset, .unset, .unset] [(.int ((XT.ushr p4 (3 : Int32)) &&& (3 : Int32)))])
  refine own_go (fun tz kz => XT.i2l X2.here hx rfl (hb hby at_56) rfl kz) ?_
  show own_Go p.tables e below _ T2 (mkF m 57 #[.val (.int p1), .val (.int p2), .val (.int p3), .val (.int p4), .val (.long q5), .second, .val (.int r1), .val (.int r2), .val (.int r3), .val (.ref o), .val (.int (p4 &&& (7 : Int32))), .unset, .unset, .unset, .unset, .unset] [(.long ((XT.ushr p4 (3 : Int32)) &&& (3 : Int32)).toInt64)])
  refine own_go (fun tz kz => XT.lconst X2.here hx rfl (hb hby at_57) kz) ?_
  show own_Go p.tables e below _ T2 (mkF m 58 #[.val (.int p1), .val (.int p2), .val (.int p3), .val (.int p4), .val (.long q5), .second, .val (.int r1), .val (.int r2), .val (.int r3), .val (.ref o), .val (.int (p4 &&& (7 : Int32))), .unset, .unset, .unset, .unset, .unset] [(.long (1 : Int64)), (.long ((XT.ushr p4 (3 : Int32)) &&& (3 : Int32)).toInt64)])
  refine own_go (fun tz kz => XT.lsub X2.here hx rfl (hb hby at_58) rfl kz) ?_
  show own_Go p.tables e below _ T2 (mkF m 59 #[.val (.int p1), .val (.int p2), .val (.int p3), .val (.int p4), .val (.long q5), .second, .val (.int r1), .val (.int r2), .val (.int r3), .val (.ref o), .val (.int (p4 &&& (7 : Int32))), .unset, .unset, .unset, .unset, .unset] [(.long (((XT.ushr p4 (3 : Int32)) &&& (3 : Int32)).toInt64 - (1 : Int64)))])
  refine own_go (fun tz kz => XT.lstore X2.here hx rfl (hb hby at_59) rfl (l' := #[.val (.int p1), .val (.int p2), .val (.int p3), .val (.int p4), .val (.long q5), .second, .val (.int r1), .val (.int r2), .val (.int r3), .val (.ref o), .val (.int (p4 &&& (7 : Int32))), .val (.long (((XT.ushr p4 (3 : Int32)) &&& (3 : Int32)).toInt64 - (1 : Int64))), .second, .unset, .unset, .unset]) rfl kz) ?_
  show own_Go p.tables e below _ T2 (mkF m 61 #[.val (.int p1), .val (.int p2), .val (.int p3), .val (.int p4), .val (.long q5), .second, .val (.int r1), .val (.int r2), .val (.int r3), .val (.ref o), .val (.int (p4 &&& (7 : Int32))), .val (.long (((XT.ushr p4 (3 : Int32)) &&& (3 : Int32)).toInt64 - (1 : Int64))), .second, .unset, .unset, .unset] [])
  generalize goff : (((XT.ushr p4 (3 : Int32)) &&& (3 : Int32)).toInt64 - (1 : Int64)) = off
  show own_Go p.tables e below _ T2 (mkF m 61 #[.val (.int p1), .val (.int p2), .val (.int p3), .val (.int p4), .val (.long q5), .second, .val (.int r1), .val (.int r2), .val (.int r3), .val (.ref o), .val (.int (p4 &&& (7 : Int32))), .val (.long off), .second, .unset, .unset, .unset] [])
  have J132 : ∀ (t : Int64), own_Go p.tables e below (own_P s (Q0 Z p1 p2 p3 p4 q5 ad0 ad1 ad2 ad3 ad4 h0 n0) room_1.cells room_1.slots) T2 (mkF m 132 #[.val (.int p1), .val (.int p2), .val (.int p3), .val (.int p4), .val (.long q5), .second, .val (.int r1), .val (.int r2), .val (.int r3), .val (.ref o), .val (.int (p4 &&& (7 : Int32))), .val (.long off), .second, .val (.long t), .second, .unset] []) := by
    intro t
    show own_Go p.tables e below _ T2 (mkF m 132 #[.val (.int p1), .val (.int p2), .val (.int p3), .val (.int p4), .val (.long q5), .second, .val (.int r1), .val (.int r2), .val (.int r3), .val (.ref o), .val (.int (p4 &&& (7 : Int32))), .val (.long off), .second, .val (.long t), .second, .unset] [])
    have J142 : ∀ (u : Int64) (hu : ¬ u < 0), own_Go p.tables e below (own_P s (Q0 Z p1 p2 p3 p4 q5 ad0 ad1 ad2 ad3 ad4 h0 n0) room_1.cells room_1.slots) T2 (mkF m 142 #[.val (.int p1), .val (.int p2), .val (.int p3), .val (.int p4), .val (.long q5), .second, .val (.int r1), .val (.int r2), .val (.int r3), .val (.ref o), .val (.int (p4 &&& (7 : Int32))), .val (.long off), .second, .val (.long u), .second, .unset] []) := by
      intro u hu
      show own_Go p.tables e below _ T2 (mkF m 142 #[.val (.int p1), .val (.int p2), .val (.int p3), .val (.int p4), .val (.long q5), .second, .val (.int r1), .val (.int r2), .val (.int r3), .val (.ref o), .val (.int (p4 &&& (7 : Int32))), .val (.long off), .second, .val (.long u), .second, .unset] [])
      refine own_go (fun tz kz => XT.lload X2.here hx rfl (hb hby at_142) rfl kz) ?_
      show own_Go p.tables e below _ T2 (mkF m 144 #[.val (.int p1), .val (.int p2), .val (.int p3), .val (.int p4), .val (.long q5), .second, .val (.int r1), .val (.int r2), .val (.int r3), .val (.ref o), .val (.int (p4 &&& (7 : Int32))), .val (.long off), .second, .val (.long u), .second, .unset] [(.long u)])
      refine own_go (fun tz kz => XT.lconst X2.here hx rfl (hb hby at_144) kz) ?_
      show own_Go p.tables e below _ T2 (mkF m 145 #[.val (.int p1), .val (.int p2), .val (.int p3), .val (.int p4), .val (.long q5), .second, .val (.int r1), .val (.int r2), .val (.int r3), .val (.ref o), .val (.int (p4 &&& (7 : Int32))), .val (.long off), .second, .val (.long u), .second, .unset] [(.long (1 : Int64)), (.long u)])
      refine own_go (fun tz kz => XT.lcmp X2.here hx rfl (hb hby at_145) rfl kz) ?_
      show own_Go p.tables e below _ T2 (mkF m 146 #[.val (.int p1), .val (.int p2), .val (.int p3), .val (.int p4), .val (.long q5), .second, .val (.int r1), .val (.int r2), .val (.int r3), .val (.ref o), .val (.int (p4 &&& (7 : Int32))), .val (.long off), .second, .val (.long u), .second, .unset] [(.int (XT.cmpL u (1 : Int64)))])
      have I0 : ∀ (x0 : Int32) (hx0 : x0 = (own_i1 u)), own_Go p.tables e below (own_P s (Q0 Z p1 p2 p3 p4 q5 ad0 ad1 ad2 ad3 ad4 h0 n0) room_1.cells room_1.slots) T2 (mkF m 154 #[.val (.int p1), .val (.int p2), .val (.int p3), .val (.int p4), .val (.long q5), .second, .val (.int r1), .val (.int r2), .val (.int r3), .val (.ref o), .val (.int (p4 &&& (7 : Int32))), .val (.long off), .second, .val (.long u), .second, .unset] [(.int x0)]) := by
        intro x0 hx0
        show own_Go p.tables e below _ T2 (mkF m 154 #[.val (.int p1), .val (.int p2), .val (.int p3), .val (.int p4), .val (.long q5), .second, .val (.int r1), .val (.int r2), .val (.int r3), .val (.ref o), .val (.int (p4 &&& (7 : Int32))), .val (.long off), .second, .val (.long u), .second, .unset] [(.int x0)])
        subst hx0
        show own_Go p.tables e below _ T2 (mkF m 154 #[.val (.int p1), .val (.int p2), .val (.int p3), .val (.int p4), .val (.long q5), .second, .val (.int r1), .val (.int r2), .val (.int r3), .val (.ref o), .val (.int (p4 &&& (7 : Int32))), .val (.long off), .second, .val (.long u), .second, .unset] [(.int (own_i1 u))])
        refine own_go (fun tz kz => XT.lload X2.here hx rfl (hb hby at_154) rfl kz) ?_
        show own_Go p.tables e below _ T2 (mkF m 156 #[.val (.int p1), .val (.int p2), .val (.int p3), .val (.int p4), .val (.long q5), .second, .val (.int r1), .val (.int r2), .val (.int r3), .val (.ref o), .val (.int (p4 &&& (7 : Int32))), .val (.long off), .second, .val (.long u), .second, .unset] [(.long u), (.int (own_i1 u))])
        refine own_go (fun tz kz => XS.iload X2.here hx rfl (hb hby at_156) rfl kz) ?_
        show own_Go p.tables e below _ T2 (mkF m 158 #[.val (.int p1), .val (.int p2), .val (.int p3), .val (.int p4), .val (.long q5), .second, .val (.int r1), .val (.int r2), .val (.int r3), .val (.ref o), .val (.int (p4 &&& (7 : Int32))), .val (.long off), .second, .val (.long u), .second, .unset] [(.int r1), (.long u), (.int (own_i1 u))])
        refine own_go (fun tz kz => XT.i2l X2.here hx rfl (hb hby at_158) rfl kz) ?_
        show own_Go p.tables e below _ T2 (mkF m 159 #[.val (.int p1), .val (.int p2), .val (.int p3), .val (.int p4), .val (.long q5), .second, .val (.int r1), .val (.int r2), .val (.int r3), .val (.ref o), .val (.int (p4 &&& (7 : Int32))), .val (.long off), .second, .val (.long u), .second, .unset] [(.long r1.toInt64), (.long u), (.int (own_i1 u))])
        refine own_go (fun tz kz => XT.lcmp X2.here hx rfl (hb hby at_159) rfl kz) ?_
        show own_Go p.tables e below _ T2 (mkF m 160 #[.val (.int p1), .val (.int p2), .val (.int p3), .val (.int p4), .val (.long q5), .second, .val (.int r1), .val (.int r2), .val (.int r3), .val (.ref o), .val (.int (p4 &&& (7 : Int32))), .val (.long off), .second, .val (.long u), .second, .unset] [(.int (XT.cmpL u r1.toInt64)), (.int (own_i1 u))])
        have I1 : ∀ (x1 : Int32) (hx1 : x1 = (own_i2 u r1)), own_Go p.tables e below (own_P s (Q0 Z p1 p2 p3 p4 q5 ad0 ad1 ad2 ad3 ad4 h0 n0) room_1.cells room_1.slots) T2 (mkF m 168 #[.val (.int p1), .val (.int p2), .val (.int p3), .val (.int p4), .val (.long q5), .second, .val (.int r1), .val (.int r2), .val (.int r3), .val (.ref o), .val (.int (p4 &&& (7 : Int32))), .val (.long off), .second, .val (.long u), .second, .unset] [(.int x1), (.int (own_i1 u))]) := by
          intro x1 hx1
          show own_Go p.tables e below _ T2 (mkF m 168 #[.val (.int p1), .val (.int p2), .val (.int p3), .val (.int p4), .val (.long q5), .second, .val (.int r1), .val (.int r2), .val (.int r3), .val (.ref o), .val (.int (p4 &&& (7 : Int32))), .val (.long off), .second, .val (.long u), .second, .unset] [(.int x1), (.int (own_i1 u))])
          subst hx1
          show own_Go p.tables e below _ T2 (mkF m 168 #[.val (.int p1), .val (.int p2), .val (.int p3), .val (.int p4), .val (.long q5), .second, .val (.int r1), .val (.int r2), .val (.int r3), .val (.ref o), .val (.int (p4 &&& (7 : Int32))), .val (.long off), .second, .val (.long u), .second, .unset] [(.int (own_i2 u r1)), (.int (own_i1 u))])
          refine own_go (fun tz kz => XS.iadd X2.here hx rfl (hb hby at_168) rfl kz) ?_
          show own_Go p.tables e below _ T2 (mkF m 169 #[.val (.int p1), .val (.int p2), .val (.int p3), .val (.int p4), .val (.long q5), .second, .val (.int r1), .val (.int r2), .val (.int r3), .val (.ref o), .val (.int (p4 &&& (7 : Int32))), .val (.long off), .second, .val (.long u), .second, .unset] [(.int ((own_i1 u) + (own_i2 u r1)))])
          refine own_go (fun tz kz => XT.lload X2.here hx rfl (hb hby at_169) rfl kz) ?_
          show own_Go p.tables e below _ T2 (mkF m 171 #[.val (.int p1), .val (.int p2), .val (.int p3), .val (.int p4), .val (.long q5), .second, .val (.int r1), .val (.int r2), .val (.int r3), .val (.ref o), .val (.int (p4 &&& (7 : Int32))), .val (.long off), .second, .val (.long u), .second, .unset] [(.long u), (.int ((own_i1 u) + (own_i2 u r1)))])
          refine own_go (fun tz kz => XS.iload X2.here hx rfl (hb hby at_171) rfl kz) ?_
          show own_Go p.tables e below _ T2 (mkF m 173 #[.val (.int p1), .val (.int p2), .val (.int p3), .val (.int p4), .val (.long q5), .second, .val (.int r1), .val (.int r2), .val (.int r3), .val (.ref o), .val (.int (p4 &&& (7 : Int32))), .val (.long off), .second, .val (.long u), .second, .unset] [(.int r2), (.long u), (.int ((own_i1 u) + (own_i2 u r1)))])
          refine own_go (fun tz kz => XT.i2l X2.here hx rfl (hb hby at_173) rfl kz) ?_
          show own_Go p.tables e below _ T2 (mkF m 174 #[.val (.int p1), .val (.int p2), .val (.int p3), .val (.int p4), .val (.long q5), .second, .val (.int r1), .val (.int r2), .val (.int r3), .val (.ref o), .val (.int (p4 &&& (7 : Int32))), .val (.long off), .second, .val (.long u), .second, .unset] [(.long r2.toInt64), (.long u), (.int ((own_i1 u) + (own_i2 u r1)))])
          refine own_go (fun tz kz => XT.lcmp X2.here hx rfl (hb hby at_174) rfl kz) ?_
          show own_Go p.tables e below _ T2 (mkF m 175 #[.val (.int p1), .val (.int p2), .val (.int p3), .val (.int p4), .val (.long q5), .second, .val (.int r1), .val (.int r2), .val (.int r3), .val (.ref o), .val (.int (p4 &&& (7 : Int32))), .val (.long off), .second, .val (.long u), .second, .unset] [(.int (XT.cmpL u r2.toInt64)), (.int ((own_i1 u) + (own_i2 u r1)))])
          have I2 : ∀ (x2 : Int32) (hx2 : x2 = (own_i2 u r2)), own_Go p.tables e below (own_P s (Q0 Z p1 p2 p3 p4 q5 ad0 ad1 ad2 ad3 ad4 h0 n0) room_1.cells room_1.slots) T2 (mkF m 183 #[.val (.int p1), .val (.int p2), .val (.int p3), .val (.int p4), .val (.long q5), .second, .val (.int r1), .val (.int r2), .val (.int r3), .val (.ref o), .val (.int (p4 &&& (7 : Int32))), .val (.long off), .second, .val (.long u), .second, .unset] [(.int x2), (.int ((own_i1 u) + (own_i2 u r1)))]) := by
            intro x2 hx2
            show own_Go p.tables e below _ T2 (mkF m 183 #[.val (.int p1), .val (.int p2), .val (.int p3), .val (.int p4), .val (.long q5), .second, .val (.int r1), .val (.int r2), .val (.int r3), .val (.ref o), .val (.int (p4 &&& (7 : Int32))), .val (.long off), .second, .val (.long u), .second, .unset] [(.int x2), (.int ((own_i1 u) + (own_i2 u r1)))])
            subst hx2
            show own_Go p.tables e below _ T2 (mkF m 183 #[.val (.int p1), .val (.int p2), .val (.int p3), .val (.int p4), .val (.long q5), .second, .val (.int r1), .val (.int r2), .val (.int r3), .val (.ref o), .val (.int (p4 &&& (7 : Int32))), .val (.long off), .second, .val (.long u), .second, .unset] [(.int (own_i2 u r2)), (.int ((own_i1 u) + (own_i2 u r1)))])
            refine own_go (fun tz kz => XS.iadd X2.here hx rfl (hb hby at_183) rfl kz) ?_
            show own_Go p.tables e below _ T2 (mkF m 184 #[.val (.int p1), .val (.int p2), .val (.int p3), .val (.int p4), .val (.long q5), .second, .val (.int r1), .val (.int r2), .val (.int r3), .val (.ref o), .val (.int (p4 &&& (7 : Int32))), .val (.long off), .second, .val (.long u), .second, .unset] [(.int (((own_i1 u) + (own_i2 u r1)) + (own_i2 u r2)))])
            refine own_go (fun tz kz => XT.lload X2.here hx rfl (hb hby at_184) rfl kz) ?_
            show own_Go p.tables e below _ T2 (mkF m 186 #[.val (.int p1), .val (.int p2), .val (.int p3), .val (.int p4), .val (.long q5), .second, .val (.int r1), .val (.int r2), .val (.int r3), .val (.ref o), .val (.int (p4 &&& (7 : Int32))), .val (.long off), .second, .val (.long u), .second, .unset] [(.long u), (.int (((own_i1 u) + (own_i2 u r1)) + (own_i2 u r2)))])
            refine own_go (fun tz kz => XS.iload X2.here hx rfl (hb hby at_186) rfl kz) ?_
            show own_Go p.tables e below _ T2 (mkF m 188 #[.val (.int p1), .val (.int p2), .val (.int p3), .val (.int p4), .val (.long q5), .second, .val (.int r1), .val (.int r2), .val (.int r3), .val (.ref o), .val (.int (p4 &&& (7 : Int32))), .val (.long off), .second, .val (.long u), .second, .unset] [(.int r3), (.long u), (.int (((own_i1 u) + (own_i2 u r1)) + (own_i2 u r2)))])
            refine own_go (fun tz kz => XT.i2l X2.here hx rfl (hb hby at_188) rfl kz) ?_
            show own_Go p.tables e below _ T2 (mkF m 189 #[.val (.int p1), .val (.int p2), .val (.int p3), .val (.int p4), .val (.long q5), .second, .val (.int r1), .val (.int r2), .val (.int r3), .val (.ref o), .val (.int (p4 &&& (7 : Int32))), .val (.long off), .second, .val (.long u), .second, .unset] [(.long r3.toInt64), (.long u), (.int (((own_i1 u) + (own_i2 u r1)) + (own_i2 u r2)))])
            refine own_go (fun tz kz => XT.lcmp X2.here hx rfl (hb hby at_189) rfl kz) ?_
            show own_Go p.tables e below _ T2 (mkF m 190 #[.val (.int p1), .val (.int p2), .val (.int p3), .val (.int p4), .val (.long q5), .second, .val (.int r1), .val (.int r2), .val (.int r3), .val (.ref o), .val (.int (p4 &&& (7 : Int32))), .val (.long off), .second, .val (.long u), .second, .unset] [(.int (XT.cmpL u r3.toInt64)), (.int (((own_i1 u) + (own_i2 u r1)) + (own_i2 u r2)))])
            have I3 : ∀ (x3 : Int32) (hx3 : x3 = (own_i2 u r3)), own_Go p.tables e below (own_P s (Q0 Z p1 p2 p3 p4 q5 ad0 ad1 ad2 ad3 ad4 h0 n0) room_1.cells room_1.slots) T2 (mkF m 198 #[.val (.int p1), .val (.int p2), .val (.int p3), .val (.int p4), .val (.long q5), .second, .val (.int r1), .val (.int r2), .val (.int r3), .val (.ref o), .val (.int (p4 &&& (7 : Int32))), .val (.long off), .second, .val (.long u), .second, .unset] [(.int x3), (.int (((own_i1 u) + (own_i2 u r1)) + (own_i2 u r2)))]) := by
              intro x3 hx3
              show own_Go p.tables e below _ T2 (mkF m 198 #[.val (.int p1), .val (.int p2), .val (.int p3), .val (.int p4), .val (.long q5), .second, .val (.int r1), .val (.int r2), .val (.int r3), .val (.ref o), .val (.int (p4 &&& (7 : Int32))), .val (.long off), .second, .val (.long u), .second, .unset] [(.int x3), (.int (((own_i1 u) + (own_i2 u r1)) + (own_i2 u r2)))])
              subst hx3
              show own_Go p.tables e below _ T2 (mkF m 198 #[.val (.int p1), .val (.int p2), .val (.int p3), .val (.int p4), .val (.long q5), .second, .val (.int r1), .val (.int r2), .val (.int r3), .val (.ref o), .val (.int (p4 &&& (7 : Int32))), .val (.long off), .second, .val (.long u), .second, .unset] [(.int (own_i2 u r3)), (.int (((own_i1 u) + (own_i2 u r1)) + (own_i2 u r2)))])
              refine own_go (fun tz kz => XS.iadd X2.here hx rfl (hb hby at_198) rfl kz) ?_
              show own_Go p.tables e below _ T2 (mkF m 199 #[.val (.int p1), .val (.int p2), .val (.int p3), .val (.int p4), .val (.long q5), .second, .val (.int r1), .val (.int r2), .val (.int r3), .val (.ref o), .val (.int (p4 &&& (7 : Int32))), .val (.long off), .second, .val (.long u), .second, .unset] [(.int ((((own_i1 u) + (own_i2 u r1)) + (own_i2 u r2)) + (own_i2 u r3)))])
              refine own_go (fun tz kz => XS.istore X2.here hx rfl (hb hby at_199) rfl (l' := #[.val (.int p1), .val (.int p2), .val (.int p3), .val (.int p4), .val (.long q5), .second, .val (.int r1), .val (.int r2), .val (.int r3), .val (.ref o), .val (.int (p4 &&& (7 : Int32))), .val (.long off), .second, .val (.long u), .second, .val (.int ((((own_i1 u) + (own_i2 u r1)) + (own_i2 u r2)) + (own_i2 u r3)))]) rfl kz) ?_
              show own_Go p.tables e below _ T2 (mkF m 201 #[.val (.int p1), .val (.int p2), .val (.int p3), .val (.int p4), .val (.long q5), .second, .val (.int r1), .val (.int r2), .val (.int r3), .val (.ref o), .val (.int (p4 &&& (7 : Int32))), .val (.long off), .second, .val (.long u), .second, .val (.int ((((own_i1 u) + (own_i2 u r1)) + (own_i2 u r2)) + (own_i2 u r3)))] [])
              refine own_go (fun tz kz => XS.aload X2.here hx rfl (hb hby at_201) rfl rfl kz) ?_
              show own_Go p.tables e below _ T2 (mkF m 203 #[.val (.int p1), .val (.int p2), .val (.int p3), .val (.int p4), .val (.long q5), .second, .val (.int r1), .val (.int r2), .val (.int r3), .val (.ref o), .val (.int (p4 &&& (7 : Int32))), .val (.long off), .second, .val (.long u), .second, .val (.int ((((own_i1 u) + (own_i2 u r1)) + (own_i2 u r2)) + (own_i2 u r3)))] [(.ref o)])
              refine own_go (fun tz kz => XT.lload X2.here hx rfl (hb hby at_203) rfl kz) ?_
              show own_Go p.tables e below _ T2 (mkF m 205 #[.val (.int p1), .val (.int p2), .val (.int p3), .val (.int p4), .val (.long q5), .second, .val (.int r1), .val (.int r2), .val (.int r3), .val (.ref o), .val (.int (p4 &&& (7 : Int32))), .val (.long off), .second, .val (.long u), .second, .val (.int ((((own_i1 u) + (own_i2 u r1)) + (own_i2 u r2)) + (own_i2 u r3)))] [(.long u), (.ref o)])
              obtain ⟨cq3, kq3, q3a, q3b, q3c⟩ := isOf hZ rfl Ex
              obtain ⟨_, _, ⟨T3, L3, k3, n3⟩, -, X3, ⟨Lc3, hQ3, l3, y3, z3⟩, st3⟩ := X2.virtualBack hx (y := (⟨"com/example/gunline/gunline/core/SeverityLevels", "level", "(J)Lcom/example/gunline/gunline/core/SeverityLevels$Level;"⟩ : MethodName)) (z := (⟨"com/example/gunline/gunline/core/SeverityLevels", "level", "(J)Lcom/example/gunline/gunline/core/SeverityLevels$Level;"⟩ : MethodName)) hown (mvT hZ (hw _ (List.mem_of_getElem? (i := 21) rfl))) (mvT hZ (hw _ (List.mem_of_getElem? (i := 22) rfl))) (notFace_of_selects (args := #[]) (mvT hZ (hw _ (List.mem_of_getElem? (i := 24) rfl)))) (mvT hZ (hw _ (List.mem_of_getElem? (i := 24) rfl))) (mvT hZ (hw _ (List.mem_of_getElem? (i := 23) rfl))) (by decide) (backOf (W := 0) (rm4 l Z a0 hw [] o u r1 r2 r3 ad0 ad1 ad2 ad3 ad4 T2.heap n0 (Nat.le_trans (Nat.le_trans Z0 E1.1) K2.1) F0 F1 F2 S0' S1' S2' S3' S4' hu) hZ (hw _ (List.mem_of_getElem? (i := 25) rfl)) (hw _ (List.mem_of_getElem? (i := 3) rfl)) (by decide) (by decide)) q3a q3c (g := (mkF m 205 #[.val (.int p1), .val (.int p2), .val (.int p3), .val (.int p4), .val (.long q5), .second, .val (.int r1), .val (.int r2), .val (.int r3), .val (.ref o), .val (.int (p4 &&& (7 : Int32))), .val (.long off), .second, .val (.long u), .second, .val (.int ((((own_i1 u) + (own_i2 u r1)) + (own_i2 u r2)) + (own_i2 u r3)))] [(.long u), (.ref o)])) rfl (by rw [hml]; rfl) (Steps.refl _) (argsL := [(.long u)]) (rest := []) (lenOf pd_2 rfl) rfl (by show 2 * 0 + _ ≤ _; exact Nat.le_of_eq rfl) (hb hby at_205) (fun _ _ => ⟨rfl, rfl, (by decide : 1 + 0 ≤ _), (by decide : 3 + 0 ≤ _)⟩)
              dsimp only [Pt.U, Pt.locs, Pt.cells, Pt.slots] at X3 l3 y3 z3 st3 hQ3
              subst l3 y3 z3
              obtain ⟨rfl, N3q, e3⟩ := hQ3
              have N3 := Fr.app N2 N3q
              refine own_go (fun tz kz => st3.trans kz) ?_
              show own_Go p.tables e below _ T3 (mkF m 208 #[.val (.int p1), .val (.int p2), .val (.int p3), .val (.int p4), .val (.long q5), .second, .val (.int r1), .val (.int r2), .val (.int r3), .val (.ref o), .val (.int (p4 &&& (7 : Int32))), .val (.long off), .second, .val (.long u), .second, .val (.int ((((own_i1 u) + (own_i2 u r1)) + (own_i2 u r2)) + (own_i2 u r3)))] [(.ref (own_lv ad0 ad1 ad2 ad3 ad4 u r1 r2 r3))])
              obtain ⟨_, _, ⟨T4, L4, k4, n4⟩, -, X4, ⟨Lc4, hQ4, l4, y4, z4⟩, st4⟩ := Jvm.LawKit.callS X3 hx (y := (⟨"com/example/gunline/gunline/core/SeverityLevelsLevelPinLaw", "rank", "(Lcom/example/gunline/gunline/core/SeverityLevels$Level;)I"⟩ : MethodName)) hown (mvT hZ (hw _ (List.mem_of_getElem? (i := 29) rfl))) (mvT hZ (hw _ (List.mem_of_getElem? (i := 30) rfl))) (mvT hZ (hw _ (List.mem_of_getElem? (i := 31) rfl))) (mvT hZ (hw _ (List.mem_of_getElem? (i := 32) rfl))) (by decide) (backOf (W := 0) (rm5 l Z a0 hw [] (own_lv ad0 ad1 ad2 ad3 ad4 u r1 r2 r3) ad0 ad1 ad2 ad3 ad4 T2.heap n0 (Nat.le_trans (Nat.le_trans Z0 E1.1) K2.1) S0' S1' S2' S3' S4') hZ (hw _ (List.mem_of_getElem? (i := 32) rfl)) (hw _ (List.mem_of_getElem? (i := 31) rfl)) (by decide) (by decide)) (g := (mkF m 208 #[.val (.int p1), .val (.int p2), .val (.int p3), .val (.int p4), .val (.long q5), .second, .val (.int r1), .val (.int r2), .val (.int r3), .val (.ref o), .val (.int (p4 &&& (7 : Int32))), .val (.long off), .second, .val (.long u), .second, .val (.int ((((own_i1 u) + (own_i2 u r1)) + (own_i2 u r2)) + (own_i2 u r3)))] [(.ref (own_lv ad0 ad1 ad2 ad3 ad4 u r1 r2 r3))])) rfl (by rw [hml]; rfl) (argsL := [(.ref (own_lv ad0 ad1 ad2 ad3 ad4 u r1 r2 r3))]) (rest := []) (lenOf pd_3 rfl) rfl (by show 2 * 0 + _ ≤ _; exact Nat.le_of_eq rfl) (hb hby at_208) (fun _ _ => ⟨rfl, e3, (by decide : 1 + 0 ≤ _), (by decide : 3 + 0 ≤ _)⟩)
              dsimp only [Pt.U, Pt.locs, Pt.cells, Pt.slots] at X4 l4 y4 z4 st4 hQ4
              subst l4 y4 z4
              obtain ⟨rfl, N4q, e4⟩ := hQ4
              have N4 := Fr.app N3 N4q
              refine own_go (fun tz kz => st4 tz kz) ?_
              show own_Go p.tables e below _ T4 (mkF m 211 #[.val (.int p1), .val (.int p2), .val (.int p3), .val (.int p4), .val (.long q5), .second, .val (.int r1), .val (.int r2), .val (.int r3), .val (.ref o), .val (.int (p4 &&& (7 : Int32))), .val (.long off), .second, .val (.long u), .second, .val (.int ((((own_i1 u) + (own_i2 u r1)) + (own_i2 u r2)) + (own_i2 u r3)))] [(.int (own_rk ad0 ad1 ad2 ad3 ad4 (own_lv ad0 ad1 ad2 ad3 ad4 u r1 r2 r3)))])
              refine own_go (fun tz kz => XS.iload X4.here hx rfl (hb hby at_211) rfl kz) ?_
              show own_Go p.tables e below _ T4 (mkF m 213 #[.val (.int p1), .val (.int p2), .val (.int p3), .val (.int p4), .val (.long q5), .second, .val (.int r1), .val (.int r2), .val (.int r3), .val (.ref o), .val (.int (p4 &&& (7 : Int32))), .val (.long off), .second, .val (.long u), .second, .val (.int ((((own_i1 u) + (own_i2 u r1)) + (own_i2 u r2)) + (own_i2 u r3)))] [(.int ((((own_i1 u) + (own_i2 u r1)) + (own_i2 u r2)) + (own_i2 u r3))), (.int (own_rk ad0 ad1 ad2 ad3 ad4 (own_lv ad0 ad1 ad2 ad3 ad4 u r1 r2 r3)))])
              refine own_go (fun tz kz => XS.icmpNo X4.here hx rfl (hb hby at_213) rfl (XT.ii_ne_f (own_lv_rk h01 h02 h03 h04 h12 h13 h14 h23 h24 h34 hu hr1 hr12 hr23)) kz) ?_
              show own_Go p.tables e below _ T4 (mkF m 216 #[.val (.int p1), .val (.int p2), .val (.int p3), .val (.int p4), .val (.long q5), .second, .val (.int r1), .val (.int r2), .val (.int r3), .val (.ref o), .val (.int (p4 &&& (7 : Int32))), .val (.long off), .second, .val (.long u), .second, .val (.int ((((own_i1 u) + (own_i2 u r1)) + (own_i2 u r2)) + (own_i2 u r3)))] [])
              refine own_go (fun tz kz => XS.iconst X4.here hx rfl (hb hby at_216) kz) ?_
              show own_Go p.tables e below _ T4 (mkF m 217 #[.val (.int p1), .val (.int p2), .val (.int p3), .val (.int p4), .val (.long q5), .second, .val (.int r1), .val (.int r2), .val (.int r3), .val (.ref o), .val (.int (p4 &&& (7 : Int32))), .val (.long off), .second, .val (.long u), .second, .val (.int ((((own_i1 u) + (own_i2 u r1)) + (own_i2 u r2)) + (own_i2 u r3)))] [(.int (1 : Int32))])
              refine own_go (fun tz kz => XS.goto X4.here hx rfl (pc0 := 217) (pc' := 221) rfl (hb hby at_217) (by decide) (by decide) kz) ?_
              show own_Go p.tables e below _ T4 (mkF m 221 #[.val (.int p1), .val (.int p2), .val (.int p3), .val (.int p4), .val (.long q5), .second, .val (.int r1), .val (.int r2), .val (.int r3), .val (.ref o), .val (.int (p4 &&& (7 : Int32))), .val (.long off), .second, .val (.long u), .second, .val (.int ((((own_i1 u) + (own_i2 u r1)) + (own_i2 u r2)) + (own_i2 u r3)))] [(.int (1 : Int32))])
              obtain ⟨fs, hr, hrun, hended, hW, hsame⟩ := X4.leave (v := some (.int (1 : Int32))) (fun h => by rw [Bd.returns] at h; cases h) (BodyLoose.notSynchronized Bd)
              refine ⟨_, _, ?_, hrun, hended, _, _, rfl, ?_, ⟨_, rfl⟩, hW, hsame.mono (by decide) (by decide)⟩
              · exact retN X4 hx (t := .boolean) Bd.returns (by simp) (hb hby at_221) hr
              · show Q0 Z p1 p2 p3 p4 q5 ad0 ad1 ad2 ad3 ad4 h0 n0 _ T4.heap _
                rw [e4]
                exact ⟨rfl, N4⟩
            by_cases d3 : r3.toInt64 < u
            ·
              refine own_go (fun tz kz => XS.ifNo X2.here hx rfl (hb hby at_190) rfl (XT.ll_le_f d3) kz) ?_
              show own_Go p.tables e below _ T2 (mkF m 193 #[.val (.int p1), .val (.int p2), .val (.int p3), .val (.int p4), .val (.long q5), .second, .val (.int r1), .val (.int r2), .val (.int r3), .val (.ref o), .val (.int (p4 &&& (7 : Int32))), .val (.long off), .second, .val (.long u), .second, .unset] [(.int (((own_i1 u) + (own_i2 u r1)) + (own_i2 u r2)))])
              refine own_go (fun tz kz => XS.iconst X2.here hx rfl (hb hby at_193) kz) ?_
              show own_Go p.tables e below _ T2 (mkF m 194 #[.val (.int p1), .val (.int p2), .val (.int p3), .val (.int p4), .val (.long q5), .second, .val (.int r1), .val (.int r2), .val (.int r3), .val (.ref o), .val (.int (p4 &&& (7 : Int32))), .val (.long off), .second, .val (.long u), .second, .unset] [(.int (1 : Int32)), (.int (((own_i1 u) + (own_i2 u r1)) + (own_i2 u r2)))])
              refine own_go (fun tz kz => XS.goto X2.here hx rfl (pc0 := 194) (pc' := 198) rfl (hb hby at_194) (by decide) (by decide) kz) ?_
              show own_Go p.tables e below _ T2 (mkF m 198 #[.val (.int p1), .val (.int p2), .val (.int p3), .val (.int p4), .val (.long q5), .second, .val (.int r1), .val (.int r2), .val (.int r3), .val (.ref o), .val (.int (p4 &&& (7 : Int32))), .val (.long off), .second, .val (.long u), .second, .unset] [(.int (1 : Int32)), (.int (((own_i1 u) + (own_i2 u r1)) + (own_i2 u r2)))])
              exact I3 _ (if_pos d3).symm
            ·
              refine own_go (fun tz kz => XS.ifYes X2.here hx rfl (pc0 := 190) (pc' := 197) rfl (hb hby at_190) rfl (XT.ll_le_t d3) (by decide) (by decide) kz) ?_
              show own_Go p.tables e below _ T2 (mkF m 197 #[.val (.int p1), .val (.int p2), .val (.int p3), .val (.int p4), .val (.long q5), .second, .val (.int r1), .val (.int r2), .val (.int r3), .val (.ref o), .val (.int (p4 &&& (7 : Int32))), .val (.long off), .second, .val (.long u), .second, .unset] [(.int (((own_i1 u) + (own_i2 u r1)) + (own_i2 u r2)))])
              refine own_go (fun tz kz => XS.iconst X2.here hx rfl (hb hby at_197) kz) ?_
              show own_Go p.tables e below _ T2 (mkF m 198 #[.val (.int p1), .val (.int p2), .val (.int p3), .val (.int p4), .val (.long q5), .second, .val (.int r1), .val (.int r2), .val (.int r3), .val (.ref o), .val (.int (p4 &&& (7 : Int32))), .val (.long off), .second, .val (.long u), .second, .unset] [(.int (0 : Int32)), (.int (((own_i1 u) + (own_i2 u r1)) + (own_i2 u r2)))])
              exact I3 _ (if_neg d3).symm
          by_cases d2 : r2.toInt64 < u
          ·
            refine own_go (fun tz kz => XS.ifNo X2.here hx rfl (hb hby at_175) rfl (XT.ll_le_f d2) kz) ?_
            show own_Go p.tables e below _ T2 (mkF m 178 #[.val (.int p1), .val (.int p2), .val (.int p3), .val (.int p4), .val (.long q5), .second, .val (.int r1), .val (.int r2), .val (.int r3), .val (.ref o), .val (.int (p4 &&& (7 : Int32))), .val (.long off), .second, .val (.long u), .second, .unset] [(.int ((own_i1 u) + (own_i2 u r1)))])
            refine own_go (fun tz kz => XS.iconst X2.here hx rfl (hb hby at_178) kz) ?_
            show own_Go p.tables e below _ T2 (mkF m 179 #[.val (.int p1), .val (.int p2), .val (.int p3), .val (.int p4), .val (.long q5), .second, .val (.int r1), .val (.int r2), .val (.int r3), .val (.ref o), .val (.int (p4 &&& (7 : Int32))), .val (.long off), .second, .val (.long u), .second, .unset] [(.int (1 : Int32)), (.int ((own_i1 u) + (own_i2 u r1)))])
            refine own_go (fun tz kz => XS.goto X2.here hx rfl (pc0 := 179) (pc' := 183) rfl (hb hby at_179) (by decide) (by decide) kz) ?_
            show own_Go p.tables e below _ T2 (mkF m 183 #[.val (.int p1), .val (.int p2), .val (.int p3), .val (.int p4), .val (.long q5), .second, .val (.int r1), .val (.int r2), .val (.int r3), .val (.ref o), .val (.int (p4 &&& (7 : Int32))), .val (.long off), .second, .val (.long u), .second, .unset] [(.int (1 : Int32)), (.int ((own_i1 u) + (own_i2 u r1)))])
            exact I2 _ (if_pos d2).symm
          ·
            refine own_go (fun tz kz => XS.ifYes X2.here hx rfl (pc0 := 175) (pc' := 182) rfl (hb hby at_175) rfl (XT.ll_le_t d2) (by decide) (by decide) kz) ?_
            show own_Go p.tables e below _ T2 (mkF m 182 #[.val (.int p1), .val (.int p2), .val (.int p3), .val (.int p4), .val (.long q5), .second, .val (.int r1), .val (.int r2), .val (.int r3), .val (.ref o), .val (.int (p4 &&& (7 : Int32))), .val (.long off), .second, .val (.long u), .second, .unset] [(.int ((own_i1 u) + (own_i2 u r1)))])
            refine own_go (fun tz kz => XS.iconst X2.here hx rfl (hb hby at_182) kz) ?_
            show own_Go p.tables e below _ T2 (mkF m 183 #[.val (.int p1), .val (.int p2), .val (.int p3), .val (.int p4), .val (.long q5), .second, .val (.int r1), .val (.int r2), .val (.int r3), .val (.ref o), .val (.int (p4 &&& (7 : Int32))), .val (.long off), .second, .val (.long u), .second, .unset] [(.int (0 : Int32)), (.int ((own_i1 u) + (own_i2 u r1)))])
            exact I2 _ (if_neg d2).symm
        by_cases d1 : r1.toInt64 < u
        ·
          refine own_go (fun tz kz => XS.ifNo X2.here hx rfl (hb hby at_160) rfl (XT.ll_le_f d1) kz) ?_
          show own_Go p.tables e below _ T2 (mkF m 163 #[.val (.int p1), .val (.int p2), .val (.int p3), .val (.int p4), .val (.long q5), .second, .val (.int r1), .val (.int r2), .val (.int r3), .val (.ref o), .val (.int (p4 &&& (7 : Int32))), .val (.long off), .second, .val (.long u), .second, .unset] [(.int (own_i1 u))])
          refine own_go (fun tz kz => XS.iconst X2.here hx rfl (hb hby at_163) kz) ?_
          show own_Go p.tables e below _ T2 (mkF m 164 #[.val (.int p1), .val (.int p2), .val (.int p3), .val (.int p4), .val (.long q5), .second, .val (.int r1), .val (.int r2), .val (.int r3), .val (.ref o), .val (.int (p4 &&& (7 : Int32))), .val (.long off), .second, .val (.long u), .second, .unset] [(.int (1 : Int32)), (.int (own_i1 u))])
          refine own_go (fun tz kz => XS.goto X2.here hx rfl (pc0 := 164) (pc' := 168) rfl (hb hby at_164) (by decide) (by decide) kz) ?_
          show own_Go p.tables e below _ T2 (mkF m 168 #[.val (.int p1), .val (.int p2), .val (.int p3), .val (.int p4), .val (.long q5), .second, .val (.int r1), .val (.int r2), .val (.int r3), .val (.ref o), .val (.int (p4 &&& (7 : Int32))), .val (.long off), .second, .val (.long u), .second, .unset] [(.int (1 : Int32)), (.int (own_i1 u))])
          exact I1 _ (if_pos d1).symm
        ·
          refine own_go (fun tz kz => XS.ifYes X2.here hx rfl (pc0 := 160) (pc' := 167) rfl (hb hby at_160) rfl (XT.ll_le_t d1) (by decide) (by decide) kz) ?_
          show own_Go p.tables e below _ T2 (mkF m 167 #[.val (.int p1), .val (.int p2), .val (.int p3), .val (.int p4), .val (.long q5), .second, .val (.int r1), .val (.int r2), .val (.int r3), .val (.ref o), .val (.int (p4 &&& (7 : Int32))), .val (.long off), .second, .val (.long u), .second, .unset] [(.int (own_i1 u))])
          refine own_go (fun tz kz => XS.iconst X2.here hx rfl (hb hby at_167) kz) ?_
          show own_Go p.tables e below _ T2 (mkF m 168 #[.val (.int p1), .val (.int p2), .val (.int p3), .val (.int p4), .val (.long q5), .second, .val (.int r1), .val (.int r2), .val (.int r3), .val (.ref o), .val (.int (p4 &&& (7 : Int32))), .val (.long off), .second, .val (.long u), .second, .unset] [(.int (0 : Int32)), (.int (own_i1 u))])
          exact I1 _ (if_neg d1).symm
      by_cases d0 : u < (1 : Int64)
      ·
        refine own_go (fun tz kz => XS.ifYes X2.here hx rfl (pc0 := 146) (pc' := 153) rfl (hb hby at_146) rfl (XT.ll_lt_t d0) (by decide) (by decide) kz) ?_
        show own_Go p.tables e below _ T2 (mkF m 153 #[.val (.int p1), .val (.int p2), .val (.int p3), .val (.int p4), .val (.long q5), .second, .val (.int r1), .val (.int r2), .val (.int r3), .val (.ref o), .val (.int (p4 &&& (7 : Int32))), .val (.long off), .second, .val (.long u), .second, .unset] [])
        refine own_go (fun tz kz => XS.iconst X2.here hx rfl (hb hby at_153) kz) ?_
        show own_Go p.tables e below _ T2 (mkF m 154 #[.val (.int p1), .val (.int p2), .val (.int p3), .val (.int p4), .val (.long q5), .second, .val (.int r1), .val (.int r2), .val (.int r3), .val (.ref o), .val (.int (p4 &&& (7 : Int32))), .val (.long off), .second, .val (.long u), .second, .unset] [(.int (0 : Int32))])
        exact I0 _ (if_pos d0).symm
      ·
        refine own_go (fun tz kz => XS.ifNo X2.here hx rfl (hb hby at_146) rfl (XT.ll_lt_f d0) kz) ?_
        show own_Go p.tables e below _ T2 (mkF m 149 #[.val (.int p1), .val (.int p2), .val (.int p3), .val (.int p4), .val (.long q5), .second, .val (.int r1), .val (.int r2), .val (.int r3), .val (.ref o), .val (.int (p4 &&& (7 : Int32))), .val (.long off), .second, .val (.long u), .second, .unset] [])
        refine own_go (fun tz kz => XS.iconst X2.here hx rfl (hb hby at_149) kz) ?_
        show own_Go p.tables e below _ T2 (mkF m 150 #[.val (.int p1), .val (.int p2), .val (.int p3), .val (.int p4), .val (.long q5), .second, .val (.int r1), .val (.int r2), .val (.int r3), .val (.ref o), .val (.int (p4 &&& (7 : Int32))), .val (.long off), .second, .val (.long u), .second, .unset] [(.int (1 : Int32))])
        refine own_go (fun tz kz => XS.goto X2.here hx rfl (pc0 := 150) (pc' := 154) rfl (hb hby at_150) (by decide) (by decide) kz) ?_
        show own_Go p.tables e below _ T2 (mkF m 154 #[.val (.int p1), .val (.int p2), .val (.int p3), .val (.int p4), .val (.long q5), .second, .val (.int r1), .val (.int r2), .val (.int r3), .val (.ref o), .val (.int (p4 &&& (7 : Int32))), .val (.long off), .second, .val (.long u), .second, .unset] [(.int (1 : Int32))])
        exact I0 _ (if_neg d0).symm
    refine own_go (fun tz kz => XT.lload X2.here hx rfl (hb hby at_132) rfl kz) ?_
    show own_Go p.tables e below _ T2 (mkF m 134 #[.val (.int p1), .val (.int p2), .val (.int p3), .val (.int p4), .val (.long q5), .second, .val (.int r1), .val (.int r2), .val (.int r3), .val (.ref o), .val (.int (p4 &&& (7 : Int32))), .val (.long off), .second, .val (.long t), .second, .unset] [(.long t)])
    refine own_go (fun tz kz => XT.lconst X2.here hx rfl (hb hby at_134) kz) ?_
    show own_Go p.tables e below _ T2 (mkF m 135 #[.val (.int p1), .val (.int p2), .val (.int p3), .val (.int p4), .val (.long q5), .second, .val (.int r1), .val (.int r2), .val (.int r3), .val (.ref o), .val (.int (p4 &&& (7 : Int32))), .val (.long off), .second, .val (.long t), .second, .unset] [(.long (0 : Int64)), (.long t)])
    refine own_go (fun tz kz => XT.lcmp X2.here hx rfl (hb hby at_135) rfl kz) ?_
    show own_Go p.tables e below _ T2 (mkF m 136 #[.val (.int p1), .val (.int p2), .val (.int p3), .val (.int p4), .val (.long q5), .second, .val (.int r1), .val (.int r2), .val (.int r3), .val (.ref o), .val (.int (p4 &&& (7 : Int32))), .val (.long off), .second, .val (.long t), .second, .unset] [(.int (XT.cmpL t (0 : Int64)))])
    by_cases hneg : t < (0 : Int64)
    ·
      refine own_go (fun tz kz => XS.ifNo X2.here hx rfl (hb hby at_136) rfl (XT.ll_ge_f hneg) kz) ?_
      show own_Go p.tables e below _ T2 (mkF m 139 #[.val (.int p1), .val (.int p2), .val (.int p3), .val (.int p4), .val (.long q5), .second, .val (.int r1), .val (.int r2), .val (.int r3), .val (.ref o), .val (.int (p4 &&& (7 : Int32))), .val (.long off), .second, .val (.long t), .second, .unset] [])
      refine own_go (fun tz kz => XT.lconst X2.here hx rfl (hb hby at_139) kz) ?_
      show own_Go p.tables e below _ T2 (mkF m 140 #[.val (.int p1), .val (.int p2), .val (.int p3), .val (.int p4), .val (.long q5), .second, .val (.int r1), .val (.int r2), .val (.int r3), .val (.ref o), .val (.int (p4 &&& (7 : Int32))), .val (.long off), .second, .val (.long t), .second, .unset] [(.long (0 : Int64))])
      refine own_go (fun tz kz => XT.lstore X2.here hx rfl (hb hby at_140) rfl (l' := #[.val (.int p1), .val (.int p2), .val (.int p3), .val (.int p4), .val (.long q5), .second, .val (.int r1), .val (.int r2), .val (.int r3), .val (.ref o), .val (.int (p4 &&& (7 : Int32))), .val (.long off), .second, .val (.long (0 : Int64)), .second, .unset]) rfl kz) ?_
      show own_Go p.tables e below _ T2 (mkF m 142 #[.val (.int p1), .val (.int p2), .val (.int p3), .val (.int p4), .val (.long q5), .second, .val (.int r1), .val (.int r2), .val (.int r3), .val (.ref o), .val (.int (p4 &&& (7 : Int32))), .val (.long off), .second, .val (.long (0 : Int64)), .second, .unset] [])
      exact J142 _ (by decide)
    ·
      refine own_go (fun tz kz => XS.ifYes X2.here hx rfl (pc0 := 136) (pc' := 142) rfl (hb hby at_136) rfl (XT.ll_ge_t hneg) (by decide) (by decide) kz) ?_
      show own_Go p.tables e below _ T2 (mkF m 142 #[.val (.int p1), .val (.int p2), .val (.int p3), .val (.int p4), .val (.long q5), .second, .val (.int r1), .val (.int r2), .val (.int r3), .val (.ref o), .val (.int (p4 &&& (7 : Int32))), .val (.long off), .second, .val (.long t), .second, .unset] [])
      exact J142 _ hneg
  refine own_go (fun tz kz => XS.iload X2.here hx rfl (hb hby at_61) rfl kz) ?_
  show own_Go p.tables e below _ T2 (mkF m 63 #[.val (.int p1), .val (.int p2), .val (.int p3), .val (.int p4), .val (.long q5), .second, .val (.int r1), .val (.int r2), .val (.int r3), .val (.ref o), .val (.int (p4 &&& (7 : Int32))), .val (.long off), .second, .unset, .unset, .unset] [(.int (p4 &&& (7 : Int32)))])
  by_cases s0 : (p4 &&& (7 : Int32)) = (0 : Int32)
  ·
    refine own_go (fun tz kz => XS.ifNo X2.here hx rfl (hb hby at_63) rfl (XT.i0_ne_f s0) kz) ?_
    show own_Go p.tables e below _ T2 (mkF m 66 #[.val (.int p1), .val (.int p2), .val (.int p3), .val (.int p4), .val (.long q5), .second, .val (.int r1), .val (.int r2), .val (.int r3), .val (.ref o), .val (.int (p4 &&& (7 : Int32))), .val (.long off), .second, .unset, .unset, .unset] [])
    refine own_go (fun tz kz => XT.lload X2.here hx rfl (hb hby at_66) rfl kz) ?_
    show own_Go p.tables e below _ T2 (mkF m 68 #[.val (.int p1), .val (.int p2), .val (.int p3), .val (.int p4), .val (.long q5), .second, .val (.int r1), .val (.int r2), .val (.int r3), .val (.ref o), .val (.int (p4 &&& (7 : Int32))), .val (.long off), .second, .unset, .unset, .unset] [(.long off)])
    refine own_go (fun tz kz => XT.lstore X2.here hx rfl (hb hby at_68) rfl (l' := #[.val (.int p1), .val (.int p2), .val (.int p3), .val (.int p4), .val (.long q5), .second, .val (.int r1), .val (.int r2), .val (.int r3), .val (.ref o), .val (.int (p4 &&& (7 : Int32))), .val (.long off), .second, .val (.long off), .second, .unset]) rfl kz) ?_
    show own_Go p.tables e below _ T2 (mkF m 70 #[.val (.int p1), .val (.int p2), .val (.int p3), .val (.int p4), .val (.long q5), .second, .val (.int r1), .val (.int r2), .val (.int r3), .val (.ref o), .val (.int (p4 &&& (7 : Int32))), .val (.long off), .second, .val (.long off), .second, .unset] [])
    refine own_go (fun tz kz => XS.goto X2.here hx rfl (pc0 := 70) (pc' := 132) rfl (hb hby at_70) (by decide) (by decide) kz) ?_
    show own_Go p.tables e below _ T2 (mkF m 132 #[.val (.int p1), .val (.int p2), .val (.int p3), .val (.int p4), .val (.long q5), .second, .val (.int r1), .val (.int r2), .val (.int r3), .val (.ref o), .val (.int (p4 &&& (7 : Int32))), .val (.long off), .second, .val (.long off), .second, .unset] [])
    exact J132 _
  ·
    refine own_go (fun tz kz => XS.ifYes X2.here hx rfl (pc0 := 63) (pc' := 73) rfl (hb hby at_63) rfl (XT.i0_ne_t s0) (by decide) (by decide) kz) ?_
    show own_Go p.tables e below _ T2 (mkF m 73 #[.val (.int p1), .val (.int p2), .val (.int p3), .val (.int p4), .val (.long q5), .second, .val (.int r1), .val (.int r2), .val (.int r3), .val (.ref o), .val (.int (p4 &&& (7 : Int32))), .val (.long off), .second, .unset, .unset, .unset] [])
    refine own_go (fun tz kz => XS.iload X2.here hx rfl (hb hby at_73) rfl kz) ?_
    show own_Go p.tables e below _ T2 (mkF m 75 #[.val (.int p1), .val (.int p2), .val (.int p3), .val (.int p4), .val (.long q5), .second, .val (.int r1), .val (.int r2), .val (.int r3), .val (.ref o), .val (.int (p4 &&& (7 : Int32))), .val (.long off), .second, .unset, .unset, .unset] [(.int (p4 &&& (7 : Int32)))])
    refine own_go (fun tz kz => XS.iconst X2.here hx rfl (hb hby at_75) kz) ?_
    show own_Go p.tables e below _ T2 (mkF m 76 #[.val (.int p1), .val (.int p2), .val (.int p3), .val (.int p4), .val (.long q5), .second, .val (.int r1), .val (.int r2), .val (.int r3), .val (.ref o), .val (.int (p4 &&& (7 : Int32))), .val (.long off), .second, .unset, .unset, .unset] [(.int (1 : Int32)), (.int (p4 &&& (7 : Int32)))])
    by_cases s1 : (p4 &&& (7 : Int32)) = (1 : Int32)
    ·
      refine own_go (fun tz kz => XS.icmpNo X2.here hx rfl (hb hby at_76) rfl (XT.ii_ne_f s1) kz) ?_
      show own_Go p.tables e below _ T2 (mkF m 79 #[.val (.int p1), .val (.int p2), .val (.int p3), .val (.int p4), .val (.long q5), .second, .val (.int r1), .val (.int r2), .val (.int r3), .val (.ref o), .val (.int (p4 &&& (7 : Int32))), .val (.long off), .second, .unset, .unset, .unset] [])
      refine own_go (fun tz kz => XS.iload X2.here hx rfl (hb hby at_79) rfl kz) ?_
      show own_Go p.tables e below _ T2 (mkF m 81 #[.val (.int p1), .val (.int p2), .val (.int p3), .val (.int p4), .val (.long q5), .second, .val (.int r1), .val (.int r2), .val (.int r3), .val (.ref o), .val (.int (p4 &&& (7 : Int32))), .val (.long off), .second, .unset, .unset, .unset] [(.int r1)])
      refine own_go (fun tz kz => XT.i2l X2.here hx rfl (hb hby at_81) rfl kz) ?_
      show own_Go p.tables e below _ T2 (mkF m 82 #[.val (.int p1), .val (.int p2), .val (.int p3), .val (.int p4), .val (.long q5), .second, .val (.int r1), .val (.int r2), .val (.int r3), .val (.ref o), .val (.int (p4 &&& (7 : Int32))), .val (.long off), .second, .unset, .unset, .unset] [(.long r1.toInt64)])
      refine own_go (fun tz kz => XT.lload X2.here hx rfl (hb hby at_82) rfl kz) ?_
      show own_Go p.tables e below _ T2 (mkF m 84 #[.val (.int p1), .val (.int p2), .val (.int p3), .val (.int p4), .val (.long q5), .second, .val (.int r1), .val (.int r2), .val (.int r3), .val (.ref o), .val (.int (p4 &&& (7 : Int32))), .val (.long off), .second, .unset, .unset, .unset] [(.long off), (.long r1.toInt64)])
      refine own_go (fun tz kz => XT.ladd X2.here hx rfl (hb hby at_84) rfl kz) ?_
      show own_Go p.tables e below _ T2 (mkF m 85 #[.val (.int p1), .val (.int p2), .val (.int p3), .val (.int p4), .val (.long q5), .second, .val (.int r1), .val (.int r2), .val (.int r3), .val (.ref o), .val (.int (p4 &&& (7 : Int32))), .val (.long off), .second, .unset, .unset, .unset] [(.long (r1.toInt64 + off))])
      refine own_go (fun tz kz => XT.lstore X2.here hx rfl (hb hby at_85) rfl (l' := #[.val (.int p1), .val (.int p2), .val (.int p3), .val (.int p4), .val (.long q5), .second, .val (.int r1), .val (.int r2), .val (.int r3), .val (.ref o), .val (.int (p4 &&& (7 : Int32))), .val (.long off), .second, .val (.long (r1.toInt64 + off)), .second, .unset]) rfl kz) ?_
      show own_Go p.tables e below _ T2 (mkF m 87 #[.val (.int p1), .val (.int p2), .val (.int p3), .val (.int p4), .val (.long q5), .second, .val (.int r1), .val (.int r2), .val (.int r3), .val (.ref o), .val (.int (p4 &&& (7 : Int32))), .val (.long off), .second, .val (.long (r1.toInt64 + off)), .second, .unset] [])
      refine own_go (fun tz kz => XS.goto X2.here hx rfl (pc0 := 87) (pc' := 132) rfl (hb hby at_87) (by decide) (by decide) kz) ?_
      show own_Go p.tables e below _ T2 (mkF m 132 #[.val (.int p1), .val (.int p2), .val (.int p3), .val (.int p4), .val (.long q5), .second, .val (.int r1), .val (.int r2), .val (.int r3), .val (.ref o), .val (.int (p4 &&& (7 : Int32))), .val (.long off), .second, .val (.long (r1.toInt64 + off)), .second, .unset] [])
      exact J132 _
    ·
      refine own_go (fun tz kz => XS.icmpYes X2.here hx rfl (pc0 := 76) (pc' := 90) rfl (hb hby at_76) rfl (XT.ii_ne_t s1) (by decide) (by decide) kz) ?_
      show own_Go p.tables e below _ T2 (mkF m 90 #[.val (.int p1), .val (.int p2), .val (.int p3), .val (.int p4), .val (.long q5), .second, .val (.int r1), .val (.int r2), .val (.int r3), .val (.ref o), .val (.int (p4 &&& (7 : Int32))), .val (.long off), .second, .unset, .unset, .unset] [])
      refine own_go (fun tz kz => XS.iload X2.here hx rfl (hb hby at_90) rfl kz) ?_
      show own_Go p.tables e below _ T2 (mkF m 92 #[.val (.int p1), .val (.int p2), .val (.int p3), .val (.int p4), .val (.long q5), .second, .val (.int r1), .val (.int r2), .val (.int r3), .val (.ref o), .val (.int (p4 &&& (7 : Int32))), .val (.long off), .second, .unset, .unset, .unset] [(.int (p4 &&& (7 : Int32)))])
      refine own_go (fun tz kz => XS.iconst X2.here hx rfl (hb hby at_92) kz) ?_
      show own_Go p.tables e below _ T2 (mkF m 93 #[.val (.int p1), .val (.int p2), .val (.int p3), .val (.int p4), .val (.long q5), .second, .val (.int r1), .val (.int r2), .val (.int r3), .val (.ref o), .val (.int (p4 &&& (7 : Int32))), .val (.long off), .second, .unset, .unset, .unset] [(.int (2 : Int32)), (.int (p4 &&& (7 : Int32)))])
      by_cases s2 : (p4 &&& (7 : Int32)) = (2 : Int32)
      ·
        refine own_go (fun tz kz => XS.icmpNo X2.here hx rfl (hb hby at_93) rfl (XT.ii_ne_f s2) kz) ?_
        show own_Go p.tables e below _ T2 (mkF m 96 #[.val (.int p1), .val (.int p2), .val (.int p3), .val (.int p4), .val (.long q5), .second, .val (.int r1), .val (.int r2), .val (.int r3), .val (.ref o), .val (.int (p4 &&& (7 : Int32))), .val (.long off), .second, .unset, .unset, .unset] [])
        refine own_go (fun tz kz => XS.iload X2.here hx rfl (hb hby at_96) rfl kz) ?_
        show own_Go p.tables e below _ T2 (mkF m 98 #[.val (.int p1), .val (.int p2), .val (.int p3), .val (.int p4), .val (.long q5), .second, .val (.int r1), .val (.int r2), .val (.int r3), .val (.ref o), .val (.int (p4 &&& (7 : Int32))), .val (.long off), .second, .unset, .unset, .unset] [(.int r2)])
        refine own_go (fun tz kz => XT.i2l X2.here hx rfl (hb hby at_98) rfl kz) ?_
        show own_Go p.tables e below _ T2 (mkF m 99 #[.val (.int p1), .val (.int p2), .val (.int p3), .val (.int p4), .val (.long q5), .second, .val (.int r1), .val (.int r2), .val (.int r3), .val (.ref o), .val (.int (p4 &&& (7 : Int32))), .val (.long off), .second, .unset, .unset, .unset] [(.long r2.toInt64)])
        refine own_go (fun tz kz => XT.lload X2.here hx rfl (hb hby at_99) rfl kz) ?_
        show own_Go p.tables e below _ T2 (mkF m 101 #[.val (.int p1), .val (.int p2), .val (.int p3), .val (.int p4), .val (.long q5), .second, .val (.int r1), .val (.int r2), .val (.int r3), .val (.ref o), .val (.int (p4 &&& (7 : Int32))), .val (.long off), .second, .unset, .unset, .unset] [(.long off), (.long r2.toInt64)])
        refine own_go (fun tz kz => XT.ladd X2.here hx rfl (hb hby at_101) rfl kz) ?_
        show own_Go p.tables e below _ T2 (mkF m 102 #[.val (.int p1), .val (.int p2), .val (.int p3), .val (.int p4), .val (.long q5), .second, .val (.int r1), .val (.int r2), .val (.int r3), .val (.ref o), .val (.int (p4 &&& (7 : Int32))), .val (.long off), .second, .unset, .unset, .unset] [(.long (r2.toInt64 + off))])
        refine own_go (fun tz kz => XT.lstore X2.here hx rfl (hb hby at_102) rfl (l' := #[.val (.int p1), .val (.int p2), .val (.int p3), .val (.int p4), .val (.long q5), .second, .val (.int r1), .val (.int r2), .val (.int r3), .val (.ref o), .val (.int (p4 &&& (7 : Int32))), .val (.long off), .second, .val (.long (r2.toInt64 + off)), .second, .unset]) rfl kz) ?_
        show own_Go p.tables e below _ T2 (mkF m 104 #[.val (.int p1), .val (.int p2), .val (.int p3), .val (.int p4), .val (.long q5), .second, .val (.int r1), .val (.int r2), .val (.int r3), .val (.ref o), .val (.int (p4 &&& (7 : Int32))), .val (.long off), .second, .val (.long (r2.toInt64 + off)), .second, .unset] [])
        refine own_go (fun tz kz => XS.goto X2.here hx rfl (pc0 := 104) (pc' := 132) rfl (hb hby at_104) (by decide) (by decide) kz) ?_
        show own_Go p.tables e below _ T2 (mkF m 132 #[.val (.int p1), .val (.int p2), .val (.int p3), .val (.int p4), .val (.long q5), .second, .val (.int r1), .val (.int r2), .val (.int r3), .val (.ref o), .val (.int (p4 &&& (7 : Int32))), .val (.long off), .second, .val (.long (r2.toInt64 + off)), .second, .unset] [])
        exact J132 _
      ·
        refine own_go (fun tz kz => XS.icmpYes X2.here hx rfl (pc0 := 93) (pc' := 107) rfl (hb hby at_93) rfl (XT.ii_ne_t s2) (by decide) (by decide) kz) ?_
        show own_Go p.tables e below _ T2 (mkF m 107 #[.val (.int p1), .val (.int p2), .val (.int p3), .val (.int p4), .val (.long q5), .second, .val (.int r1), .val (.int r2), .val (.int r3), .val (.ref o), .val (.int (p4 &&& (7 : Int32))), .val (.long off), .second, .unset, .unset, .unset] [])
        refine own_go (fun tz kz => XS.iload X2.here hx rfl (hb hby at_107) rfl kz) ?_
        show own_Go p.tables e below _ T2 (mkF m 109 #[.val (.int p1), .val (.int p2), .val (.int p3), .val (.int p4), .val (.long q5), .second, .val (.int r1), .val (.int r2), .val (.int r3), .val (.ref o), .val (.int (p4 &&& (7 : Int32))), .val (.long off), .second, .unset, .unset, .unset] [(.int (p4 &&& (7 : Int32)))])
        refine own_go (fun tz kz => XS.iconst X2.here hx rfl (hb hby at_109) kz) ?_
        show own_Go p.tables e below _ T2 (mkF m 110 #[.val (.int p1), .val (.int p2), .val (.int p3), .val (.int p4), .val (.long q5), .second, .val (.int r1), .val (.int r2), .val (.int r3), .val (.ref o), .val (.int (p4 &&& (7 : Int32))), .val (.long off), .second, .unset, .unset, .unset] [(.int (3 : Int32)), (.int (p4 &&& (7 : Int32)))])
        by_cases s3 : (p4 &&& (7 : Int32)) = (3 : Int32)
        ·
          refine own_go (fun tz kz => XS.icmpNo X2.here hx rfl (hb hby at_110) rfl (XT.ii_ne_f s3) kz) ?_
          show own_Go p.tables e below _ T2 (mkF m 113 #[.val (.int p1), .val (.int p2), .val (.int p3), .val (.int p4), .val (.long q5), .second, .val (.int r1), .val (.int r2), .val (.int r3), .val (.ref o), .val (.int (p4 &&& (7 : Int32))), .val (.long off), .second, .unset, .unset, .unset] [])
          refine own_go (fun tz kz => XS.iload X2.here hx rfl (hb hby at_113) rfl kz) ?_
          show own_Go p.tables e below _ T2 (mkF m 115 #[.val (.int p1), .val (.int p2), .val (.int p3), .val (.int p4), .val (.long q5), .second, .val (.int r1), .val (.int r2), .val (.int r3), .val (.ref o), .val (.int (p4 &&& (7 : Int32))), .val (.long off), .second, .unset, .unset, .unset] [(.int r3)])
          refine own_go (fun tz kz => XT.i2l X2.here hx rfl (hb hby at_115) rfl kz) ?_
          show own_Go p.tables e below _ T2 (mkF m 116 #[.val (.int p1), .val (.int p2), .val (.int p3), .val (.int p4), .val (.long q5), .second, .val (.int r1), .val (.int r2), .val (.int r3), .val (.ref o), .val (.int (p4 &&& (7 : Int32))), .val (.long off), .second, .unset, .unset, .unset] [(.long r3.toInt64)])
          refine own_go (fun tz kz => XT.lload X2.here hx rfl (hb hby at_116) rfl kz) ?_
          show own_Go p.tables e below _ T2 (mkF m 118 #[.val (.int p1), .val (.int p2), .val (.int p3), .val (.int p4), .val (.long q5), .second, .val (.int r1), .val (.int r2), .val (.int r3), .val (.ref o), .val (.int (p4 &&& (7 : Int32))), .val (.long off), .second, .unset, .unset, .unset] [(.long off), (.long r3.toInt64)])
          refine own_go (fun tz kz => XT.ladd X2.here hx rfl (hb hby at_118) rfl kz) ?_
          show own_Go p.tables e below _ T2 (mkF m 119 #[.val (.int p1), .val (.int p2), .val (.int p3), .val (.int p4), .val (.long q5), .second, .val (.int r1), .val (.int r2), .val (.int r3), .val (.ref o), .val (.int (p4 &&& (7 : Int32))), .val (.long off), .second, .unset, .unset, .unset] [(.long (r3.toInt64 + off))])
          refine own_go (fun tz kz => XT.lstore X2.here hx rfl (hb hby at_119) rfl (l' := #[.val (.int p1), .val (.int p2), .val (.int p3), .val (.int p4), .val (.long q5), .second, .val (.int r1), .val (.int r2), .val (.int r3), .val (.ref o), .val (.int (p4 &&& (7 : Int32))), .val (.long off), .second, .val (.long (r3.toInt64 + off)), .second, .unset]) rfl kz) ?_
          show own_Go p.tables e below _ T2 (mkF m 121 #[.val (.int p1), .val (.int p2), .val (.int p3), .val (.int p4), .val (.long q5), .second, .val (.int r1), .val (.int r2), .val (.int r3), .val (.ref o), .val (.int (p4 &&& (7 : Int32))), .val (.long off), .second, .val (.long (r3.toInt64 + off)), .second, .unset] [])
          refine own_go (fun tz kz => XS.goto X2.here hx rfl (pc0 := 121) (pc' := 132) rfl (hb hby at_121) (by decide) (by decide) kz) ?_
          show own_Go p.tables e below _ T2 (mkF m 132 #[.val (.int p1), .val (.int p2), .val (.int p3), .val (.int p4), .val (.long q5), .second, .val (.int r1), .val (.int r2), .val (.int r3), .val (.ref o), .val (.int (p4 &&& (7 : Int32))), .val (.long off), .second, .val (.long (r3.toInt64 + off)), .second, .unset] [])
          exact J132 _
        ·
          refine own_go (fun tz kz => XS.icmpYes X2.here hx rfl (pc0 := 110) (pc' := 124) rfl (hb hby at_110) rfl (XT.ii_ne_t s3) (by decide) (by decide) kz) ?_
          show own_Go p.tables e below _ T2 (mkF m 124 #[.val (.int p1), .val (.int p2), .val (.int p3), .val (.int p4), .val (.long q5), .second, .val (.int r1), .val (.int r2), .val (.int r3), .val (.ref o), .val (.int (p4 &&& (7 : Int32))), .val (.long off), .second, .unset, .unset, .unset] [])
          refine own_go (fun tz kz => XT.lload X2.here hx rfl (hb hby at_124) rfl kz) ?_
          show own_Go p.tables e below _ T2 (mkF m 126 #[.val (.int p1), .val (.int p2), .val (.int p3), .val (.int p4), .val (.long q5), .second, .val (.int r1), .val (.int r2), .val (.int r3), .val (.ref o), .val (.int (p4 &&& (7 : Int32))), .val (.long off), .second, .unset, .unset, .unset] [(.long q5)])
          refine own_go (fun tz kz => X2.ldc2J hx hown (mvT hZ (hw _ (List.mem_of_getElem? (i := 34) rfl))) rfl (hb hby at_126) kz) ?_
          show own_Go p.tables e below _ T2 (mkF m 129 #[.val (.int p1), .val (.int p2), .val (.int p3), .val (.int p4), .val (.long q5), .second, .val (.int r1), .val (.int r2), .val (.int r3), .val (.ref o), .val (.int (p4 &&& (7 : Int32))), .val (.long off), .second, .unset, .unset, .unset] [(.long (9223372036854775807 : Int64)), (.long q5)])
          refine own_go (fun tz kz => XT.land X2.here hx rfl (hb hby at_129) rfl kz) ?_
          show own_Go p.tables e below _ T2 (mkF m 130 #[.val (.int p1), .val (.int p2), .val (.int p3), .val (.int p4), .val (.long q5), .second, .val (.int r1), .val (.int r2), .val (.int r3), .val (.ref o), .val (.int (p4 &&& (7 : Int32))), .val (.long off), .second, .unset, .unset, .unset] [(.long (q5 &&& (9223372036854775807 : Int64)))])
          refine own_go (fun tz kz => XT.lstore X2.here hx rfl (hb hby at_130) rfl (l' := #[.val (.int p1), .val (.int p2), .val (.int p3), .val (.int p4), .val (.long q5), .second, .val (.int r1), .val (.int r2), .val (.int r3), .val (.ref o), .val (.int (p4 &&& (7 : Int32))), .val (.long off), .second, .val (.long (q5 &&& (9223372036854775807 : Int64))), .second, .unset]) rfl kz) ?_
          show own_Go p.tables e below _ T2 (mkF m 132 #[.val (.int p1), .val (.int p2), .val (.int p3), .val (.int p4), .val (.long q5), .second, .val (.int r1), .val (.int r2), .val (.int r3), .val (.ref o), .val (.int (p4 &&& (7 : Int32))), .val (.long off), .second, .val (.long (q5 &&& (9223372036854775807 : Int64))), .second, .unset] [])
          exact J132 _
set_option maxRecDepth 65536 in
set_option maxHeartbeats 40000000 in
theorem comes_1 {Post : Tables → Env → Array Value → State → Outcome → State → Prop} (hpost : ∀ tb e args s v u, (limb_1_1.after args s (.returned v) u = true ∧ limb_1_2.after args s (.returned v) u = true ∧ True) → FrameEnd s (.returned v) u (Jvm.fieldLocs frame_1_writes args s ++ Jvm.arrayLocs frame_1_arrays args s ++ Jvm.staticLocs frame_1_statics s) 16 128 → Post tb e args s (.returned v) u) :
    ArmFor flags0 classFile x code maxLocals ret World_1 tables_1 room_1 Calls_1 rest_1 Pre_1 Post := by
  intro l hfl _ _ p e ha hc hk s m args below hf hA hF happ hP
  obtain ⟨hcalls, hrest, hpre⟩ := hP
  obtain ⟨-, -, -, hnamed, -, -, -, hat⟩ := (Spec.applies_iff hf).mp happ
  obtain ⟨hg, hn⟩ := and_e (Cond.before_iff.mp (show (Jvm.Cond.and given_1 narrow_1).before args s = true from hpre))
  obtain ⟨gc, ga0⟩ := and_e hg
  obtain ⟨gv0, ga1⟩ := and_e ga0
  obtain ⟨gv1, ga2⟩ := and_e ga1
  obtain ⟨gv2, ga3⟩ := and_e ga2
  obtain ⟨gv3, ga4⟩ := and_e ga3
  have gv4 := ga4
  obtain ⟨w0, w1, w2, w3, w4, rfl⟩ : ∃ w0 w1 w2 w3 w4 : Value, args = #[w0, w1, w2, w3, w4] := by
    have hs : args.size = 5 := by simpa [Cond.value, given_1] using gc
    obtain ⟨L⟩ := args
    match L, hs with
    | [w0, w1, w2, w3, w4], _ => exact ⟨w0, w1, w2, w3, w4, rfl⟩
  have hw := fun d (hd : d ∈ tables_1) => atoms_spec (ws := Jvm.Cond.code x code maxLocals ret :: tables_1) hat d (List.mem_cons_of_mem _ hd)
  have hfit : Fit s := fun {y c} hc i hi => by
    obtain ⟨ha, rfl⟩ := Array.getElem?_eq_some_iff.mp hc
    have q := List.all_eq_true.mp ((Array.all_eq_true_iff_forall_mem.mp hF) _ (Array.getElem_mem ha)) i (List.mem_range.mpr hi)
    simpa [Array.getElem?_eq_getElem hi] using q
  obtain ⟨i0, ei0⟩ := is_v gv0
  obtain rfl : w0 = (.int i0) := Option.some.inj ei0
  obtain ⟨i1, ei1⟩ := is_v gv1
  obtain rfl : w1 = (.int i1) := Option.some.inj ei1
  obtain ⟨i2, ei2⟩ := is_v gv2
  obtain rfl : w2 = (.int i2) := Option.some.inj ei2
  obtain ⟨i3, ei3⟩ := is_v gv3
  obtain rfl : w3 = (.int i3) := Option.some.inj ei3
  obtain ⟨i4, ei4⟩ := isL_v gv4
  obtain rfl : w4 = (.long i4) := Option.some.inj ei4
  obtain ⟨m0, hn⟩ := and_e hn
  obtain ⟨m1, hn⟩ := and_e hn
  obtain ⟨m2, hn⟩ := and_e hn
  obtain ⟨m3, hn⟩ := and_e hn
  obtain ⟨m4, hn⟩ := and_e hn
  obtain ⟨m5, hn⟩ := and_e hn
  obtain ⟨m6, hn⟩ := and_e hn
  obtain ⟨m7, hn⟩ := and_e hn
  obtain ⟨m8, hn⟩ := and_e hn
  have m9 := hn
  obtain ⟨ad0, v0⟩ := exa_v m0
  have S0 : Sta s s.heap "com/example/gunline/gunline/core/SeverityLevels$Level" "NONE" "Lcom/example/gunline/gunline/core/SeverityLevels$Level;" (.ref ad0) := Sta.start v0 (Or.inr ⟨(hw _ (List.mem_of_getElem? (i := 27) rfl)), (hw _ (List.mem_of_getElem? (i := 28) rfl))⟩)
  have o0 := own_eqi m3 (Term.int_eval (0))
  rw [fld_at v0] at o0
  obtain ⟨ad1, v1⟩ := exa_v m4
  have S1 : Sta s s.heap "com/example/gunline/gunline/core/SeverityLevels$Level" "MINOR" "Lcom/example/gunline/gunline/core/SeverityLevels$Level;" (.ref ad1) := Sta.start v1 (Or.inr ⟨(hw _ (List.mem_of_getElem? (i := 27) rfl)), (hw _ (List.mem_of_getElem? (i := 38) rfl))⟩)
  have o1 := own_eqi m5 (Term.int_eval (1))
  rw [fld_at v1] at o1
  obtain ⟨ad2, v2⟩ := exa_v m1
  have S2 : Sta s s.heap "com/example/gunline/gunline/core/SeverityLevels$Level" "MAJOR" "Lcom/example/gunline/gunline/core/SeverityLevels$Level;" (.ref ad2) := Sta.start v2 (Or.inr ⟨(hw _ (List.mem_of_getElem? (i := 27) rfl)), (hw _ (List.mem_of_getElem? (i := 36) rfl))⟩)
  have o2 := own_eqi m2 (Term.int_eval (2))
  rw [fld_at v2] at o2
  obtain ⟨ad3, v3⟩ := exa_v m8
  have S3 : Sta s s.heap "com/example/gunline/gunline/core/SeverityLevels$Level" "SEVERE" "Lcom/example/gunline/gunline/core/SeverityLevels$Level;" (.ref ad3) := Sta.start v3 (Or.inr ⟨(hw _ (List.mem_of_getElem? (i := 27) rfl)), (hw _ (List.mem_of_getElem? (i := 43) rfl))⟩)
  have o3 := own_eqi m9 (Term.int_eval (3))
  rw [fld_at v3] at o3
  obtain ⟨ad4, v4⟩ := exa_v m6
  have S4 : Sta s s.heap "com/example/gunline/gunline/core/SeverityLevels$Level" "OVERWHELMED" "Lcom/example/gunline/gunline/core/SeverityLevels$Level;" (.ref ad4) := Sta.start v4 (Or.inr ⟨(hw _ (List.mem_of_getElem? (i := 27) rfl)), (hw _ (List.mem_of_getElem? (i := 41) rfl))⟩)
  have o4 := own_eqi m7 (Term.int_eval (4))
  rw [fld_at v4] at o4
  obtain ⟨n, o, h1, h2, h3, _, L, rfl, ⟨rfl, N⟩, hq⟩ := rm0 l s _ hw tables_1 i0 i1 i2 i3 i4 ad0 ad1 ad2 ad3 ad4 s.heap s.heap.size (Nat.le_refl _) S0 S1 S2 S3 S4 (fun q => by rw [q, o0] at o1; exact absurd o1 (by decide)) (fun q => by rw [q, o0] at o2; exact absurd o2 (by decide)) (fun q => by rw [q, o0] at o3; exact absurd o3 (by decide)) (fun q => by rw [q, o0] at o4; exact absurd o4 (by decide)) (fun q => by rw [q, o1] at o2; exact absurd o2 (by decide)) (fun q => by rw [q, o1] at o3; exact absurd o3 (by decide)) (fun q => by rw [q, o1] at o4; exact absurd o4 (by decide)) (fun q => by rw [q, o2] at o3; exact absurd o3 (by decide)) (fun q => by rw [q, o2] at o4; exact absurd o4 (by decide)) (fun q => by rw [q, o3] at o4; exact absurd o4 (by decide)) (Old.start s) p e ha hc hk s m _ below hf ((Spec.applies_iff_loose hf).mp happ).1 ⟨rfl, State.Warmed39.refl s, rfl⟩ trivial
  exact ⟨n, _, h1, h2, h3, hpost _ _ _ _ _ _ ⟨Cond.after_iff.mpr rfl, Cond.after_iff.mpr (eq_i res_at (Term.int_eval (1)) rfl), trivial⟩ ⟨hq.1, hq.2.1, (hq.2.2.sift fun y hy => Or.inr (N y hy)).mono (by decide) (by decide)⟩⟩
theorem main_1_1 : Claimed_1_1 := comes_1 fun _ _ _ _ _ _ h hF => ⟨h.1, hF⟩
theorem main_1_2 : Claimed_1_2 := comes_1 fun _ _ _ _ _ _ h hF => ⟨h.2.1, hF⟩
end Jvm.Pilot.@@N@@
namespace Jvm.Pilot.@@N@@
open Jvm Jvm.ClassFile Sem Op Lib Jvm.Free Jvm.Stand Jvm.Pilot.@@N@@.Jvm.D
/-! MADE BY PROGRAM (witnessworld.py) out of the Statement's table words and the real class files: 14 classes; the members and pool entries that the words name. The judged class is class 1, her method 2. -/
namespace start1
open Jvm.ClassFile
def u (s : String) : CpInfo := .utf8 (stringToUtf16 s)
/-- a pool by its gaps: so many unusable entries, then the entry; so many at the end -/
def gap : Nat → List CpInfo → List CpInfo
  | 0, r => r
  | n + 1, r => .unusable :: gap n r
def poolList (es : List (Nat × CpInfo)) (last : Nat) : List CpInfo := es.foldr (fun e r => gap e.1 (e.2 :: r)) (gap last [])
def pool (es : List (Nat × CpInfo)) (last : Nat) : Array CpInfo := ⟨poolList es last⟩
def fileOf (pool : Array CpInfo) (this : Nat) (attrs : Array Attribute := #[]) (ms : Array MethodInfo := #[]) (fl : Nat := 33) (sup : Nat := 0) (ifs : Array Nat := #[]) (fds : Array FieldInfo := #[]) : ClassFile where
  minorVersion := 0
  majorVersion := 65
  constantPool := pool
  accessFlags := fl
  thisClass := this
  superClass := sup
  interfaces := ifs
  fields := fds
  methods := ms
  attributes := attrs
def plain (name : String) (sup : Option ClassId) : Class where
  name := name
  kind := .ordinary
  loader := none
  accessFlags := 33
  super := sup
  interfaces := #[]
  cf := none
  fields := #[]
  methods := #[]
  instanceTypes := #[]
  staticTypes := #[]
  resolved := #[]
  callSites := []
  init := .initialized
  statics := none
  mirror := none

def pool0 : Array CpInfo := pool [(5, u "<init>"), (0, u "()V"), (1, .class_ 10), (1, u "java/lang/Object")] 113

def k0c0 : Code := { maxStack := 0, maxLocals := 1, code := object_method_1_code, exceptionTable := #[], attributes := #[] }
def k0m0 : Method := { name := "<init>", desc := "()V", sig := { parameters := [], returnType := none }, accessFlags := 1, code := some k0c0 }
/-- java/lang/Object -/
def k0 : Class := { plain "java/lang/Object" none with
  accessFlags := 33
  interfaces := #[]
  cf := some (fileOf pool0 8 #[] #[{ accessFlags := 1, nameIndex := 5, descriptorIndex := 6, attributes := #[] }] 33 0 #[] #[])
  fields := #[]
  methods := #[k0m0]
  instanceTypes := #[]
  staticTypes := #[]
  resolved := Array.replicate 124 none
  statics := none }

def pool1 : Array CpInfo := pool [(2, .class_ 4), (1, u "java/lang/Object"), (0, u "<init>"), (0, u "()V"), (0, .fieldref 8 9), (0, .class_ 10), (0, .nameAndType 11 12), (0, u "com/example/gunline/gunline/core/SeverityLevels$Level"), (0, u "NONE"), (0, u "Lcom/example/gunline/gunline/core/SeverityLevels$Level;"), (0, .fieldref 8 14), (0, .nameAndType 15 12), (0, u "MINOR"), (0, .fieldref 8 17), (0, .nameAndType 18 12), (0, u "MAJOR"), (0, .fieldref 8 20), (0, .nameAndType 21 12), (0, u "SEVERE"), (0, .fieldref 8 23), (0, .nameAndType 24 12), (0, u "OVERWHELMED"), (0, .integer 536870911), (0, .class_ 27), (0, u "com/example/gunline/gunline/core/SeverityLevels"), (0, .methodref 26 29), (0, .nameAndType 5 30), (0, u "(III)V"), (2, .long 9223372036854775807), (1, .methodref 26 36), (0, .nameAndType 37 38), (0, u "level"), (0, u "(J)Lcom/example/gunline/gunline/core/SeverityLevels$Level;"), (0, .methodref 40 41), (0, .class_ 42), (0, .nameAndType 43 44), (0, u "com/example/gunline/gunline/core/SeverityLevelsLevelPinLaw"), (0, u "rank"), (0, u "(Lcom/example/gunline/gunline/core/SeverityLevels$Level;)I"), (3, u "law"), (0, u "(IIIIJ)Z")] 4

def k1m0 : Method := { name := "<init>", desc := "()V", sig := { parameters := [], returnType := none }, accessFlags := 1, code := none }
def k1c1 : Code := { maxStack := 2, maxLocals := 1, code := method_2_code, exceptionTable := #[], attributes := #[] }
def k1m1 : Method := { name := "rank", desc := "(Lcom/example/gunline/gunline/core/SeverityLevels$Level;)I", sig := { parameters := [(.object "com/example/gunline/gunline/core/SeverityLevels$Level")], returnType := some .int }, accessFlags := 10, code := some k1c1 }
def k1c2 : Code := { maxStack := 5, maxLocals := 16, code := code, exceptionTable := #[], attributes := #[] }
def k1m2 : Method := { name := "law", desc := "(IIIIJ)Z", sig := { parameters := [.int, .int, .int, .int, .long], returnType := some .boolean }, accessFlags := 9, code := some k1c2 }
/-- com/example/gunline/gunline/core/SeverityLevelsLevelPinLaw -/
def k1 : Class := { plain "com/example/gunline/gunline/core/SeverityLevelsLevelPinLaw" (some 0) with
  accessFlags := 49
  interfaces := #[]
  cf := some (fileOf pool1 40 #[] #[{ accessFlags := 1, nameIndex := 5, descriptorIndex := 6, attributes := #[] }, { accessFlags := 10, nameIndex := 43, descriptorIndex := 44, attributes := #[] }, { accessFlags := 9, nameIndex := 48, descriptorIndex := 49, attributes := #[] }] 49 2 #[] #[])
  fields := #[]
  methods := #[k1m0, k1m1, k1m2]
  instanceTypes := #[]
  staticTypes := #[]
  resolved := Array.replicate 54 none
  statics := none }

def pool2 : Array CpInfo := pool [(1, .methodref 2 3), (0, .class_ 4), (0, .nameAndType 5 6), (0, u "java/lang/Object"), (0, u "<init>"), (0, u "()V"), (0, .class_ 8), (0, u "java/lang/Record")] 13

def k2c0 : Code := { maxStack := 1, maxLocals := 1, code := jdk_30_method_1_code, exceptionTable := #[], attributes := #[] }
def k2m0 : Method := { name := "<init>", desc := "()V", sig := { parameters := [], returnType := none }, accessFlags := 4, code := some k2c0 }
/-- java/lang/Record -/
def k2 : Class := { plain "java/lang/Record" (some 0) with
  accessFlags := 1057
  interfaces := #[]
  cf := some (fileOf pool2 7 #[] #[{ accessFlags := 4, nameIndex := 5, descriptorIndex := 6, attributes := #[] }] 1057 2 #[] #[])
  fields := #[]
  methods := #[k2m0]
  instanceTypes := #[]
  staticTypes := #[]
  resolved := Array.replicate 22 none
  statics := none }

def pool3 : Array CpInfo := pool [(1, .methodref 2 3), (0, .class_ 4), (0, .nameAndType 5 6), (0, u "java/lang/Record"), (0, u "<init>"), (0, u "()V"), (9, .fieldref 17 18), (0, .class_ 19), (0, .nameAndType 20 21), (0, u "com/example/gunline/gunline/core/SeverityLevels"), (0, u "minorTo"), (0, u "I"), (0, .fieldref 17 23), (0, .nameAndType 24 21), (0, u "majorTo"), (0, .fieldref 17 26), (0, .nameAndType 27 21), (0, u "severeTo"), (3, .fieldref 32 33), (0, .class_ 34), (0, .nameAndType 35 36), (0, u "com/example/gunline/gunline/core/SeverityLevels$Level"), (0, u "NONE"), (0, u "Lcom/example/gunline/gunline/core/SeverityLevels$Level;"), (0, .fieldref 32 38), (0, .nameAndType 39 36), (0, u "MINOR"), (0, .fieldref 32 41), (0, .nameAndType 42 36), (0, u "MAJOR"), (0, .fieldref 32 44), (0, .nameAndType 45 36), (0, u "SEVERE"), (0, .fieldref 32 47), (0, .nameAndType 48 36), (0, u "OVERWHELMED"), (12, u "(III)V"), (6, u "level"), (0, u "(J)Lcom/example/gunline/gunline/core/SeverityLevels$Level;")] 36

def k3c0 : Code := { maxStack := 5, maxLocals := 4, code := prog_97_method_1_code, exceptionTable := #[], attributes := #[] }
def k3m0 : Method := { name := "<init>", desc := "(III)V", sig := { parameters := [.int, .int, .int], returnType := none }, accessFlags := 1, code := some k3c0 }
def k3c1 : Code := { maxStack := 4, maxLocals := 3, code := prog_97_method_3_code, exceptionTable := #[], attributes := #[] }
def k3m1 : Method := { name := "level", desc := "(J)Lcom/example/gunline/gunline/core/SeverityLevels$Level;", sig := { parameters := [.long], returnType := some (.object "com/example/gunline/gunline/core/SeverityLevels$Level") }, accessFlags := 1, code := some k3c1 }
/-- com/example/gunline/gunline/core/SeverityLevels -/
def k3 : Class := { plain "com/example/gunline/gunline/core/SeverityLevels" (some 2) with
  accessFlags := 49
  interfaces := #[]
  cf := some (fileOf pool3 17 #[.nestMembers #[32]] #[{ accessFlags := 1, nameIndex := 5, descriptorIndex := 61, attributes := #[] }, { accessFlags := 1, nameIndex := 68, descriptorIndex := 69, attributes := #[] }] 49 2 #[] #[{ accessFlags := 18, nameIndex := 20, descriptorIndex := 21, attributes := #[] }, { accessFlags := 18, nameIndex := 24, descriptorIndex := 21, attributes := #[] }, { accessFlags := 18, nameIndex := 27, descriptorIndex := 21, attributes := #[] }])
  fields := #[{ name := "minorTo", type := .int, accessFlags := 18, slot := 0, constantValue := 0 }, { name := "majorTo", type := .int, accessFlags := 18, slot := 1, constantValue := 0 }, { name := "severeTo", type := .int, accessFlags := 18, slot := 2, constantValue := 0 }]
  methods := #[k3m0, k3m1]
  instanceTypes := #[.int, .int, .int]
  staticTypes := #[]
  resolved := Array.replicate 106 none
  statics := none }

def pool4 : Array CpInfo := pool [(1, .class_ 2), (0, u "java/lang/constant/Constable"), (0, .class_ 4), (0, u "java/lang/Object")] 6

/-- java/lang/constant/Constable -/
def k4 : Class := { plain "java/lang/constant/Constable" (some 0) with
  accessFlags := 1537
  interfaces := #[]
  cf := some (fileOf pool4 1 #[] #[] 1537 3 #[] #[])
  fields := #[]
  methods := #[]
  instanceTypes := #[]
  staticTypes := #[]
  resolved := Array.replicate 11 none
  statics := none }

def pool5 : Array CpInfo := pool [(1, .class_ 2), (0, u "java/lang/Comparable"), (0, .class_ 4), (0, u "java/lang/Object")] 7

/-- java/lang/Comparable -/
def k5 : Class := { plain "java/lang/Comparable" (some 0) with
  accessFlags := 1537
  interfaces := #[]
  cf := some (fileOf pool5 1 #[] #[] 1537 3 #[] #[])
  fields := #[]
  methods := #[]
  instanceTypes := #[]
  staticTypes := #[]
  resolved := Array.replicate 12 none
  statics := none }

def pool6 : Array CpInfo := pool [(1, .class_ 2), (0, u "java/io/Serializable"), (0, .class_ 4), (0, u "java/lang/Object")] 2

/-- java/io/Serializable -/
def k6 : Class := { plain "java/io/Serializable" (some 0) with
  accessFlags := 1537
  interfaces := #[]
  cf := some (fileOf pool6 1 #[] #[] 1537 3 #[] #[])
  fields := #[]
  methods := #[]
  instanceTypes := #[]
  staticTypes := #[]
  resolved := Array.replicate 7 none
  statics := none }

def pool7 : Array CpInfo := pool [(2, .class_ 4), (1, u "java/lang/Enum"), (0, u "name"), (0, u "Ljava/lang/String;"), (2, u "ordinal"), (0, u "I"), (1, .class_ 14), (1, u "java/lang/Object"), (4, u "hash"), (86, .class_ 108), (1, u "java/lang/Enum$EnumDesc"), (2, .class_ 112), (0, u "java/lang/constant/Constable"), (0, .class_ 114), (0, u "java/lang/Comparable"), (0, .class_ 116), (0, u "java/io/Serializable")] 87

/-- java/lang/Enum -/
def k7 : Class := { plain "java/lang/Enum" (some 0) with
  accessFlags := 1057
  interfaces := #[4, 5, 6]
  cf := some (fileOf pool7 2 #[.nestMembers #[106]] #[] 1057 12 #[111, 113, 115] #[{ accessFlags := 18, nameIndex := 5, descriptorIndex := 6, attributes := #[] }, { accessFlags := 18, nameIndex := 9, descriptorIndex := 10, attributes := #[] }, { accessFlags := 2, nameIndex := 19, descriptorIndex := 10, attributes := #[] }])
  fields := #[{ name := "name", type := (.object "java/lang/String"), accessFlags := 18, slot := 0, constantValue := 0 }, { name := "ordinal", type := .int, accessFlags := 18, slot := 1, constantValue := 0 }, { name := "hash", type := .int, accessFlags := 2, slot := 2, constantValue := 0 }]
  methods := #[]
  instanceTypes := #[(.object "java/lang/String"), .int, .int]
  staticTypes := #[]
  resolved := Array.replicate 204 none
  statics := none }

def pool8 : Array CpInfo := pool [(1, .class_ 2), (0, u "com/example/gunline/gunline/core/SeverityLevels$Level"), (2, u "NONE"), (0, u "Lcom/example/gunline/gunline/core/SeverityLevels$Level;"), (2, u "MINOR"), (2, u "MAJOR"), (2, u "SEVERE"), (2, u "OVERWHELMED"), (2, u "$VALUES"), (0, u "[Lcom/example/gunline/gunline/core/SeverityLevels$Level;"), (6, .class_ 31), (1, u "java/lang/Enum"), (28, .class_ 61), (0, u "com/example/gunline/gunline/core/SeverityLevels")] 2

/-- com/example/gunline/gunline/core/SeverityLevels$Level -/
def k8 : Class := { plain "com/example/gunline/gunline/core/SeverityLevels$Level" (some 7) with
  accessFlags := 16433
  interfaces := #[]
  cf := some (fileOf pool8 1 #[.nestHost 60] #[] 16433 29 #[] #[{ accessFlags := 16409, nameIndex := 5, descriptorIndex := 6, attributes := #[] }, { accessFlags := 16409, nameIndex := 9, descriptorIndex := 6, attributes := #[] }, { accessFlags := 16409, nameIndex := 12, descriptorIndex := 6, attributes := #[] }, { accessFlags := 16409, nameIndex := 15, descriptorIndex := 6, attributes := #[] }, { accessFlags := 16409, nameIndex := 18, descriptorIndex := 6, attributes := #[] }, { accessFlags := 4122, nameIndex := 21, descriptorIndex := 22, attributes := #[] }])
  fields := #[{ name := "NONE", type := (.object "com/example/gunline/gunline/core/SeverityLevels$Level"), accessFlags := 16409, slot := 0, constantValue := 0 }, { name := "MINOR", type := (.object "com/example/gunline/gunline/core/SeverityLevels$Level"), accessFlags := 16409, slot := 1, constantValue := 0 }, { name := "MAJOR", type := (.object "com/example/gunline/gunline/core/SeverityLevels$Level"), accessFlags := 16409, slot := 2, constantValue := 0 }, { name := "SEVERE", type := (.object "com/example/gunline/gunline/core/SeverityLevels$Level"), accessFlags := 16409, slot := 3, constantValue := 0 }, { name := "OVERWHELMED", type := (.object "com/example/gunline/gunline/core/SeverityLevels$Level"), accessFlags := 16409, slot := 4, constantValue := 0 }, { name := "$VALUES", type := (.array (.object "com/example/gunline/gunline/core/SeverityLevels$Level")), accessFlags := 4122, slot := 5, constantValue := 0 }]
  methods := #[]
  instanceTypes := #[(.object "java/lang/String"), .int, .int]
  staticTypes := #[(.object "com/example/gunline/gunline/core/SeverityLevels$Level"), (.object "com/example/gunline/gunline/core/SeverityLevels$Level"), (.object "com/example/gunline/gunline/core/SeverityLevels$Level"), (.object "com/example/gunline/gunline/core/SeverityLevels$Level"), (.object "com/example/gunline/gunline/core/SeverityLevels$Level"), (.array (.object "com/example/gunline/gunline/core/SeverityLevels$Level"))]
  resolved := Array.replicate 64 none
  statics := some 0 }

def pool9 : Array CpInfo := pool [(1, u "java/lang/Cloneable"), (0, .class_ 1), (0, u "java/lang/Object"), (0, .class_ 3)] 3

/-- java/lang/Cloneable -/
def k9 : Class := { plain "java/lang/Cloneable" (some 0) with
  accessFlags := 1537
  interfaces := #[]
  cf := some (fileOf pool9 2 #[] #[] 1537 4 #[] #[])
  fields := #[]
  methods := #[]
  instanceTypes := #[]
  staticTypes := #[]
  resolved := Array.replicate 8 none
  statics := none }

/-- the primitive byte -/
def k10 : Class := { plain "byte" none with kind := .primitive 'B', accessFlags := 0x411 }
/-- [B -/
def k11 : Class := { plain "[B" (some 0) with kind := .array 10 .byte, interfaces := #[9, 6], accessFlags := 1041 }

/-- the primitive int -/
def k12 : Class := { plain "int" none with kind := .primitive 'I', accessFlags := 0x411 }
/-- [I -/
def k13 : Class := { plain "[I" (some 0) with kind := .array 12 .int, interfaces := #[9, 6], accessFlags := 1041 }

def heap : Heap := #[{ cls := 8, slots := #[.ref 1, .ref 2, .ref 3, .ref 4, .ref 5, .null], vm := .statics 8 },
  { cls := 8, slots := #[.null, .int 0, .int 0], vm := .none },
  { cls := 8, slots := #[.null, .int 1, .int 0], vm := .none },
  { cls := 8, slots := #[.null, .int 2, .int 0], vm := .none },
  { cls := 8, slots := #[.null, .int 3, .int 0], vm := .none },
  { cls := 8, slots := #[.null, .int 4, .int 0], vm := .none }]
def classes : Array Class := #[k0, k1, k2, k3, k4, k5, k6, k7, k8, k9, k10, k11, k12, k13]
def interned : List (Array UInt16 × Addr) := []
def slotsUsed : Nat := 21
def theMethod : MethodId := ⟨1, 2⟩
def args0 : Array Value := #[.int 5, .int 300, .int 7, .int 1, .long 2]
def aboutOver (below : List Frame) : State where
  vm := { classes := classes, interned := interned.toArray }
  heap := heap
  slotsUsed := slotsUsed
  threads := #[{ frames := .invoking theMethod args0 :: below }]
def below0 : List Frame := [.native { method := ⟨0, 0⟩, args := #[] }]
def about1 : State := aboutOver below0
def p0 : Program := .bare "" "" ""
def e0 : Env := launch0.env 0 0 0
theorem w_frames : about1.frames = Frame.invoking theMethod args0 :: below0 := rfl
set_option maxRecDepth 65536 in
theorem w_args : argsFit about1.vm theMethod args0 = true := by decide +kernel
set_option maxRecDepth 65536 in
theorem w_heap : heapFits about1 = true := by decide +kernel
set_option maxRecDepth 65536 in
theorem w_runnable : about1.curStatus? = some .runnable := by decide +kernel
set_option maxRecDepth 65536 in
theorem w_alone : about1.alone = true := by decide +kernel
set_option maxRecDepth 65536 in
theorem w_named : about1.methodNamed? x = some theMethod := by decide +kernel
set_option maxRecDepth 65536 in
theorem w_hears : about1.hears theMethod below0 = true := by decide +kernel
set_option maxRecDepth 65536 in
theorem w_ripe : about1.ripe theMethod args0 below0 = true := by decide +kernel
theorem w_running : about1.status = .running := rfl
set_option maxRecDepth 65536 in
theorem w_room : about1.hasRoom e0.platform room_1 = true :=
  launch0.hasRoom_least _ room_1 (by decide +kernel) (by decide +kernel) (by decide +kernel) (by decide +kernel) (by decide +kernel) (by decide +kernel)
theorem allAtoms_all (ts : List Jvm.Cond) (a : Array Jvm.Value) (st : Jvm.State) : (allAtoms ts).before a st = ts.all (fun c => c.before a st) := by
  induction ts with
  | nil => rfl
  | cons c t ih =>
    show (Jvm.Cond.and c (allAtoms t)).before a st = _
    rw [Jvm.Cond.before_and, ih, List.all_cons]
def words1 : List Jvm.Cond := Jvm.Cond.code x code maxLocals ret :: tables_1
/-- a 'code' word, met by the world's own term for the bytes: nothing is compared byte by byte -/
theorem code_word {y : MethodName} {bytes : ByteArray} {mx : Nat} {rt : Option FieldType} {a : Array Value} {s : State} {m : MethodId} {meth : Method} {c : Code} (h1 : s.methodNamed? y = some m) (h2 : s.vm.method? m = some meth) (h3 : meth.code = some c) (h4 : c.code = bytes)
    (h5 : (c.maxLocals == mx && c.exceptionTable.isEmpty && decide (c.maxStack ≤ mostOperands) && decide (meth.sig.returnType = rt) && !meth.locks && decide (parseMethodDescriptor y.desc = some meth.sig)) = true) : (Jvm.Cond.code y bytes mx rt).before a s = true := by
  simp only [Bool.and_eq_true, beq_iff_eq, Bool.not_eq_true', decide_eq_true_eq] at h5
  obtain ⟨⟨⟨⟨⟨g1, g2⟩, g3⟩, g4⟩, g5⟩, g6⟩ := h5
  simp [Cond.before, Cond.holds, Cond.value, h1, h2, h3, h4, g1, g2, g3, g4, g5, g6]
def isCode : Jvm.Cond → Bool
  | .code _ _ _ _ => true
  | _ => false
theorem all_split {L : List Jvm.Cond} {P : Jvm.Cond → Bool} (h1 : L.all (fun c => isCode c || P c) = true) (h2 : ∀ c ∈ L.filter isCode, P c = true) : L.all P = true := by
  refine List.all_eq_true.mpr fun c hc => ?_
  have h := List.all_eq_true.mp h1 c hc
  rcases Bool.eq_false_or_eq_true (isCode c) with hi | hi
  · exact h2 c (List.mem_filter.mpr ⟨hc, hi⟩)
  · simpa [hi] using h
set_option maxRecDepth 65536 in
theorem w_c0 : (Jvm.Cond.code x code maxLocals ret).before args0 about1 = true := code_word (m := ⟨1, 2⟩) (meth := k1m2) (c := k1c2) (by decide +kernel) rfl rfl rfl (by decide +kernel)
set_option maxRecDepth 65536 in
theorem w_c1 : (Jvm.Cond.code ({ cls := "com/example/gunline/gunline/core/SeverityLevels", name := "<init>", desc := "(III)V" } : Jvm.MethodName) prog_97_method_1_code (4 : Nat) (Option.none : Option Jvm.ClassFile.FieldType)).before args0 about1 = true := code_word (m := ⟨3, 0⟩) (meth := k3m0) (c := k3c0) (by decide +kernel) rfl rfl rfl (by decide +kernel)
set_option maxRecDepth 65536 in
theorem w_c2 : (Jvm.Cond.code ({ cls := "java/lang/Record", name := "<init>", desc := "()V" } : Jvm.MethodName) jdk_30_method_1_code (1 : Nat) (Option.none : Option Jvm.ClassFile.FieldType)).before args0 about1 = true := code_word (m := ⟨2, 0⟩) (meth := k2m0) (c := k2c0) (by decide +kernel) rfl rfl rfl (by decide +kernel)
set_option maxRecDepth 65536 in
theorem w_c3 : (Jvm.Cond.code ({ cls := "java/lang/Object", name := "<init>", desc := "()V" } : Jvm.MethodName) object_method_1_code (1 : Nat) (Option.none : Option Jvm.ClassFile.FieldType)).before args0 about1 = true := code_word (m := ⟨0, 0⟩) (meth := k0m0) (c := k0c0) (by decide +kernel) rfl rfl rfl (by decide +kernel)
set_option maxRecDepth 65536 in
theorem w_c4 : (Jvm.Cond.code ({ cls := "com/example/gunline/gunline/core/SeverityLevels", name := "level", desc := "(J)Lcom/example/gunline/gunline/core/SeverityLevels$Level;" } : Jvm.MethodName) prog_97_method_3_code (3 : Nat) (Option.some (Jvm.ClassFile.FieldType.object "com/example/gunline/gunline/core/SeverityLevels$Level"))).before args0 about1 = true := code_word (m := ⟨3, 1⟩) (meth := k3m1) (c := k3c1) (by decide +kernel) rfl rfl rfl (by decide +kernel)
set_option maxRecDepth 65536 in
theorem w_c5 : (Jvm.Cond.code ({ cls := "com/example/gunline/gunline/core/SeverityLevelsLevelPinLaw", name := "rank", desc := "(Lcom/example/gunline/gunline/core/SeverityLevels$Level;)I" } : Jvm.MethodName) method_2_code (1 : Nat) (Option.some Jvm.ClassFile.FieldType.int)).before args0 about1 = true := code_word (m := ⟨1, 1⟩) (meth := k1m1) (c := k1c1) (by decide +kernel) rfl rfl rfl (by decide +kernel)
def codes1 : List Jvm.Cond := [Jvm.Cond.code x code maxLocals ret, Jvm.Cond.code ({ cls := "com/example/gunline/gunline/core/SeverityLevels", name := "<init>", desc := "(III)V" } : Jvm.MethodName) prog_97_method_1_code (4 : Nat) (Option.none : Option Jvm.ClassFile.FieldType), Jvm.Cond.code ({ cls := "java/lang/Record", name := "<init>", desc := "()V" } : Jvm.MethodName) jdk_30_method_1_code (1 : Nat) (Option.none : Option Jvm.ClassFile.FieldType), Jvm.Cond.code ({ cls := "java/lang/Object", name := "<init>", desc := "()V" } : Jvm.MethodName) object_method_1_code (1 : Nat) (Option.none : Option Jvm.ClassFile.FieldType), Jvm.Cond.code ({ cls := "com/example/gunline/gunline/core/SeverityLevels", name := "level", desc := "(J)Lcom/example/gunline/gunline/core/SeverityLevels$Level;" } : Jvm.MethodName) prog_97_method_3_code (3 : Nat) (Option.some (Jvm.ClassFile.FieldType.object "com/example/gunline/gunline/core/SeverityLevels$Level")), Jvm.Cond.code ({ cls := "com/example/gunline/gunline/core/SeverityLevelsLevelPinLaw", name := "rank", desc := "(Lcom/example/gunline/gunline/core/SeverityLevels$Level;)I" } : Jvm.MethodName) method_2_code (1 : Nat) (Option.some Jvm.ClassFile.FieldType.int)]
set_option maxRecDepth 65536 in
theorem codes_eq : words1.filter isCode = codes1 := rfl
theorem w_codes : ∀ c ∈ words1.filter isCode, c.before args0 about1 = true := by
  rw [codes_eq]
  intro c hc
  simp only [codes1, List.mem_cons, List.not_mem_nil, or_false] at hc
  rcases hc with rfl | rfl | rfl | rfl | rfl | rfl
  · exact w_c0
  · exact w_c1
  · exact w_c2
  · exact w_c3
  · exact w_c4
  · exact w_c5
set_option maxRecDepth 65536 in
theorem w_t1 : (words1.take 24).all (fun c => isCode c || c.before args0 about1) = true := by decide +kernel
set_option maxRecDepth 65536 in
theorem w_t2 : (words1.drop 24).all (fun c => isCode c || c.before args0 about1) = true := by decide +kernel
theorem w_tables : (allAtoms (Jvm.Cond.code x code maxLocals ret :: tables_1)).before args0 about1 = true := by
  rw [allAtoms_all]
  show words1.all (fun c => c.before args0 about1) = true
  refine all_split ?_ w_codes
  rw [← List.take_append_drop 24 words1, List.all_append, w_t1, w_t2]
  rfl
set_option maxRecDepth 65536 in
theorem w_case : (Jvm.Cond.and given_1 narrow_1).before args0 about1 = true := by decide +kernel
theorem w_applies : (headSpec (Jvm.Cond.code x code maxLocals ret :: tables_1) room_1).applies x e0.platform about1 = true :=
  (Spec.applies_iff w_frames).mpr ⟨w_running, w_runnable, w_alone, w_named, w_hears, w_ripe, w_room, w_tables⟩
theorem atStart : AtStart classFile x code maxLocals ret World_1 tables_1 room_1 Calls_1 rest_1 Pre_1 launch0 p0 e0 about1 theMethod args0 below0 :=
  ⟨lists_1, trivial, launch0.admits_env _ _ _, launch0.least_env, fairChoices_fair.cas, fairChoices_fair.clock, w_frames, w_args, w_heap, w_applies, trivial, trivial, w_case⟩
end start1
theorem witness_1 : WitnessClaimed_1 := ⟨start1.p0, start1.e0, start1.about1, start1.theMethod, start1.args0, start1.below0, start1.atStart⟩
end Jvm.Pilot.@@N@@
