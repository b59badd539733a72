import JvmDerived
import JvmDerived.Pilot.@@N@@Statement
import JvmDerived.Pilot.@@N@@Code
set_option linter.unusedVariables false
set_option linter.unusedSimpArgs false
namespace Jvm.RoadKit
open Sem ClassFile Op Lib Jvm.Stand Jvm.Free Jvm.LawKit
section New
variable {p : Program} {l : Launch} {e : Env} {R : Room} {s : State} {m : MethodId} {args : Array Value} {below : List Frame} {meth : Method} {c : Code} {T : State} {locs : List Loc} {cells slots : Nat}
theorem retI (X : Stand p l e R s m args below meth c T locs cells slots) (hx : p.tables.exec = Jvm.exec) {pc : Nat} {Ls : Array Slot} {z : Int32} {rest : List Value} (hret : meth.sig.returnType = some .int) (hd : decode c.code pc = .ok (.ireturn, 1)) {fs : List Frame}
    (hl : ∀ (f : JFrame) (acts : List Action), f.method = m → f.locked = none → f.entered = [] → (doReturn e (T.setTop f) acts (some (.int z))).1 = T.setFrames fs) : Steps p.tables e below (T.setTop (mkF m pc Ls (.int z :: rest))) (T.setFrames fs) := by
  have hm' : T.vm.method? m = some meth := X.method'
  have hn : narrow .int (.int z) = .int z := rfl
  show Steps p.tables e below (T.setTop { method := m, pc := pc, locals := Ls, stack := _ :: rest, locked := none }) _
  jvm_step X.here [X.here.top, hx, hd, hm', hret, hn]
  first | (intro acts; rw [hl _ acts rfl rfl rfl]) | rw [hl _ _ rfl rfl rfl]
  exact Steps.refl _
end New
end Jvm.RoadKit
namespace Jvm.Pilot.@@N@@
open Jvm Jvm.ClassFile Sem Op Lib Jvm.Free Jvm.Stand Jvm.LawKit Jvm.RoadKit Bundle Jvm.Pilot.@@N@@.Jvm.D
/-- the run from here ends well -/
def own_Go (tb : Tables) (e : Env) (below : List Frame) (P : Outcome → State → Prop) (T : State) (f : JFrame) : Prop := ∃ s₂ o, Steps tb e below (T.setTop f) s₂ ∧ s₂.status = .running ∧ Ended s₂ below o ∧ P o s₂
theorem own_go {tb : Tables} {e : Env} {below : List Frame} {P : Outcome → State → Prop} {T T' : State} {f f' : JFrame} (k : ∀ t, Steps tb e below (T'.setTop f') t → Steps tb e below (T.setTop f) t) (h : own_Go tb e below P T' f') : own_Go tb e below P T f := by
  obtain ⟨s₂, o, h1, h2⟩ := h
  exact ⟨s₂, o, k _ h1, h2⟩
theorem own_keep1 {h0 h h' : Heap} {ws : List Addr} {b : Addr} (K : Keep h0 h ws) (K' : Keep h h' [b]) (q : h0.size ≤ b) : Keep h0 h' ws := K.trans K' fun x hx => Or.inr (by cases List.mem_singleton.mp hx; exact q)
theorem own_eqi {a b : Term} {args : Array Value} {first s : State} {o : Option Outcome} {idx : List Nat} {y : Int32} (h : (Jvm.Cond.eq a b).value args first o s idx = some true) (hb : b.eval args first o idx s = some (.int y)) : a.eval args first o idx s = some (.int y) := by
  cases ha : a.eval args first o idx s with
  | none => simp [Cond.value, ha] at h
  | some x => cases x <;> simp [Cond.value, ha, hb] at h; subst h; rfl
theorem own_not1 {a b : Addr} (q : a ≠ b) : a ∉ [b] := fun h => q (List.mem_singleton.mp h)
def own_PW (s : State) (Q : Option Value → Heap → List Loc → Prop) (k n : Nat) (o : Outcome) (U : State) : Prop := ∃ v L, o = .returned v ∧ Q v U.heap L ∧ ReturnedEndW s o U L k n
def own_P (s : State) (Q : Option Value → Heap → List Loc → Prop) (k n : Nat) (o : Outcome) (U : State) : Prop := ∃ v L, o = .returned v ∧ Q v U.heap L ∧ FrameEnd s o U L k n
/-- the array at a has n places; place k holds f k -/
def own_Av (Z : State) (h : Heap) (a : Addr) (ty : FieldType) (n : Nat) (f : Nat → Value) : Prop := ∃ c : Cell, Arr Z h a c ty ∧ c.slots.size = n ∧ ∀ k, k < n → c.slots[k]? = some (f k)
theorem own_Av.lt {Z : State} {h : Heap} {a : Addr} {ty : FieldType} {n : Nat} {f : Nat → Value} (F : own_Av Z h a ty n f) : a < h.size := by obtain ⟨c, A, -⟩ := F; exact A.lt
theorem own_Av.ext {Z : State} {h h' : Heap} {a : Addr} {ty : FieldType} {n : Nat} {f : Nat → Value} (F : own_Av Z h a ty n f) (E : Ext h h') : own_Av Z h' a ty n f := by obtain ⟨c, A, r⟩ := F; exact ⟨c, A.ext E, r⟩
theorem own_Av.other {Z : State} {h h' : Heap} {a b : Addr} {ty : FieldType} {n sl : Nat} {v : Value} {f : Nat → Value} (F : own_Av Z h b ty n f) (W : Wr h h' a sl v) (q : b ≠ a) : own_Av Z h' b ty n f := by obtain ⟨c, A, r⟩ := F; exact ⟨c, A.other W q, r⟩
theorem own_Av.keep {Z : State} {h h' : Heap} {a : Addr} {ty : FieldType} {n : Nat} {ws : List Addr} {f : Nat → Value} (F : own_Av Z h a ty n f) (K : Keep h h' ws) (q : a ∉ ws) : own_Av Z h' a ty n f := by obtain ⟨c, A, r⟩ := F; exact ⟨c, ⟨K.2.1 a c A.1 q, A.2⟩, r⟩
theorem own_Av.new {Z : State} {h : Heap} {a : Addr} {ty : FieldType} {k : ClassId} {z : Int32} {n : Nat} (A : Arr Z h a (newA k ty z) ty) (hz : z.toNatClampNeg = n) : own_Av Z h a ty n (fun _ => defaultValue ty) := by
  refine ⟨_, A, (sz_new _ _ _).trans hz, fun i hi => ?_⟩
  subst hz
  simp [newA, hi]
theorem own_Av.set {Z : State} {h h' : Heap} {a : Addr} {ty : FieldType} {n i j : Nat} {v : Value} {f : Nat → Value} (F : own_Av Z h a ty n f) (W : Wr h h' a j v) (hj : j = i) : own_Av Z h' a ty n (fun k => if k = i then v else f k) := by
  subst hj
  obtain ⟨c, A, S, G⟩ := F
  have hlt : j < c.slots.size := by
    obtain ⟨cell, h1, h2, h3, -⟩ := W
    cases A.1.symm.trans h1; exact h3
  refine ⟨_, A.same W, (sz_set _ _ _).trans S, fun k hk => ?_⟩
  by_cases q : k = j
  · subst q; simp [Cell.setSlot, hlt]
  · show (c.setSlot j v).slots[k]? = some (if k = j then v else f k)
    rw [if_neg q, ← G k hk]; simp [Cell.setSlot, Array.getElem?_setIfInBounds, Ne.symm q]
theorem own_Av.eq {Z : State} {h : Heap} {a : Addr} {ty : FieldType} {n : Nat} {f g : Nat → Value} (F : own_Av Z h a ty n f) (q : ∀ k, k < n → f k = g k) : own_Av Z h a ty n g := by
  obtain ⟨c, A, S, G⟩ := F
  exact ⟨c, A, S, fun k hk => by rw [G k hk, q k hk]⟩
theorem own_inb {c : Cell} {n i : Nat} {j : Int32} (S : c.slots.size = n) (hj : ¬ j < 0 ∧ j.toNatClampNeg = i) (hi : i < n) : ¬ (j < 0 ∨ c.slots.size ≤ j.toNatClampNeg) := by
  rw [S, hj.2]
  exact fun q => q.elim hj.1 (Nat.not_le.mpr hi)
theorem own_at {c : Cell} {n i : Nat} {j : Int32} {f : Nat → Value} {v : Value} (G : ∀ k, k < n → c.slots[k]? = some (f k)) (hj : ¬ j < 0 ∧ j.toNatClampNeg = i) (hi : i < n) (hv : f i = v) : c.slots[j.toNatClampNeg]? = some v := by
  rw [hj.2, G i hi, hv]
theorem own_nat {i : Nat} (h : i < 2 ^ 31) : ¬ Int32.ofNat i < 0 ∧ (Int32.ofNat i).toNatClampNeg = i := by
  have e : (Int32.ofNat i).toInt = i := Int32.toInt_ofNat_of_lt h
  refine ⟨?_, ?_⟩
  · rw [Int32.lt_iff_toInt_lt, e, Int32.toInt_zero]; omega
  · show (Int32.ofNat i).toInt.toNat = i
    rw [e]; rfl
theorem own_low (x : Int32) : ∃ j, j < 16 ∧ x &&& 15 = Int32.ofNat j := by
  refine ⟨(x &&& 15).toBitVec.toNat, ?_, ?_⟩
  · rw [Int32.toBitVec_and, BitVec.toNat_and]
    exact Nat.lt_of_le_of_lt Nat.and_le_right (by decide)
  · apply Int32.toBitVec_inj.mp
    show _ = BitVec.ofNat 32 _
    rw [BitVec.ofNat_toNat, BitVec.setWidth_eq]
theorem own_ltn {i j : Nat} (hi : i < 2 ^ 31) (hj : j < 2 ^ 31) : Int32.ofNat i < Int32.ofNat j ↔ i < j := by
  rw [Int32.lt_iff_toInt_lt, Int32.toInt_ofNat_of_lt hi, Int32.toInt_ofNat_of_lt hj]; omega
theorem own_pred {j : Nat} (h : 0 < j) (hj : j < 2 ^ 31) : Int32.ofNat j - 1 = Int32.ofNat (j - 1) := by
  apply Int32.toInt_inj.mp
  rw [Int32.toInt_sub, Int32.toInt_ofNat_of_lt hj, Int32.toInt_ofNat_of_lt (by omega), show (1 : Int32).toInt = 1 from by decide, Int.bmod_eq_of_le] <;> omega
theorem own_succ (i : Nat) : Int32.ofNat i + 1 = Int32.ofNat (i + 1) := by
  apply Int32.toBitVec_inj.mp
  show BitVec.ofNat 32 i + BitVec.ofNat 32 1 = BitVec.ofNat 32 (i + 1)
  rw [BitVec.ofNat_add_ofNat]
theorem own_ofNat_inj {i j : Nat} (hi : i < 2 ^ 31) (hj : j < 2 ^ 31) : Int32.ofNat i = Int32.ofNat j ↔ i = j := by
  rw [← Int32.toInt_inj, Int32.toInt_ofNat_of_lt hi, Int32.toInt_ofNat_of_lt hj]; omega
theorem own_b8 (x : Int32) : x.toInt8.toInt32.toInt8.toInt32 = x.toInt8.toInt32 := by simp
theorem d3_0 : decode jdk_30_method_1_code 0 = .ok (.aload_n 0, 1) := by decide +kernel
theorem d3_1 : decode jdk_30_method_1_code 1 = .ok (.invokespecial 1, 3) := by decide +kernel
theorem d3_4 : decode jdk_30_method_1_code 4 = .ok (.return_, 1) := by decide +kernel
theorem pn_0 : plainName "java/lang/Record" = true := by first | (simp [plainName, overriddenIn]; done) | decide +kernel
theorem ef_3 (m : MethodId) {a1 : Addr} : entryFrame m #[(.ref a1)] 1 = mkF m 0 #[.val (.ref a1)] [] := by first | (simp [entryFrame, mkF, argsToLocals, Value.category]; done) | rfl
def Q3 (Z : State) (a1 : Addr) (h0 : Heap) (n0 : Nat) (v : Option Value) (h : Heap) (L : List Loc) : Prop := v = none ∧ Fr n0 L ∧ h = h0
set_option maxRecDepth 65536 in
set_option maxHeartbeats 40000000 in
theorem rm3 (l : Launch) (Z : State) (a0 : Array Value) (hw : ∀ d ∈ tables_1, d.before a0 Z = true) (ws : List Jvm.Cond) (a1 : Addr) (h0 : Heap) (n0 : Nat) (Z0 : n0 ≤ h0.size) :
    MetFree l (⟨"java/lang/Record", "<init>", "()V"⟩ : MethodName) (head1 (Jvm.Cond.code (⟨"java/lang/Record", "<init>", "()V"⟩ : MethodName) jdk_30_method_1_code 1 none :: ws) ({ frames := 1, cells := 0, slots := 0, locals := 12 } : Room)) (fun a U => a = #[(.ref a1)] ∧ Z.Warmed39 U.vm ∧ U.heap = h0) (fun _ _ _ _ _ => True) (fun _ U o U' => ∃ v L, o = .returned v ∧ Q3 Z a1 h0 n0 v U'.heap L ∧ FrameEnd U o U' L (({ frames := 1, cells := 0, slots := 0, locals := 12 } : Room)).cells (({ frames := 1, cells := 0, slots := 0, locals := 12 } : Room)).slots) := by
  refine MetFree.of_bodySF (plainFor_of_name pn_0) hisR ?_
  intro p e s m args below meth c s₁ Bd hml0 hP hK
  obtain ⟨rfl, hZ, hh⟩ := hP
  have hx := Bd.exec
  have hby := Bd.bytes
  have hml : c.maxLocals = 1 := hml0
  have hown : s.vm.findClass "java/lang/Record" = some m.cls := findClass_of_methodNamed Bd.named
  have hnm := (name_of_methodNamed Bd.named Bd.method).1
  have X0 : Stand p l e ({ frames := 1, cells := 0, slots := 0, locals := 12 } : Room) s m #[(.ref a1)] below meth c s₁ [] 0 0 := Stand.of_body Bd
  have e0 : s₁.heap = h0 := by rw [← hh, Bd.state]; rfl
  have N0 := Fr.nil n0
  show own_Go p.tables e below (own_P s (Q3 Z a1 h0 n0) ({ frames := 1, cells := 0, slots := 0, locals := 12 } : Room).cells ({ frames := 1, cells := 0, slots := 0, locals := 12 } : Room).slots) s₁ _
  rw [ef_3]
  show own_Go p.tables e below _ s₁ (mkF m 0 #[.val (.ref a1)] [])
  refine own_go (fun tz kz => XS.aloadN X0.here hx rfl (hb hby d3_0) rfl rfl kz) ?_
  show own_Go p.tables e below _ s₁ (mkF m 1 #[.val (.ref a1)] [(.ref a1)])
  obtain ⟨T1, X1, e1, st1⟩ := initO X0 hx hZ hown (hw _ (List.mem_of_getElem? (i := 15) rfl)) (hw _ (List.mem_of_getElem? (i := 16) rfl)) (hw _ (List.mem_of_getElem? (i := 17) rfl)) e0 (g := (mkF m 1 #[.val (.ref a1)] [(.ref a1)])) rfl (by rw [hml]; rfl) rfl (hb hby d3_1) (by decide) (W := 0) (by show 2 * 0 + _ ≤ _; exact Nat.le_of_eq rfl) (by decide)
  refine own_go st1 ?_
  show own_Go p.tables e below _ T1 (mkF m 4 #[.val (.ref a1)] [])
  obtain ⟨fs, hr, hrun, hended, hW, hsame⟩ := X1.leave (v := none) (fun _ => rfl)
  refine ⟨_, _, ?_, hrun, hended, _, _, rfl, ?_, ⟨_, rfl⟩, hW, hsame.mono (by decide) (by decide)⟩
  · exact X1.returnOut hx Bd.returns (hb hby d3_4) hr
  · show Q3 Z a1 h0 n0 _ T1.heap _
    rw [e1]
    exact ⟨rfl, N0, rfl⟩
theorem d2_0 : decode prog_74_method_1_code 0 = .ok (.aload_n 0, 1) := by decide +kernel
theorem d2_1 : decode prog_74_method_1_code 1 = .ok (.invokespecial 1, 3) := by decide +kernel
theorem d2_4 : decode prog_74_method_1_code 4 = .ok (.aload_n 0, 1) := by decide +kernel
theorem d2_5 : decode prog_74_method_1_code 5 = .ok (.aload_n 1, 1) := by decide +kernel
theorem d2_6 : decode prog_74_method_1_code 6 = .ok (.putfield 7, 3) := by decide +kernel
theorem d2_9 : decode prog_74_method_1_code 9 = .ok (.aload_n 0, 1) := by decide +kernel
theorem d2_10 : decode prog_74_method_1_code 10 = .ok (.iload_n 2, 1) := by decide +kernel
theorem d2_11 : decode prog_74_method_1_code 11 = .ok (.putfield 13, 3) := by decide +kernel
theorem d2_14 : decode prog_74_method_1_code 14 = .ok (.aload_n 0, 1) := by decide +kernel
theorem d2_15 : decode prog_74_method_1_code 15 = .ok (.iload_n 3, 1) := by decide +kernel
theorem d2_16 : decode prog_74_method_1_code 16 = .ok (.putfield 17, 3) := by decide +kernel
theorem d2_19 : decode prog_74_method_1_code 19 = .ok (.return_, 1) := by decide +kernel
theorem pd_0 : parseMethodDescriptor "()V" = some ⟨[], none⟩ := by decide +kernel
theorem pn_1 : plainName "com/example/scriptwire/scriptwire/script/Slice" = true := by first | (simp [plainName, overriddenIn]; done) | decide +kernel
theorem ef_2 (m : MethodId) {a1 : Addr} {a2 : Addr} {p3 : Int32} {p4 : Int32} : entryFrame m #[(.ref a1), (.ref a2), (.int p3), (.int p4)] 4 = mkF m 0 #[.val (.ref a1), .val (.ref a2), .val (.int p3), .val (.int p4)] [] := by first | (simp [entryFrame, mkF, argsToLocals, Value.category]; done) | rfl
def Q2 (Z : State) (a1 : Addr) (a2 : Addr) (p3 : Int32) (p4 : Int32) (u_array : Value) (u_offset : Value) (u_length : Value) (h0 : Heap) (n0 : Nat) (v : Option Value) (h : Heap) (L : List Loc) : Prop := v = none ∧ Fr n0 L ∧ Keep h0 h [a1] ∧ Exa Z h a1 "com/example/scriptwire/scriptwire/script/Slice" ∧ Fld Z h a1 "com/example/scriptwire/scriptwire/script/Slice" "array" "[B" (.ref a2) ∧ Fld Z h a1 "com/example/scriptwire/scriptwire/script/Slice" "offset" "I" (.int p3) ∧ Fld Z h a1 "com/example/scriptwire/scriptwire/script/Slice" "length" "I" (.int p4)
set_option maxRecDepth 65536 in
set_option maxHeartbeats 40000000 in
theorem rm2 (l : Launch) (Z : State) (a0 : Array Value) (hw : ∀ d ∈ tables_1, d.before a0 Z = true) (ws : List Jvm.Cond) (a1 : Addr) (a2 : Addr) (p3 : Int32) (p4 : Int32) (u_array : Value) (u_offset : Value) (u_length : Value) (h0 : Heap) (n0 : Nat) (Z0 : n0 ≤ h0.size) (F_array : Fld Z h0 a1 "com/example/scriptwire/scriptwire/script/Slice" "array" "[B" u_array) (F_offset : Fld Z h0 a1 "com/example/scriptwire/scriptwire/script/Slice" "offset" "I" u_offset) (F_length : Fld Z h0 a1 "com/example/scriptwire/scriptwire/script/Slice" "length" "I" u_length) (Ex : Exa Z h0 a1 "com/example/scriptwire/scriptwire/script/Slice") (g : n0 ≤ a1) :
    MetFree l (⟨"com/example/scriptwire/scriptwire/script/Slice", "<init>", "([BII)V"⟩ : MethodName) (head1 (Jvm.Cond.code (⟨"com/example/scriptwire/scriptwire/script/Slice", "<init>", "([BII)V"⟩ : MethodName) prog_74_method_1_code 4 none :: ws) ({ frames := 2, cells := 0, slots := 0, locals := 24 } : Room)) (fun a U => a = #[(.ref a1), (.ref a2), (.int p3), (.int p4)] ∧ Z.Warmed39 U.vm ∧ U.heap = h0) (fun _ _ _ _ _ => True) (fun _ U o U' => ∃ v L, o = .returned v ∧ Q2 Z a1 a2 p3 p4 u_array u_offset u_length h0 n0 v U'.heap L ∧ FrameEnd U o U' L (({ frames := 2, cells := 0, slots := 0, locals := 24 } : Room)).cells (({ frames := 2, cells := 0, slots := 0, locals := 24 } : Room)).slots) := by
  refine MetFree.of_bodySF (plainFor_of_name pn_1) hisR ?_
  intro p e s m args below meth c s₁ Bd hml0 hP hK
  obtain ⟨rfl, hZ, hh⟩ := hP
  have hx := Bd.exec
  have hby := Bd.bytes
  have hml : c.maxLocals = 4 := hml0
  have hown : s.vm.findClass "com/example/scriptwire/scriptwire/script/Slice" = some m.cls := findClass_of_methodNamed Bd.named
  have hnm := (name_of_methodNamed Bd.named Bd.method).1
  have X0 : Stand p l e ({ frames := 2, cells := 0, slots := 0, locals := 24 } : Room) s m #[(.ref a1), (.ref a2), (.int p3), (.int p4)] below meth c s₁ [] 0 0 := Stand.of_body Bd
  have e0 : s₁.heap = h0 := by rw [← hh, Bd.state]; rfl
  have N0 := Fr.nil n0
  show own_Go p.tables e below (own_P s (Q2 Z a1 a2 p3 p4 u_array u_offset u_length h0 n0) ({ frames := 2, cells := 0, slots := 0, locals := 24 } : Room).cells ({ frames := 2, cells := 0, slots := 0, locals := 24 } : Room).slots) s₁ _
  rw [ef_2]
  show own_Go p.tables e below _ s₁ (mkF m 0 #[.val (.ref a1), .val (.ref a2), .val (.int p3), .val (.int p4)] [])
  refine own_go (fun tz kz => XS.aloadN X0.here hx rfl (hb hby d2_0) rfl rfl kz) ?_
  show own_Go p.tables e below _ s₁ (mkF m 1 #[.val (.ref a1), .val (.ref a2), .val (.int p3), .val (.int p4)] [(.ref a1)])
  obtain ⟨_, _, ⟨T1, L1, k1, n1⟩, -, X1, ⟨Lc1, hQ1, l1, y1, z1⟩, st1⟩ := X0.specialBack hx (y := (⟨"java/lang/Record", "<init>", "()V"⟩ : MethodName)) rfl hown (mvT hZ (hw _ (List.mem_of_getElem? (i := 10) rfl))) (mvT hZ (hw _ (List.mem_of_getElem? (i := 11) rfl))) (mvT hZ (hw _ (List.mem_of_getElem? (i := 14) rfl))) (by decide) (backOf (W := 0) (rm3 l Z a0 hw [] a1 h0 n0 Z0) hZ (hw _ (List.mem_of_getElem? (i := 14) rfl)) (hw _ (List.mem_of_getElem? (i := 13) rfl)) (by decide) (by decide)) (g := (mkF m 1 #[.val (.ref a1), .val (.ref a2), .val (.int p3), .val (.int p4)] [(.ref a1)])) rfl (by rw [hml]; rfl) (Steps.refl _) (a := a1) (argsL := []) (rest := []) (lenOf pd_0 rfl) rfl (by show 2 * 0 + _ ≤ _; exact Nat.le_of_eq rfl) (hb hby d2_1) (fun _ _ => ⟨rfl, e0, (by decide : 0 + 0 ≤ _), (by decide : 0 + 0 ≤ _)⟩)
  dsimp only [Pt.U, Pt.locs, Pt.cells, Pt.slots] at X1 l1 y1 z1 st1 hQ1
  subst l1 y1 z1
  obtain ⟨rfl, N1q, e1⟩ := hQ1
  have N1 := Fr.app N0 N1q
  refine own_go (fun tz kz => st1.trans kz) ?_
  show own_Go p.tables e below _ T1 (mkF m 4 #[.val (.ref a1), .val (.ref a2), .val (.int p3), .val (.int p4)] [])
  refine own_go (fun tz kz => XS.aloadN X1.here hx rfl (hb hby d2_4) rfl rfl kz) ?_
  show own_Go p.tables e below _ T1 (mkF m 5 #[.val (.ref a1), .val (.ref a2), .val (.int p3), .val (.int p4)] [(.ref a1)])
  refine own_go (fun tz kz => XS.aloadN X1.here hx rfl (hb hby d2_5) rfl rfl kz) ?_
  show own_Go p.tables e below _ T1 (mkF m 6 #[.val (.ref a1), .val (.ref a2), .val (.int p3), .val (.int p4)] [(.ref a2), (.ref a1)])
  obtain ⟨T2, h2, X2, e2, W2, st2⟩ := putF X1 hx hZ hown (host := "") (Or.inl (hw _ (List.mem_of_getElem? (i := 18) rfl))) Via.refl e1 F_array Ex (Or.inr ⟨(hw _ (List.mem_of_getElem? (i := 19) rfl)), rfl, hnm⟩) (hw _ (List.mem_of_getElem? (i := 6) rfl)) (ty := (.array .byte)) (by decide) rfl rfl (g := (mkF m 6 #[.val (.ref a1), .val (.ref a2), .val (.int p3), .val (.int p4)] [(.ref a2), (.ref a1)])) rfl rfl (hb hby d2_6)
  have Fw2 := F_array.same W2
  have N2 := Fr.snoc X2 N1 g
  refine own_go st2 ?_
  show own_Go p.tables e below _ T2 (mkF m 9 #[.val (.ref a1), .val (.ref a2), .val (.int p3), .val (.int p4)] [])
  refine own_go (fun tz kz => XS.aloadN X2.here hx rfl (hb hby d2_9) rfl rfl kz) ?_
  show own_Go p.tables e below _ T2 (mkF m 10 #[.val (.ref a1), .val (.ref a2), .val (.int p3), .val (.int p4)] [(.ref a1)])
  refine own_go (fun tz kz => XS.iloadN X2.here hx rfl (hb hby d2_10) rfl kz) ?_
  show own_Go p.tables e below _ T2 (mkF m 11 #[.val (.ref a1), .val (.ref a2), .val (.int p3), .val (.int p4)] [(.int p3), (.ref a1)])
  obtain ⟨T3, h3, X3, e3, W3, st3⟩ := putF X2 hx hZ hown (host := "") (Or.inl (hw _ (List.mem_of_getElem? (i := 20) rfl))) Via.refl e2 (F_offset.other W2 (Or.inr (slot_ne (Or.inr (hw _ (List.mem_of_getElem? (i := 21) rfl))) (Or.inr (hw _ (List.mem_of_getElem? (i := 19) rfl))) (by decide) (t := .int) (t' := (.array .byte)) (by decide) (by decide)))) (Ex.wr W2) (Or.inr ⟨(hw _ (List.mem_of_getElem? (i := 21) rfl)), rfl, hnm⟩) (hw _ (List.mem_of_getElem? (i := 6) rfl)) (ty := .int) (by decide) rfl rfl (g := (mkF m 11 #[.val (.ref a1), .val (.ref a2), .val (.int p3), .val (.int p4)] [(.int p3), (.ref a1)])) rfl rfl (hb hby d2_11)
  have Fw3 := (F_offset.other W2 (Or.inr (slot_ne (Or.inr (hw _ (List.mem_of_getElem? (i := 21) rfl))) (Or.inr (hw _ (List.mem_of_getElem? (i := 19) rfl))) (by decide) (t := .int) (t' := (.array .byte)) (by decide) (by decide)))).same W3
  have N3 := Fr.snoc X3 N2 g
  refine own_go st3 ?_
  show own_Go p.tables e below _ T3 (mkF m 14 #[.val (.ref a1), .val (.ref a2), .val (.int p3), .val (.int p4)] [])
  refine own_go (fun tz kz => XS.aloadN X3.here hx rfl (hb hby d2_14) rfl rfl kz) ?_
  show own_Go p.tables e below _ T3 (mkF m 15 #[.val (.ref a1), .val (.ref a2), .val (.int p3), .val (.int p4)] [(.ref a1)])
  refine own_go (fun tz kz => XS.iloadN X3.here hx rfl (hb hby d2_15) rfl kz) ?_
  show own_Go p.tables e below _ T3 (mkF m 16 #[.val (.ref a1), .val (.ref a2), .val (.int p3), .val (.int p4)] [(.int p4), (.ref a1)])
  obtain ⟨T4, h4, X4, e4, W4, st4⟩ := putF X3 hx hZ hown (host := "") (Or.inl (hw _ (List.mem_of_getElem? (i := 22) rfl))) Via.refl e3 ((F_length.other W2 (Or.inr (slot_ne (Or.inr (hw _ (List.mem_of_getElem? (i := 23) rfl))) (Or.inr (hw _ (List.mem_of_getElem? (i := 19) rfl))) (by decide) (t := .int) (t' := (.array .byte)) (by decide) (by decide)))).other W3 (Or.inr (slot_ne (Or.inr (hw _ (List.mem_of_getElem? (i := 23) rfl))) (Or.inr (hw _ (List.mem_of_getElem? (i := 21) rfl))) (by decide) (t := .int) (t' := .int) (by decide) (by decide)))) ((Ex.wr W2).wr W3) (Or.inr ⟨(hw _ (List.mem_of_getElem? (i := 23) rfl)), rfl, hnm⟩) (hw _ (List.mem_of_getElem? (i := 6) rfl)) (ty := .int) (by decide) rfl rfl (g := (mkF m 16 #[.val (.ref a1), .val (.ref a2), .val (.int p3), .val (.int p4)] [(.int p4), (.ref a1)])) rfl rfl (hb hby d2_16)
  have Fw4 := ((F_length.other W2 (Or.inr (slot_ne (Or.inr (hw _ (List.mem_of_getElem? (i := 23) rfl))) (Or.inr (hw _ (List.mem_of_getElem? (i := 19) rfl))) (by decide) (t := .int) (t' := (.array .byte)) (by decide) (by decide)))).other W3 (Or.inr (slot_ne (Or.inr (hw _ (List.mem_of_getElem? (i := 23) rfl))) (Or.inr (hw _ (List.mem_of_getElem? (i := 21) rfl))) (by decide) (t := .int) (t' := .int) (by decide) (by decide)))).same W4
  have N4 := Fr.snoc X4 N3 g
  refine own_go st4 ?_
  show own_Go p.tables e below _ T4 (mkF m 19 #[.val (.ref a1), .val (.ref a2), .val (.int p3), .val (.int p4)] [])
  obtain ⟨fs, hr, hrun, hended, hW, hsame⟩ := X4.leave (v := none) (fun _ => rfl)
  refine ⟨_, _, ?_, hrun, hended, _, _, rfl, ?_, ⟨_, rfl⟩, hW, hsame.mono (by decide) (by decide)⟩
  · exact X4.returnOut hx Bd.returns (hb hby d2_19) hr
  · show Q2 Z a1 a2 p3 p4 u_array u_offset u_length h0 n0 _ T4.heap _
    rw [e4]
    exact ⟨rfl, N4, ((((Keep.refl _ _).wr W2 (Or.inl (List.mem_of_getElem? (i := 0) rfl))).wr W3 (Or.inl (List.mem_of_getElem? (i := 0) rfl))).wr W4 (Or.inl (List.mem_of_getElem? (i := 0) rfl))), (((Ex.wr W2).wr W3).wr W4), ((Fw2.other W3 (Or.inr (slot_ne (Or.inr (hw _ (List.mem_of_getElem? (i := 19) rfl))) (Or.inr (hw _ (List.mem_of_getElem? (i := 21) rfl))) (by decide) (t := (.array .byte)) (t' := .int) (by decide) (by decide)))).other W4 (Or.inr (slot_ne (Or.inr (hw _ (List.mem_of_getElem? (i := 19) rfl))) (Or.inr (hw _ (List.mem_of_getElem? (i := 23) rfl))) (by decide) (t := (.array .byte)) (t' := .int) (by decide) (by decide)))), (Fw3.other W4 (Or.inr (slot_ne (Or.inr (hw _ (List.mem_of_getElem? (i := 21) rfl))) (Or.inr (hw _ (List.mem_of_getElem? (i := 23) rfl))) (by decide) (t := .int) (t' := .int) (by decide) (by decide)))), Fw4⟩
theorem d1_0 : decode prog_74_method_2_code 0 = .ok (.new 8, 3) := by decide +kernel
theorem d1_3 : decode prog_74_method_2_code 3 = .ok (.dup, 1) := by decide +kernel
theorem d1_4 : decode prog_74_method_2_code 4 = .ok (.aload_n 0, 1) := by decide +kernel
theorem d1_5 : decode prog_74_method_2_code 5 = .ok (.iconst 0, 1) := by decide +kernel
theorem d1_6 : decode prog_74_method_2_code 6 = .ok (.aload_n 0, 1) := by decide +kernel
theorem d1_7 : decode prog_74_method_2_code 7 = .ok (.arraylength, 1) := by decide +kernel
theorem d1_8 : decode prog_74_method_2_code 8 = .ok (.invokespecial 20, 3) := by decide +kernel
theorem d1_11 : decode prog_74_method_2_code 11 = .ok (.areturn, 1) := by decide +kernel
theorem pd_1 : parseMethodDescriptor "([BII)V" = some ⟨[(.array .byte), .int, .int], none⟩ := by decide +kernel
theorem ef_1 (m : MethodId) {a1 : Addr} : entryFrame m #[(.ref a1)] 1 = mkF m 0 #[.val (.ref a1)] [] := by first | (simp [entryFrame, mkF, argsToLocals, Value.category]; done) | rfl
def Q1 (Z : State) (a1 : Addr) (n : Nat) (f : Nat → Value) (b : Addr) (h0 : Heap) (n0 : Nat) (v : Option Value) (h : Heap) (L : List Loc) : Prop := v = some (.ref b) ∧ Fr n0 L ∧ Keep h0 h [] ∧ Exa Z h b "com/example/scriptwire/scriptwire/script/Slice" ∧ Fld Z h b "com/example/scriptwire/scriptwire/script/Slice" "array" "[B" (.ref a1) ∧ Fld Z h b "com/example/scriptwire/scriptwire/script/Slice" "offset" "I" (.int 0) ∧ Fld Z h b "com/example/scriptwire/scriptwire/script/Slice" "length" "I" (.int (Int32.ofNat n))
set_option maxRecDepth 65536 in
set_option maxHeartbeats 40000000 in
theorem rm1 (l : Launch) (Z : State) (a0 : Array Value) (hw : ∀ d ∈ tables_1, d.before a0 Z = true) (ws : List Jvm.Cond) (a1 : Addr) (n : Nat) (f : Nat → Value) (b : Addr) (h0 : Heap) (n0 : Nat) (Z0 : n0 ≤ h0.size) (Va : own_Av Z h0 a1 .byte n f) (eb : b = h0.size) :
    MetFree l (⟨"com/example/scriptwire/scriptwire/script/Slice", "of", "([B)Lcom/example/scriptwire/scriptwire/script/Slice;"⟩ : MethodName) (head1 (Jvm.Cond.code (⟨"com/example/scriptwire/scriptwire/script/Slice", "of", "([B)Lcom/example/scriptwire/scriptwire/script/Slice;"⟩ : MethodName) prog_74_method_2_code 1 (some (.object "com/example/scriptwire/scriptwire/script/Slice")) :: ws) ({ frames := 3, cells := 1, slots := 3, locals := 40 } : Room)) (fun a U => a = #[(.ref a1)] ∧ Z.Warmed39 U.vm ∧ U.heap = h0) (fun _ _ _ _ _ => True) (fun _ U o U' => ∃ v L, o = .returned v ∧ Q1 Z a1 n f b h0 n0 v U'.heap L ∧ FrameEnd U o U' L (({ frames := 3, cells := 1, slots := 3, locals := 40 } : Room)).cells (({ frames := 3, cells := 1, slots := 3, locals := 40 } : Room)).slots) := by
  refine MetFree.of_bodySF (plainFor_of_name pn_1) hisR ?_
  intro p e s m args below meth c s₁ Bd hml0 hP hK
  obtain ⟨rfl, hZ, hh⟩ := hP
  have hx := Bd.exec
  have hby := Bd.bytes
  have hml : c.maxLocals = 1 := hml0
  have hown : s.vm.findClass "com/example/scriptwire/scriptwire/script/Slice" = some m.cls := findClass_of_methodNamed Bd.named
  have hnm := (name_of_methodNamed Bd.named Bd.method).1
  have X0 : Stand p l e ({ frames := 3, cells := 1, slots := 3, locals := 40 } : Room) s m #[(.ref a1)] below meth c s₁ [] 0 0 := Stand.of_body Bd
  have e0 : s₁.heap = h0 := by rw [← hh, Bd.state]; rfl
  have N0 := Fr.nil n0
  show own_Go p.tables e below (own_P s (Q1 Z a1 n f b h0 n0) ({ frames := 3, cells := 1, slots := 3, locals := 40 } : Room).cells ({ frames := 3, cells := 1, slots := 3, locals := 40 } : Room).slots) s₁ _
  rw [ef_1]
  show own_Go p.tables e below _ s₁ (mkF m 0 #[.val (.ref a1)] [])
  obtain ⟨T1, h1, X1, e1, E1, A1, D1, -, st1⟩ := newO X0 hx hZ hown (hw _ (List.mem_of_getElem? (i := 5) rfl)) (hw _ (List.mem_of_getElem? (i := 6) rfl)) (hw _ (List.mem_of_getElem? (i := 3) rfl)) e0 (g := (mkF m 0 #[.val (.ref a1)] [])) rfl (hb hby d1_0) (by decide) (by decide)
  rw [← eb] at A1 D1 st1
  have g_b : n0 ≤ b := Nat.le_trans Z0 (Nat.le_of_eq eb.symm)
  have F_array_b : Fld Z h1 b "com/example/scriptwire/scriptwire/script/Slice" "array" "[B" .null := D1 (Or.inr (hw _ (List.mem_of_getElem? (i := 19) rfl))) (ty := (.array .byte)) (by decide)
  have F_offset_b : Fld Z h1 b "com/example/scriptwire/scriptwire/script/Slice" "offset" "I" (.int (0 : Int32)) := D1 (Or.inr (hw _ (List.mem_of_getElem? (i := 21) rfl))) (ty := .int) (by decide)
  have F_length_b : Fld Z h1 b "com/example/scriptwire/scriptwire/script/Slice" "length" "I" (.int (0 : Int32)) := D1 (Or.inr (hw _ (List.mem_of_getElem? (i := 23) rfl))) (ty := .int) (by decide)
  refine own_go st1 ?_
  show own_Go p.tables e below _ T1 (mkF m 3 #[.val (.ref a1)] [(.ref b)])
  refine own_go (fun tz kz => XS.dup X1.here hx rfl (hb hby d1_3) rfl rfl kz) ?_
  show own_Go p.tables e below _ T1 (mkF m 4 #[.val (.ref a1)] [(.ref b), (.ref b)])
  refine own_go (fun tz kz => XS.aloadN X1.here hx rfl (hb hby d1_4) rfl rfl kz) ?_
  show own_Go p.tables e below _ T1 (mkF m 5 #[.val (.ref a1)] [(.ref a1), (.ref b), (.ref b)])
  refine own_go (fun tz kz => XS.iconst X1.here hx rfl (hb hby d1_5) kz) ?_
  show own_Go p.tables e below _ T1 (mkF m 6 #[.val (.ref a1)] [(.int (0 : Int32)), (.ref a1), (.ref b), (.ref b)])
  refine own_go (fun tz kz => XS.aloadN X1.here hx rfl (hb hby d1_6) rfl rfl kz) ?_
  show own_Go p.tables e below _ T1 (mkF m 7 #[.val (.ref a1)] [(.ref a1), (.int (0 : Int32)), (.ref a1), (.ref b), (.ref b)])
  obtain ⟨c2, Ar2, Sz2, Ge2⟩ := id ((Va.ext E1))
  refine own_go (fun tz kz => X1.arraylength hx (by rw [e1]; exact Ar2.1) (State.isArrayOf_alike hZ.alike Ar2.2.1) (g := (mkF m 7 #[.val (.ref a1)] [(.ref a1), (.int (0 : Int32)), (.ref a1), (.ref b), (.ref b)])) rfl rfl (hb hby d1_7) tz kz) ?_
  rw [Sz2]
  show own_Go p.tables e below _ T1 (mkF m 8 #[.val (.ref a1)] [(.int (Int32.ofNat n)), (.int (0 : Int32)), (.ref a1), (.ref b), (.ref b)])
  obtain ⟨_, _, ⟨T3, L3, k3, n3⟩, -, X3, ⟨Lc3, hQ3, l3, y3, z3⟩, st3⟩ := X1.specialBack hx (y := (⟨"com/example/scriptwire/scriptwire/script/Slice", "<init>", "([BII)V"⟩ : MethodName)) rfl hown (mvT hZ (hw _ (List.mem_of_getElem? (i := 7) rfl))) (mvT hZ (hw _ (List.mem_of_getElem? (i := 8) rfl))) (mvT hZ (hw _ (List.mem_of_getElem? (i := 9) rfl))) (by decide) (backOf (W := 1) (rm2 l Z a0 hw [] b a1 (0 : Int32) (Int32.ofNat n) _ _ _ h1 n0 (Nat.le_trans Z0 E1.1) F_array_b F_offset_b F_length_b A1 g_b) hZ (hw _ (List.mem_of_getElem? (i := 9) rfl)) (hw _ (List.mem_of_getElem? (i := 3) rfl)) (by decide) (by decide)) (g := (mkF m 8 #[.val (.ref a1)] [(.int (Int32.ofNat n)), (.int (0 : Int32)), (.ref a1), (.ref b), (.ref b)])) rfl (by rw [hml]; rfl) (Steps.refl _) (a := b) (argsL := [(.ref a1), (.int (0 : Int32)), (.int (Int32.ofNat n))]) (rest := [(.ref b)]) (lenOf pd_1 rfl) rfl (by show 2 * 0 + _ ≤ _; exact Nat.le_of_eq rfl) (hb hby d1_8) (fun _ _ => ⟨rfl, e1, (by decide : 1 + 0 ≤ _), (by decide : 3 + 0 ≤ _)⟩)
  dsimp only [Pt.U, Pt.locs, Pt.cells, Pt.slots] at X3 l3 y3 z3 st3 hQ3
  subst l3 y3 z3
  obtain ⟨rfl, N3q, K3, Ex, Fa, Fo, Fl⟩ := hQ3
  have N3 := Fr.app N0 N3q
  refine own_go (fun tz kz => st3.trans kz) ?_
  show own_Go p.tables e below _ T3 (mkF m 11 #[.val (.ref a1)] [(.ref b)])
  obtain ⟨fs, hr, hrun, hended, hW, hsame⟩ := X3.leave (v := some (.ref b)) (fun h => by rw [Bd.returns] at h; cases h)
  refine ⟨_, _, ?_, hrun, hended, _, _, rfl, ?_, ⟨_, rfl⟩, hW, hsame.mono (by decide) (by decide)⟩
  · exact retOut X3 hx Bd.returns rfl (Or.inr (Or.inr (Or.inr (Or.inr ⟨rfl, rfl, rfl⟩)))) (hb hby d1_11) hr
  · show Q1 Z a1 n f b h0 n0 _ T3.heap _
    exact ⟨rfl, N3, own_keep1 ((Keep.refl _ []).ext E1) K3 (Nat.le_of_eq eb.symm), Ex, Fa, Fo, Fl⟩
theorem d5_0 : decode prog_74_method_6_code 0 = .ok (.aload_n 0, 1) := by decide +kernel
theorem d5_1 : decode prog_74_method_6_code 1 = .ok (.getfield 7, 3) := by decide +kernel
theorem d5_4 : decode prog_74_method_6_code 4 = .ok (.areturn, 1) := by decide +kernel
theorem ef_5 (m : MethodId) {a1 : Addr} : entryFrame m #[(.ref a1)] 1 = mkF m 0 #[.val (.ref a1)] [] := by first | (simp [entryFrame, mkF, argsToLocals, Value.category]; done) | rfl
def Q5 (Z : State) (a1 : Addr) (w : Addr) (h0 : Heap) (n0 : Nat) (v : Option Value) (h : Heap) (L : List Loc) : Prop := v = some (.ref w) ∧ Fr n0 L ∧ h = h0
set_option maxRecDepth 65536 in
set_option maxHeartbeats 40000000 in
theorem rm5 (l : Launch) (Z : State) (a0 : Array Value) (hw : ∀ d ∈ tables_1, d.before a0 Z = true) (ws : List Jvm.Cond) (a1 : Addr) (w : Addr) (h0 : Heap) (n0 : Nat) (Z0 : n0 ≤ h0.size) (F : Fld Z h0 a1 "com/example/scriptwire/scriptwire/script/Slice" "array" "[B" (.ref w)) :
    MetFree l (⟨"com/example/scriptwire/scriptwire/script/Slice", "array", "()[B"⟩ : MethodName) (head1 (Jvm.Cond.code (⟨"com/example/scriptwire/scriptwire/script/Slice", "array", "()[B"⟩ : MethodName) prog_74_method_6_code 1 (some (.array .byte)) :: ws) ({ frames := 0, cells := 0, slots := 0, locals := 0 } : Room)) (fun a U => a = #[(.ref a1)] ∧ Z.Warmed39 U.vm ∧ U.heap = h0) (fun _ _ _ _ _ => True) (fun _ U o U' => ∃ v L, o = .returned v ∧ Q5 Z a1 w h0 n0 v U'.heap L ∧ FrameEnd U o U' L (({ frames := 0, cells := 0, slots := 0, locals := 0 } : Room)).cells (({ frames := 0, cells := 0, slots := 0, locals := 0 } : Room)).slots) := by
  refine MetFree.of_bodySF (plainFor_of_name pn_1) hisR ?_
  intro p e s m args below meth c s₁ Bd hml0 hP hK
  obtain ⟨rfl, hZ, hh⟩ := hP
  have hx := Bd.exec
  have hby := Bd.bytes
  have hml : c.maxLocals = 1 := hml0
  have hown : s.vm.findClass "com/example/scriptwire/scriptwire/script/Slice" = some m.cls := findClass_of_methodNamed Bd.named
  have hnm := (name_of_methodNamed Bd.named Bd.method).1
  have X0 : Stand p l e ({ frames := 0, cells := 0, slots := 0, locals := 0 } : Room) s m #[(.ref a1)] below meth c s₁ [] 0 0 := Stand.of_body Bd
  have e0 : s₁.heap = h0 := by rw [← hh, Bd.state]; rfl
  have N0 := Fr.nil n0
  show own_Go p.tables e below (own_P s (Q5 Z a1 w h0 n0) ({ frames := 0, cells := 0, slots := 0, locals := 0 } : Room).cells ({ frames := 0, cells := 0, slots := 0, locals := 0 } : Room).slots) s₁ _
  rw [ef_5]
  show own_Go p.tables e below _ s₁ (mkF m 0 #[.val (.ref a1)] [])
  refine own_go (fun tz kz => XS.aloadN X0.here hx rfl (hb hby d5_0) rfl rfl kz) ?_
  show own_Go p.tables e below _ s₁ (mkF m 1 #[.val (.ref a1)] [(.ref a1)])
  obtain ⟨T1, X1, e1, st1⟩ := getF X0 hx hZ hown (host := "") (Or.inl (hw _ (List.mem_of_getElem? (i := 18) rfl))) Via.refl e0 F (g := (mkF m 1 #[.val (.ref a1)] [(.ref a1)])) rfl rfl (hb hby d5_1)
  refine own_go st1 ?_
  show own_Go p.tables e below _ T1 (mkF m 4 #[.val (.ref a1)] [(.ref w)])
  obtain ⟨fs, hr, hrun, hended, hW, hsame⟩ := X1.leave (v := some (.ref w)) (fun h => by rw [Bd.returns] at h; cases h)
  refine ⟨_, _, ?_, hrun, hended, _, _, rfl, ?_, ⟨_, rfl⟩, hW, hsame.mono (by decide) (by decide)⟩
  · exact retOut X1 hx Bd.returns rfl (Or.inr (Or.inr (Or.inr (Or.inr ⟨rfl, rfl, rfl⟩)))) (hb hby d5_4) hr
  · show Q5 Z a1 w h0 n0 _ T1.heap _
    rw [e1]
    exact ⟨rfl, N0, rfl⟩
theorem d6_0 : decode prog_74_method_7_code 0 = .ok (.aload_n 0, 1) := by decide +kernel
theorem d6_1 : decode prog_74_method_7_code 1 = .ok (.getfield 13, 3) := by decide +kernel
theorem d6_4 : decode prog_74_method_7_code 4 = .ok (.ireturn, 1) := by decide +kernel
theorem ef_6 (m : MethodId) {a1 : Addr} : entryFrame m #[(.ref a1)] 1 = mkF m 0 #[.val (.ref a1)] [] := by first | (simp [entryFrame, mkF, argsToLocals, Value.category]; done) | rfl
def Q6 (Z : State) (a1 : Addr) (w : Int32) (h0 : Heap) (n0 : Nat) (v : Option Value) (h : Heap) (L : List Loc) : Prop := v = some (.int w) ∧ Fr n0 L ∧ h = h0
set_option maxRecDepth 65536 in
set_option maxHeartbeats 40000000 in
theorem rm6 (l : Launch) (Z : State) (a0 : Array Value) (hw : ∀ d ∈ tables_1, d.before a0 Z = true) (ws : List Jvm.Cond) (a1 : Addr) (w : Int32) (h0 : Heap) (n0 : Nat) (Z0 : n0 ≤ h0.size) (F : Fld Z h0 a1 "com/example/scriptwire/scriptwire/script/Slice" "offset" "I" (.int w)) :
    MetFree l (⟨"com/example/scriptwire/scriptwire/script/Slice", "offset", "()I"⟩ : MethodName) (head1 (Jvm.Cond.code (⟨"com/example/scriptwire/scriptwire/script/Slice", "offset", "()I"⟩ : MethodName) prog_74_method_7_code 1 (some .int) :: ws) ({ frames := 0, cells := 0, slots := 0, locals := 0 } : Room)) (fun a U => a = #[(.ref a1)] ∧ Z.Warmed39 U.vm ∧ U.heap = h0) (fun _ _ _ _ _ => True) (fun _ U o U' => ∃ v L, o = .returned v ∧ Q6 Z a1 w h0 n0 v U'.heap L ∧ FrameEnd U o U' L (({ frames := 0, cells := 0, slots := 0, locals := 0 } : Room)).cells (({ frames := 0, cells := 0, slots := 0, locals := 0 } : Room)).slots) := by
  refine MetFree.of_bodySF (plainFor_of_name pn_1) hisR ?_
  intro p e s m args below meth c s₁ Bd hml0 hP hK
  obtain ⟨rfl, hZ, hh⟩ := hP
  have hx := Bd.exec
  have hby := Bd.bytes
  have hml : c.maxLocals = 1 := hml0
  have hown : s.vm.findClass "com/example/scriptwire/scriptwire/script/Slice" = some m.cls := findClass_of_methodNamed Bd.named
  have hnm := (name_of_methodNamed Bd.named Bd.method).1
  have X0 : Stand p l e ({ frames := 0, cells := 0, slots := 0, locals := 0 } : Room) s m #[(.ref a1)] below meth c s₁ [] 0 0 := Stand.of_body Bd
  have e0 : s₁.heap = h0 := by rw [← hh, Bd.state]; rfl
  have N0 := Fr.nil n0
  show own_Go p.tables e below (own_P s (Q6 Z a1 w h0 n0) ({ frames := 0, cells := 0, slots := 0, locals := 0 } : Room).cells ({ frames := 0, cells := 0, slots := 0, locals := 0 } : Room).slots) s₁ _
  rw [ef_6]
  show own_Go p.tables e below _ s₁ (mkF m 0 #[.val (.ref a1)] [])
  refine own_go (fun tz kz => XS.aloadN X0.here hx rfl (hb hby d6_0) rfl rfl kz) ?_
  show own_Go p.tables e below _ s₁ (mkF m 1 #[.val (.ref a1)] [(.ref a1)])
  obtain ⟨T1, X1, e1, st1⟩ := getF X0 hx hZ hown (host := "") (Or.inl (hw _ (List.mem_of_getElem? (i := 20) rfl))) Via.refl e0 F (g := (mkF m 1 #[.val (.ref a1)] [(.ref a1)])) rfl rfl (hb hby d6_1)
  refine own_go st1 ?_
  show own_Go p.tables e below _ T1 (mkF m 4 #[.val (.ref a1)] [(.int w)])
  obtain ⟨fs, hr, hrun, hended, hW, hsame⟩ := X1.leave (v := some (.int w)) (fun h => by rw [Bd.returns] at h; cases h)
  refine ⟨_, _, ?_, hrun, hended, _, _, rfl, ?_, ⟨_, rfl⟩, hW, hsame.mono (by decide) (by decide)⟩
  · exact retI X1 hx Bd.returns (hb hby d6_4) hr
  · show Q6 Z a1 w h0 n0 _ T1.heap _
    rw [e1]
    exact ⟨rfl, N0, rfl⟩
theorem d7_0 : decode prog_74_method_8_code 0 = .ok (.aload_n 0, 1) := by decide +kernel
theorem d7_1 : decode prog_74_method_8_code 1 = .ok (.getfield 17, 3) := by decide +kernel
theorem d7_4 : decode prog_74_method_8_code 4 = .ok (.ireturn, 1) := by decide +kernel
theorem ef_7 (m : MethodId) {a1 : Addr} : entryFrame m #[(.ref a1)] 1 = mkF m 0 #[.val (.ref a1)] [] := by first | (simp [entryFrame, mkF, argsToLocals, Value.category]; done) | rfl
def Q7 (Z : State) (a1 : Addr) (w : Int32) (h0 : Heap) (n0 : Nat) (v : Option Value) (h : Heap) (L : List Loc) : Prop := v = some (.int w) ∧ Fr n0 L ∧ h = h0
set_option maxRecDepth 65536 in
set_option maxHeartbeats 40000000 in
theorem rm7 (l : Launch) (Z : State) (a0 : Array Value) (hw : ∀ d ∈ tables_1, d.before a0 Z = true) (ws : List Jvm.Cond) (a1 : Addr) (w : Int32) (h0 : Heap) (n0 : Nat) (Z0 : n0 ≤ h0.size) (F : Fld Z h0 a1 "com/example/scriptwire/scriptwire/script/Slice" "length" "I" (.int w)) :
    MetFree l (⟨"com/example/scriptwire/scriptwire/script/Slice", "length", "()I"⟩ : MethodName) (head1 (Jvm.Cond.code (⟨"com/example/scriptwire/scriptwire/script/Slice", "length", "()I"⟩ : MethodName) prog_74_method_8_code 1 (some .int) :: ws) ({ frames := 0, cells := 0, slots := 0, locals := 0 } : Room)) (fun a U => a = #[(.ref a1)] ∧ Z.Warmed39 U.vm ∧ U.heap = h0) (fun _ _ _ _ _ => True) (fun _ U o U' => ∃ v L, o = .returned v ∧ Q7 Z a1 w h0 n0 v U'.heap L ∧ FrameEnd U o U' L (({ frames := 0, cells := 0, slots := 0, locals := 0 } : Room)).cells (({ frames := 0, cells := 0, slots := 0, locals := 0 } : Room)).slots) := by
  refine MetFree.of_bodySF (plainFor_of_name pn_1) hisR ?_
  intro p e s m args below meth c s₁ Bd hml0 hP hK
  obtain ⟨rfl, hZ, hh⟩ := hP
  have hx := Bd.exec
  have hby := Bd.bytes
  have hml : c.maxLocals = 1 := hml0
  have hown : s.vm.findClass "com/example/scriptwire/scriptwire/script/Slice" = some m.cls := findClass_of_methodNamed Bd.named
  have hnm := (name_of_methodNamed Bd.named Bd.method).1
  have X0 : Stand p l e ({ frames := 0, cells := 0, slots := 0, locals := 0 } : Room) s m #[(.ref a1)] below meth c s₁ [] 0 0 := Stand.of_body Bd
  have e0 : s₁.heap = h0 := by rw [← hh, Bd.state]; rfl
  have N0 := Fr.nil n0
  show own_Go p.tables e below (own_P s (Q7 Z a1 w h0 n0) ({ frames := 0, cells := 0, slots := 0, locals := 0 } : Room).cells ({ frames := 0, cells := 0, slots := 0, locals := 0 } : Room).slots) s₁ _
  rw [ef_7]
  show own_Go p.tables e below _ s₁ (mkF m 0 #[.val (.ref a1)] [])
  refine own_go (fun tz kz => XS.aloadN X0.here hx rfl (hb hby d7_0) rfl rfl kz) ?_
  show own_Go p.tables e below _ s₁ (mkF m 1 #[.val (.ref a1)] [(.ref a1)])
  obtain ⟨T1, X1, e1, st1⟩ := getF X0 hx hZ hown (host := "") (Or.inl (hw _ (List.mem_of_getElem? (i := 22) rfl))) Via.refl e0 F (g := (mkF m 1 #[.val (.ref a1)] [(.ref a1)])) rfl rfl (hb hby d7_1)
  refine own_go st1 ?_
  show own_Go p.tables e below _ T1 (mkF m 4 #[.val (.ref a1)] [(.int w)])
  obtain ⟨fs, hr, hrun, hended, hW, hsame⟩ := X1.leave (v := some (.int w)) (fun h => by rw [Bd.returns] at h; cases h)
  refine ⟨_, _, ?_, hrun, hended, _, _, rfl, ?_, ⟨_, rfl⟩, hW, hsame.mono (by decide) (by decide)⟩
  · exact retI X1 hx Bd.returns (hb hby d7_4) hr
  · show Q7 Z a1 w h0 n0 _ T1.heap _
    rw [e1]
    exact ⟨rfl, N0, rfl⟩
theorem pd_2 : parseMethodDescriptor "([B)Lcom/example/scriptwire/scriptwire/script/Slice;" = some ⟨[(.array .byte)], some (.object "com/example/scriptwire/scriptwire/script/Slice")⟩ := by decide +kernel
theorem pd_3 : parseMethodDescriptor "()[B" = some ⟨[], some (.array .byte)⟩ := by decide +kernel
theorem pd_4 : parseMethodDescriptor "()I" = some ⟨[], some .int⟩ := by decide +kernel
theorem pn_2 : plainName "com/example/scriptwire/scriptwire/script/SliceOfPinLaw" = true := by first | (simp [plainName, overriddenIn]; done) | decide +kernel
theorem ef_0 (m : MethodId) {p1 : Int32} {p2 : Int32} {p3 : Int32} : entryFrame m #[(.int p1), (.int p2), (.int p3)] maxLocals = mkF m 0 #[.val (.int p1), .val (.int p2), .val (.int p3), .unset, .unset, .unset] [] := by first | (simp [entryFrame, mkF, argsToLocals, Value.category, maxLocals]; done) | rfl
def Q0 (Z : State) (p1 : Int32) (p2 : Int32) (p3 : Int32) (h0 : Heap) (n0 : Nat) (v : Option Value) (h : Heap) (L : List Loc) : Prop := v = some (.int 1) ∧ Fr n0 L
set_option maxRecDepth 65536 in
set_option maxHeartbeats 40000000 in
theorem rm0 (l : Launch) (Z : State) (a0 : Array Value) (hw : ∀ d ∈ tables_1, d.before a0 Z = true) (ws : List Jvm.Cond) (p1 : Int32) (p2 : Int32) (p3 : Int32) (h0 : Heap) (n0 : Nat) (Z0 : n0 ≤ h0.size) :
    MetFree l x (head1 (Jvm.Cond.code x code maxLocals ret :: ws) room_1) (fun a U => a = #[(.int p1), (.int p2), (.int p3)] ∧ Z.Warmed39 U.vm ∧ U.heap = h0) (fun _ _ _ _ _ => True) (fun _ U o U' => ∃ v L, o = .returned v ∧ Q0 Z p1 p2 p3 h0 n0 v U'.heap L ∧ FrameEnd U o U' L (room_1).cells (room_1).slots) := by
  refine MetFree.of_bodySF (plainFor_of_name pn_2) hisR ?_
  intro p e s m args below meth c s₁ Bd hml0 hP hK
  obtain ⟨rfl, hZ, hh⟩ := hP
  have hx := Bd.exec
  have hby := Bd.bytes
  have hml : c.maxLocals = 6 := hml0
  have hown : s.vm.findClass "com/example/scriptwire/scriptwire/script/SliceOfPinLaw" = some m.cls := findClass_of_methodNamed Bd.named
  have hnm := (name_of_methodNamed Bd.named Bd.method).1
  have X0 : Stand p l e room_1 s m #[(.int p1), (.int p2), (.int p3)] below meth c s₁ [] 0 0 := Stand.of_body Bd
  have e0 : s₁.heap = h0 := by rw [← hh, Bd.state]; rfl
  have N0 := Fr.nil n0
  show own_Go p.tables e below (own_P s (Q0 Z p1 p2 p3 h0 n0) room_1.cells room_1.slots) s₁ _
  rw [ef_0]
  show own_Go p.tables e below _ s₁ (mkF m 0 #[.val (.int p1), .val (.int p2), .val (.int p3), .unset, .unset, .unset] [])
  obtain ⟨j, hj, ej⟩ := own_low p1
  have hj' : j < 2 ^ 31 := by omega
  refine own_go (fun tz kz => XS.iloadN X0.here hx rfl (hb hby at_0) rfl kz) ?_
  show own_Go p.tables e below _ s₁ (mkF m 1 #[.val (.int p1), .val (.int p2), .val (.int p3), .unset, .unset, .unset] [(.int p1)])
  refine own_go (fun tz kz => XS.bipush X0.here hx rfl (hb hby at_1) kz) ?_
  show own_Go p.tables e below _ s₁ (mkF m 3 #[.val (.int p1), .val (.int p2), .val (.int p3), .unset, .unset, .unset] [(.int (15 : Int32)), (.int p1)])
  refine own_go (fun tz kz => XS.iand X0.here hx rfl (hb hby at_3) rfl kz) ?_
  show own_Go p.tables e below _ s₁ (mkF m 4 #[.val (.int p1), .val (.int p2), .val (.int p3), .unset, .unset, .unset] [(.int (p1 &&& (15 : Int32)))])
  rw [show (p1 &&& (15 : Int32)) = (Int32.ofNat j) from ej]
  show own_Go p.tables e below _ s₁ (mkF m 4 #[.val (.int p1), .val (.int p2), .val (.int p3), .unset, .unset, .unset] [(.int (Int32.ofNat j))])
  refine own_go (fun tz kz => XS.istoreN X0.here hx rfl (hb hby at_4) rfl (l' := #[.val (.int p1), .val (.int p2), .val (.int p3), .val (.int (Int32.ofNat j)), .unset, .unset]) rfl kz) ?_
  show own_Go p.tables e below _ s₁ (mkF m 5 #[.val (.int p1), .val (.int p2), .val (.int p3), .val (.int (Int32.ofNat j)), .unset, .unset] [])
  refine own_go (fun tz kz => XS.iloadN X0.here hx rfl (hb hby at_5) rfl kz) ?_
  show own_Go p.tables e below _ s₁ (mkF m 6 #[.val (.int p1), .val (.int p2), .val (.int p3), .val (.int (Int32.ofNat j)), .unset, .unset] [(.int (Int32.ofNat j))])
  obtain ⟨T1, h1, k1, X1, e1, E1, A1, st1⟩ := newP X0 hx hZ (hw _ (List.mem_of_getElem? (i := 0) rfl)) e0 (g := (mkF m 6 #[.val (.int p1), .val (.int p2), .val (.int p3), .val (.int (Int32.ofNat j)), .unset, .unset] [(.int (Int32.ofNat j))])) rfl (hb hby at_6) rfl (own_nat hj').1 (cap := 15) (by rw [(own_nat hj').2]; omega) (by decide) (by decide) (by decide)
  obtain ⟨b, eq_b⟩ : ∃ z, z = (h0).size := ⟨_, rfl⟩
  rw [← eq_b] at A1 st1
  have g_b : n0 ≤ b := Nat.le_trans Z0 (Nat.le_of_eq eq_b.symm)
  have V_b : own_Av Z h1 b .byte j (fun _ => .int 0) := own_Av.new A1 (own_nat hj').2
  refine own_go st1 ?_
  show own_Go p.tables e below _ T1 (mkF m 8 #[.val (.int p1), .val (.int p2), .val (.int p3), .val (.int (Int32.ofNat j)), .unset, .unset] [(.ref b)])
  refine own_go (fun tz kz => XS.astore X1.here hx rfl (hb hby at_8) rfl rfl (l' := #[.val (.int p1), .val (.int p2), .val (.int p3), .val (.int (Int32.ofNat j)), .val (.ref b), .unset]) rfl kz) ?_
  show own_Go p.tables e below _ T1 (mkF m 10 #[.val (.int p1), .val (.int p2), .val (.int p3), .val (.int (Int32.ofNat j)), .val (.ref b), .unset] [])
  refine own_go (fun tz kz => XS.iloadN X1.here hx rfl (hb hby at_10) rfl kz) ?_
  show own_Go p.tables e below _ T1 (mkF m 11 #[.val (.int p1), .val (.int p2), .val (.int p3), .val (.int (Int32.ofNat j)), .val (.ref b), .unset] [(.int (Int32.ofNat j))])
  by_cases h11 : (0 : Int32) < (Int32.ofNat j)
  ·
    refine own_go (fun tz kz => XS.ifNo X1.here hx rfl (hb hby at_11) rfl (XT.i0_le_f h11) kz) ?_
    show own_Go p.tables e below _ T1 (mkF m 14 #[.val (.int p1), .val (.int p2), .val (.int p3), .val (.int (Int32.ofNat j)), .val (.ref b), .unset] [])
    have hj0 : 0 < j := (own_ltn (i := 0) (by decide) hj').mp h11
    refine own_go (fun tz kz => XS.aload X1.here hx rfl (hb hby at_14) rfl rfl kz) ?_
    show own_Go p.tables e below _ T1 (mkF m 16 #[.val (.int p1), .val (.int p2), .val (.int p3), .val (.int (Int32.ofNat j)), .val (.ref b), .unset] [(.ref b)])
    refine own_go (fun tz kz => XS.iconst X1.here hx rfl (hb hby at_16) kz) ?_
    show own_Go p.tables e below _ T1 (mkF m 17 #[.val (.int p1), .val (.int p2), .val (.int p3), .val (.int (Int32.ofNat j)), .val (.ref b), .unset] [(.int (0 : Int32)), (.ref b)])
    refine own_go (fun tz kz => XS.iloadN X1.here hx rfl (hb hby at_17) rfl kz) ?_
    show own_Go p.tables e below _ T1 (mkF m 18 #[.val (.int p1), .val (.int p2), .val (.int p3), .val (.int (Int32.ofNat j)), .val (.ref b), .unset] [(.int p2), (.int (0 : Int32)), (.ref b)])
    refine own_go (fun tz kz => XT.i2b X1.here hx rfl (hb hby at_18) rfl kz) ?_
    show own_Go p.tables e below _ T1 (mkF m 19 #[.val (.int p1), .val (.int p2), .val (.int p3), .val (.int (Int32.ofNat j)), .val (.ref b), .unset] [(.int p2.toInt8.toInt32), (.int (0 : Int32)), (.ref b)])
    obtain ⟨c2, Ar2, Sz2, Ge2⟩ := id (V_b)
    obtain ⟨T2, h2, X2, e2, W2, st2⟩ := stB X1 hx hZ e1 Ar2 (j := (0 : Int32)) (own_inb (i := 0) Sz2 (own_nat (i := 0) (by decide)) hj0) (g := (mkF m 19 #[.val (.int p1), .val (.int p2), .val (.int p3), .val (.int (Int32.ofNat j)), .val (.ref b), .unset] [(.int p2.toInt8.toInt32), (.int (0 : Int32)), (.ref b)])) rfl rfl (hb hby at_19)
    have V1 := own_Av.set (V_b) W2 ((own_nat (i := 0) (by decide)) : ¬ (0 : Int32) < 0 ∧ ((0 : Int32)).toNatClampNeg = 0).2
    have N2 := Fr.snoc X2 N0 g_b
    refine own_go st2 ?_
    show own_Go p.tables e below _ T2 (mkF m 20 #[.val (.int p1), .val (.int p2), .val (.int p3), .val (.int (Int32.ofNat j)), .val (.ref b), .unset] [])
    refine own_go (fun tz kz => XS.iloadN X2.here hx rfl (hb hby at_20) rfl kz) ?_
    show own_Go p.tables e below _ T2 (mkF m 21 #[.val (.int p1), .val (.int p2), .val (.int p3), .val (.int (Int32.ofNat j)), .val (.ref b), .unset] [(.int (Int32.ofNat j))])
    refine own_go (fun tz kz => XS.iconst X2.here hx rfl (hb hby at_21) kz) ?_
    show own_Go p.tables e below _ T2 (mkF m 22 #[.val (.int p1), .val (.int p2), .val (.int p3), .val (.int (Int32.ofNat j)), .val (.ref b), .unset] [(.int (1 : Int32)), (.int (Int32.ofNat j))])
    by_cases h22 : (1 : Int32) < (Int32.ofNat j)
    ·
      refine own_go (fun tz kz => XS.icmpNo X2.here hx rfl (hb hby at_22) rfl (XT.ii_le_f h22) kz) ?_
      show own_Go p.tables e below _ T2 (mkF m 25 #[.val (.int p1), .val (.int p2), .val (.int p3), .val (.int (Int32.ofNat j)), .val (.ref b), .unset] [])
      have hj1 : 1 < j := (own_ltn (i := 1) (by decide) hj').mp h22
      refine own_go (fun tz kz => XS.aload X2.here hx rfl (hb hby at_25) rfl rfl kz) ?_
      show own_Go p.tables e below _ T2 (mkF m 27 #[.val (.int p1), .val (.int p2), .val (.int p3), .val (.int (Int32.ofNat j)), .val (.ref b), .unset] [(.ref b)])
      refine own_go (fun tz kz => XS.iloadN X2.here hx rfl (hb hby at_27) rfl kz) ?_
      show own_Go p.tables e below _ T2 (mkF m 28 #[.val (.int p1), .val (.int p2), .val (.int p3), .val (.int (Int32.ofNat j)), .val (.ref b), .unset] [(.int (Int32.ofNat j)), (.ref b)])
      refine own_go (fun tz kz => XS.iconst X2.here hx rfl (hb hby at_28) kz) ?_
      show own_Go p.tables e below _ T2 (mkF m 29 #[.val (.int p1), .val (.int p2), .val (.int p3), .val (.int (Int32.ofNat j)), .val (.ref b), .unset] [(.int (1 : Int32)), (.int (Int32.ofNat j)), (.ref b)])
      refine own_go (fun tz kz => XS.isub X2.here hx rfl (hb hby at_29) rfl kz) ?_
      show own_Go p.tables e below _ T2 (mkF m 30 #[.val (.int p1), .val (.int p2), .val (.int p3), .val (.int (Int32.ofNat j)), .val (.ref b), .unset] [(.int ((Int32.ofNat j) - (1 : Int32))), (.ref b)])
      rw [show ((Int32.ofNat j) - (1 : Int32)) = (Int32.ofNat (j - 1)) from own_pred hj0 hj']
      show own_Go p.tables e below _ T2 (mkF m 30 #[.val (.int p1), .val (.int p2), .val (.int p3), .val (.int (Int32.ofNat j)), .val (.ref b), .unset] [(.int (Int32.ofNat (j - 1))), (.ref b)])
      refine own_go (fun tz kz => XS.iloadN X2.here hx rfl (hb hby at_30) rfl kz) ?_
      show own_Go p.tables e below _ T2 (mkF m 31 #[.val (.int p1), .val (.int p2), .val (.int p3), .val (.int (Int32.ofNat j)), .val (.ref b), .unset] [(.int p3), (.int (Int32.ofNat (j - 1))), (.ref b)])
      refine own_go (fun tz kz => XT.i2b X2.here hx rfl (hb hby at_31) rfl kz) ?_
      show own_Go p.tables e below _ T2 (mkF m 32 #[.val (.int p1), .val (.int p2), .val (.int p3), .val (.int (Int32.ofNat j)), .val (.ref b), .unset] [(.int p3.toInt8.toInt32), (.int (Int32.ofNat (j - 1))), (.ref b)])
      obtain ⟨c3, Ar3, Sz3, Ge3⟩ := id (V1)
      obtain ⟨T3, h3, X3, e3, W3, st3⟩ := stB X2 hx hZ e2 Ar3 (j := (Int32.ofNat (j - 1))) (own_inb (i := (j - 1)) Sz3 (own_nat (i := j - 1) (by omega)) (by omega)) (g := (mkF m 32 #[.val (.int p1), .val (.int p2), .val (.int p3), .val (.int (Int32.ofNat j)), .val (.ref b), .unset] [(.int p3.toInt8.toInt32), (.int (Int32.ofNat (j - 1))), (.ref b)])) rfl rfl (hb hby at_32)
      have V2 := own_Av.set (V1) W3 ((own_nat (i := j - 1) (by omega)) : ¬ (Int32.ofNat (j - 1)) < 0 ∧ ((Int32.ofNat (j - 1))).toNatClampNeg = (j - 1)).2
      have N3 := Fr.snoc X3 N2 g_b
      refine own_go st3 ?_
      show own_Go p.tables e below _ T3 (mkF m 33 #[.val (.int p1), .val (.int p2), .val (.int p3), .val (.int (Int32.ofNat j)), .val (.ref b), .unset] [])
      have hv0 : (fun k => if k = j - 1 then (Value.int (nar .byte p3.toInt8.toInt32)) else if k = 0 then (Value.int (nar .byte p2.toInt8.toInt32)) else .int 0) 0 = .int p2.toInt8.toInt32 := by show (if 0 = j - 1 then _ else _) = _; rw [if_neg (by omega), if_pos rfl]; exact congrArg Value.int (own_b8 p2)
      have hv1 : (fun k => if k = j - 1 then (Value.int (nar .byte p3.toInt8.toInt32)) else if k = 0 then (Value.int (nar .byte p2.toInt8.toInt32)) else .int 0) (j - 1) = .int p3.toInt8.toInt32 := by show (if j - 1 = j - 1 then _ else _) = _; rw [if_pos rfl]; exact congrArg Value.int (own_b8 p3)
      refine own_go (fun tz kz => XS.aload X3.here hx rfl (hb hby at_33) rfl rfl kz) ?_
      show own_Go p.tables e below _ T3 (mkF m 35 #[.val (.int p1), .val (.int p2), .val (.int p3), .val (.int (Int32.ofNat j)), .val (.ref b), .unset] [(.ref b)])
      obtain ⟨sb, eq_sb⟩ : ∃ z, z = (h3).size := ⟨_, rfl⟩
      obtain ⟨_, _, ⟨T4, L4, k4, n4⟩, -, X4, ⟨Lc4, hQ4, l4, y4, z4⟩, st4⟩ := Jvm.LawKit.callS X3 hx (y := (⟨"com/example/scriptwire/scriptwire/script/Slice", "of", "([B)Lcom/example/scriptwire/scriptwire/script/Slice;"⟩ : MethodName)) hown (mvT hZ (hw _ (List.mem_of_getElem? (i := 1) rfl))) (mvT hZ (hw _ (List.mem_of_getElem? (i := 2) rfl))) (mvT hZ (hw _ (List.mem_of_getElem? (i := 3) rfl))) (mvT hZ (hw _ (List.mem_of_getElem? (i := 4) rfl))) (by decide) (backOf (W := 0) (rm1 l Z a0 hw [] b j _ sb h3 n0 (Nat.le_trans (Nat.le_trans (Nat.le_trans Z0 E1.1) (Keep.of_wr W2).1) (Keep.of_wr W3).1) (V2) eq_sb) hZ (hw _ (List.mem_of_getElem? (i := 4) rfl)) (hw _ (List.mem_of_getElem? (i := 3) rfl)) (by decide) (by decide)) (g := (mkF m 35 #[.val (.int p1), .val (.int p2), .val (.int p3), .val (.int (Int32.ofNat j)), .val (.ref b), .unset] [(.ref b)])) rfl (by rw [hml]; rfl) (argsL := [(.ref b)]) (rest := []) (lenOf pd_2 rfl) rfl (by show 2 * 0 + _ ≤ _; exact Nat.le_of_eq rfl) (hb hby at_35) (fun _ _ => ⟨rfl, e3, (by decide : 1 + 1 ≤ _), (by decide : 15 + 3 ≤ _)⟩)
      dsimp only [Pt.U, Pt.locs, Pt.cells, Pt.slots] at X4 l4 y4 z4 st4 hQ4
      subst l4 y4 z4
      obtain ⟨rfl, N4q, K4, Ex, Fa, Fo, Fl⟩ := hQ4
      have N4 := Fr.app N3 N4q
      refine own_go (fun tz kz => st4 tz kz) ?_
      show own_Go p.tables e below _ T4 (mkF m 38 #[.val (.int p1), .val (.int p2), .val (.int p3), .val (.int (Int32.ofNat j)), .val (.ref b), .unset] [(.ref sb)])
      have V9 := own_Av.keep (V2) K4 (fun q => nomatch q)
      refine own_go (fun tz kz => XS.astore X4.here hx rfl (hb hby at_38) rfl rfl (l' := #[.val (.int p1), .val (.int p2), .val (.int p3), .val (.int (Int32.ofNat j)), .val (.ref b), .val (.ref sb)]) rfl kz) ?_
      show own_Go p.tables e below _ T4 (mkF m 40 #[.val (.int p1), .val (.int p2), .val (.int p3), .val (.int (Int32.ofNat j)), .val (.ref b), .val (.ref sb)] [])
      refine own_go (fun tz kz => XS.aload X4.here hx rfl (hb hby at_40) rfl rfl kz) ?_
      show own_Go p.tables e below _ T4 (mkF m 42 #[.val (.int p1), .val (.int p2), .val (.int p3), .val (.int (Int32.ofNat j)), .val (.ref b), .val (.ref sb)] [(.ref sb)])
      obtain ⟨cq5, kq5, q5a, q5b, q5c⟩ := isOf hZ rfl Ex
      obtain ⟨_, _, ⟨T5, L5, k5, n5⟩, -, X5, ⟨Lc5, hQ5, l5, y5, z5⟩, st5⟩ := X4.virtualBack hx (y := (⟨"com/example/scriptwire/scriptwire/script/Slice", "array", "()[B"⟩ : MethodName)) (z := (⟨"com/example/scriptwire/scriptwire/script/Slice", "array", "()[B"⟩ : MethodName)) hown (mvT hZ (hw _ (List.mem_of_getElem? (i := 24) rfl))) (mvT hZ (hw _ (List.mem_of_getElem? (i := 25) rfl))) (notFace_of_selects (args := #[]) (mvT hZ (hw _ (List.mem_of_getElem? (i := 27) rfl)))) (mvT hZ (hw _ (List.mem_of_getElem? (i := 27) rfl))) (mvT hZ (hw _ (List.mem_of_getElem? (i := 26) rfl))) (by decide) (backOf (W := 0) (rm5 l Z a0 hw [] sb b T4.heap n0 (Nat.le_trans (Nat.le_trans (Nat.le_trans (Nat.le_trans Z0 E1.1) (Keep.of_wr W2).1) (Keep.of_wr W3).1) K4.1) Fa) hZ (hw _ (List.mem_of_getElem? (i := 28) rfl)) (hw _ (List.mem_of_getElem? (i := 3) rfl)) (by decide) (by decide)) q5a q5c (g := (mkF m 42 #[.val (.int p1), .val (.int p2), .val (.int p3), .val (.int (Int32.ofNat j)), .val (.ref b), .val (.ref sb)] [(.ref sb)])) rfl (by rw [hml]; rfl) (Steps.refl _) (argsL := []) (rest := []) (lenOf pd_3 rfl) rfl (by show 2 * 0 + _ ≤ _; exact Nat.le_of_eq rfl) (hb hby at_42) (fun _ _ => ⟨rfl, rfl, (by decide : 2 + 0 ≤ _), (by decide : 18 + 0 ≤ _)⟩)
      dsimp only [Pt.U, Pt.locs, Pt.cells, Pt.slots] at X5 l5 y5 z5 st5 hQ5
      subst l5 y5 z5
      obtain ⟨rfl, N5q, e5⟩ := hQ5
      have N5 := Fr.app N4 N5q
      refine own_go (fun tz kz => st5.trans kz) ?_
      show own_Go p.tables e below _ T5 (mkF m 45 #[.val (.int p1), .val (.int p2), .val (.int p3), .val (.int (Int32.ofNat j)), .val (.ref b), .val (.ref sb)] [(.ref b)])
      refine own_go (fun tz kz => XS.aload X5.here hx rfl (hb hby at_45) rfl rfl kz) ?_
      show own_Go p.tables e below _ T5 (mkF m 47 #[.val (.int p1), .val (.int p2), .val (.int p3), .val (.int (Int32.ofNat j)), .val (.ref b), .val (.ref sb)] [(.ref b), (.ref b)])
      refine own_go (fun tz kz => XT.acmpYes X5.here hx rfl (pc0 := 47) (pc' := 52) rfl (hb hby at_47) rfl rfl rfl (XT.aa_eq_t rfl) (by decide) (by decide) kz) ?_
      show own_Go p.tables e below _ T5 (mkF m 52 #[.val (.int p1), .val (.int p2), .val (.int p3), .val (.int (Int32.ofNat j)), .val (.ref b), .val (.ref sb)] [])
      refine own_go (fun tz kz => XS.aload X5.here hx rfl (hb hby at_52) rfl rfl kz) ?_
      show own_Go p.tables e below _ T5 (mkF m 54 #[.val (.int p1), .val (.int p2), .val (.int p3), .val (.int (Int32.ofNat j)), .val (.ref b), .val (.ref sb)] [(.ref sb)])
      obtain ⟨cq6, kq6, q6a, q6b, q6c⟩ := isOf hZ e5 Ex
      obtain ⟨_, _, ⟨T6, L6, k6, n6⟩, -, X6, ⟨Lc6, hQ6, l6, y6, z6⟩, st6⟩ := X5.virtualBack hx (y := (⟨"com/example/scriptwire/scriptwire/script/Slice", "offset", "()I"⟩ : MethodName)) (z := (⟨"com/example/scriptwire/scriptwire/script/Slice", "offset", "()I"⟩ : MethodName)) hown (mvT hZ (hw _ (List.mem_of_getElem? (i := 29) rfl))) (mvT hZ (hw _ (List.mem_of_getElem? (i := 30) rfl))) (notFace_of_selects (args := #[]) (mvT hZ (hw _ (List.mem_of_getElem? (i := 32) rfl)))) (mvT hZ (hw _ (List.mem_of_getElem? (i := 32) rfl))) (mvT hZ (hw _ (List.mem_of_getElem? (i := 31) rfl))) (by decide) (backOf (W := 0) (rm6 l Z a0 hw [] sb (0 : Int32) T4.heap n0 (Nat.le_trans (Nat.le_trans (Nat.le_trans (Nat.le_trans Z0 E1.1) (Keep.of_wr W2).1) (Keep.of_wr W3).1) K4.1) Fo) hZ (hw _ (List.mem_of_getElem? (i := 33) rfl)) (hw _ (List.mem_of_getElem? (i := 3) rfl)) (by decide) (by decide)) q6a q6c (g := (mkF m 54 #[.val (.int p1), .val (.int p2), .val (.int p3), .val (.int (Int32.ofNat j)), .val (.ref b), .val (.ref sb)] [(.ref sb)])) rfl (by rw [hml]; rfl) (Steps.refl _) (argsL := []) (rest := []) (lenOf pd_4 rfl) rfl (by show 2 * 0 + _ ≤ _; exact Nat.le_of_eq rfl) (hb hby at_54) (fun _ _ => ⟨rfl, e5, (by decide : 2 + 0 ≤ _), (by decide : 18 + 0 ≤ _)⟩)
      dsimp only [Pt.U, Pt.locs, Pt.cells, Pt.slots] at X6 l6 y6 z6 st6 hQ6
      subst l6 y6 z6
      obtain ⟨rfl, N6q, e6⟩ := hQ6
      have N6 := Fr.app N5 N6q
      refine own_go (fun tz kz => st6.trans kz) ?_
      show own_Go p.tables e below _ T6 (mkF m 57 #[.val (.int p1), .val (.int p2), .val (.int p3), .val (.int (Int32.ofNat j)), .val (.ref b), .val (.ref sb)] [(.int (0 : Int32))])
      refine own_go (fun tz kz => XS.ifYes X6.here hx rfl (pc0 := 57) (pc' := 62) rfl (hb hby at_57) rfl (XT.i0_eq_t rfl) (by decide) (by decide) kz) ?_
      show own_Go p.tables e below _ T6 (mkF m 62 #[.val (.int p1), .val (.int p2), .val (.int p3), .val (.int (Int32.ofNat j)), .val (.ref b), .val (.ref sb)] [])
      refine own_go (fun tz kz => XS.aload X6.here hx rfl (hb hby at_62) rfl rfl kz) ?_
      show own_Go p.tables e below _ T6 (mkF m 64 #[.val (.int p1), .val (.int p2), .val (.int p3), .val (.int (Int32.ofNat j)), .val (.ref b), .val (.ref sb)] [(.ref sb)])
      obtain ⟨cq7, kq7, q7a, q7b, q7c⟩ := isOf hZ e6 Ex
      obtain ⟨_, _, ⟨T7, L7, k7, n7⟩, -, X7, ⟨Lc7, hQ7, l7, y7, z7⟩, st7⟩ := X6.virtualBack hx (y := (⟨"com/example/scriptwire/scriptwire/script/Slice", "length", "()I"⟩ : MethodName)) (z := (⟨"com/example/scriptwire/scriptwire/script/Slice", "length", "()I"⟩ : MethodName)) hown (mvT hZ (hw _ (List.mem_of_getElem? (i := 34) rfl))) (mvT hZ (hw _ (List.mem_of_getElem? (i := 35) rfl))) (notFace_of_selects (args := #[]) (mvT hZ (hw _ (List.mem_of_getElem? (i := 37) rfl)))) (mvT hZ (hw _ (List.mem_of_getElem? (i := 37) rfl))) (mvT hZ (hw _ (List.mem_of_getElem? (i := 36) rfl))) (by decide) (backOf (W := 0) (rm7 l Z a0 hw [] sb (Int32.ofNat j) T4.heap n0 (Nat.le_trans (Nat.le_trans (Nat.le_trans (Nat.le_trans Z0 E1.1) (Keep.of_wr W2).1) (Keep.of_wr W3).1) K4.1) Fl) hZ (hw _ (List.mem_of_getElem? (i := 38) rfl)) (hw _ (List.mem_of_getElem? (i := 3) rfl)) (by decide) (by decide)) q7a q7c (g := (mkF m 64 #[.val (.int p1), .val (.int p2), .val (.int p3), .val (.int (Int32.ofNat j)), .val (.ref b), .val (.ref sb)] [(.ref sb)])) rfl (by rw [hml]; rfl) (Steps.refl _) (argsL := []) (rest := []) (lenOf pd_4 rfl) rfl (by show 2 * 0 + _ ≤ _; exact Nat.le_of_eq rfl) (hb hby at_64) (fun _ _ => ⟨rfl, e6, (by decide : 2 + 0 ≤ _), (by decide : 18 + 0 ≤ _)⟩)
      dsimp only [Pt.U, Pt.locs, Pt.cells, Pt.slots] at X7 l7 y7 z7 st7 hQ7
      subst l7 y7 z7
      obtain ⟨rfl, N7q, e7⟩ := hQ7
      have N7 := Fr.app N6 N7q
      refine own_go (fun tz kz => st7.trans kz) ?_
      show own_Go p.tables e below _ T7 (mkF m 67 #[.val (.int p1), .val (.int p2), .val (.int p3), .val (.int (Int32.ofNat j)), .val (.ref b), .val (.ref sb)] [(.int (Int32.ofNat j))])
      refine own_go (fun tz kz => XS.iloadN X7.here hx rfl (hb hby at_67) rfl kz) ?_
      show own_Go p.tables e below _ T7 (mkF m 68 #[.val (.int p1), .val (.int p2), .val (.int p3), .val (.int (Int32.ofNat j)), .val (.ref b), .val (.ref sb)] [(.int (Int32.ofNat j)), (.int (Int32.ofNat j))])
      refine own_go (fun tz kz => XS.icmpYes X7.here hx rfl (pc0 := 68) (pc' := 73) rfl (hb hby at_68) rfl (XT.ii_eq_t rfl) (by decide) (by decide) kz) ?_
      show own_Go p.tables e below _ T7 (mkF m 73 #[.val (.int p1), .val (.int p2), .val (.int p3), .val (.int (Int32.ofNat j)), .val (.ref b), .val (.ref sb)] [])
      refine own_go (fun tz kz => XS.iloadN X7.here hx rfl (hb hby at_73) rfl kz) ?_
      show own_Go p.tables e below _ T7 (mkF m 74 #[.val (.int p1), .val (.int p2), .val (.int p3), .val (.int (Int32.ofNat j)), .val (.ref b), .val (.ref sb)] [(.int (Int32.ofNat j))])
      refine own_go (fun tz kz => XS.ifNo X7.here hx rfl (hb hby at_74) rfl (XT.i0_le_f h11) kz) ?_
      show own_Go p.tables e below _ T7 (mkF m 77 #[.val (.int p1), .val (.int p2), .val (.int p3), .val (.int (Int32.ofNat j)), .val (.ref b), .val (.ref sb)] [])
      refine own_go (fun tz kz => XS.aload X7.here hx rfl (hb hby at_77) rfl rfl kz) ?_
      show own_Go p.tables e below _ T7 (mkF m 79 #[.val (.int p1), .val (.int p2), .val (.int p3), .val (.int (Int32.ofNat j)), .val (.ref b), .val (.ref sb)] [(.ref sb)])
      obtain ⟨cq8, kq8, q8a, q8b, q8c⟩ := isOf hZ e7 Ex
      obtain ⟨_, _, ⟨T8, L8, k8, n8⟩, -, X8, ⟨Lc8, hQ8, l8, y8, z8⟩, st8⟩ := X7.virtualBack hx (y := (⟨"com/example/scriptwire/scriptwire/script/Slice", "array", "()[B"⟩ : MethodName)) (z := (⟨"com/example/scriptwire/scriptwire/script/Slice", "array", "()[B"⟩ : MethodName)) hown (mvT hZ (hw _ (List.mem_of_getElem? (i := 24) rfl))) (mvT hZ (hw _ (List.mem_of_getElem? (i := 25) rfl))) (notFace_of_selects (args := #[]) (mvT hZ (hw _ (List.mem_of_getElem? (i := 27) rfl)))) (mvT hZ (hw _ (List.mem_of_getElem? (i := 27) rfl))) (mvT hZ (hw _ (List.mem_of_getElem? (i := 26) rfl))) (by decide) (backOf (W := 0) (rm5 l Z a0 hw [] sb b T4.heap n0 (Nat.le_trans (Nat.le_trans (Nat.le_trans (Nat.le_trans Z0 E1.1) (Keep.of_wr W2).1) (Keep.of_wr W3).1) K4.1) Fa) hZ (hw _ (List.mem_of_getElem? (i := 28) rfl)) (hw _ (List.mem_of_getElem? (i := 3) rfl)) (by decide) (by decide)) q8a q8c (g := (mkF m 79 #[.val (.int p1), .val (.int p2), .val (.int p3), .val (.int (Int32.ofNat j)), .val (.ref b), .val (.ref sb)] [(.ref sb)])) rfl (by rw [hml]; rfl) (Steps.refl _) (argsL := []) (rest := []) (lenOf pd_3 rfl) rfl (by show 2 * 0 + _ ≤ _; exact Nat.le_of_eq rfl) (hb hby at_79) (fun _ _ => ⟨rfl, e7, (by decide : 2 + 0 ≤ _), (by decide : 18 + 0 ≤ _)⟩)
      dsimp only [Pt.U, Pt.locs, Pt.cells, Pt.slots] at X8 l8 y8 z8 st8 hQ8
      subst l8 y8 z8
      obtain ⟨rfl, N8q, e8⟩ := hQ8
      have N8 := Fr.app N7 N8q
      refine own_go (fun tz kz => st8.trans kz) ?_
      show own_Go p.tables e below _ T8 (mkF m 82 #[.val (.int p1), .val (.int p2), .val (.int p3), .val (.int (Int32.ofNat j)), .val (.ref b), .val (.ref sb)] [(.ref b)])
      refine own_go (fun tz kz => XS.aload X8.here hx rfl (hb hby at_82) rfl rfl kz) ?_
      show own_Go p.tables e below _ T8 (mkF m 84 #[.val (.int p1), .val (.int p2), .val (.int p3), .val (.int (Int32.ofNat j)), .val (.ref b), .val (.ref sb)] [(.ref sb), (.ref b)])
      obtain ⟨cq9, kq9, q9a, q9b, q9c⟩ := isOf hZ e8 Ex
      obtain ⟨_, _, ⟨T9, L9, k9, n9⟩, -, X9, ⟨Lc9, hQ9, l9, y9, z9⟩, st9⟩ := X8.virtualBack hx (y := (⟨"com/example/scriptwire/scriptwire/script/Slice", "offset", "()I"⟩ : MethodName)) (z := (⟨"com/example/scriptwire/scriptwire/script/Slice", "offset", "()I"⟩ : MethodName)) hown (mvT hZ (hw _ (List.mem_of_getElem? (i := 29) rfl))) (mvT hZ (hw _ (List.mem_of_getElem? (i := 30) rfl))) (notFace_of_selects (args := #[]) (mvT hZ (hw _ (List.mem_of_getElem? (i := 32) rfl)))) (mvT hZ (hw _ (List.mem_of_getElem? (i := 32) rfl))) (mvT hZ (hw _ (List.mem_of_getElem? (i := 31) rfl))) (by decide) (backOf (W := 1) (rm6 l Z a0 hw [] sb (0 : Int32) T4.heap n0 (Nat.le_trans (Nat.le_trans (Nat.le_trans (Nat.le_trans Z0 E1.1) (Keep.of_wr W2).1) (Keep.of_wr W3).1) K4.1) Fo) hZ (hw _ (List.mem_of_getElem? (i := 33) rfl)) (hw _ (List.mem_of_getElem? (i := 3) rfl)) (by decide) (by decide)) q9a q9c (g := (mkF m 84 #[.val (.int p1), .val (.int p2), .val (.int p3), .val (.int (Int32.ofNat j)), .val (.ref b), .val (.ref sb)] [(.ref sb), (.ref b)])) rfl (by rw [hml]; rfl) (Steps.refl _) (argsL := []) (rest := [(.ref b)]) (lenOf pd_4 rfl) rfl (by show 2 * 0 + _ ≤ _; exact Nat.le_of_eq rfl) (hb hby at_84) (fun _ _ => ⟨rfl, e8, (by decide : 2 + 0 ≤ _), (by decide : 18 + 0 ≤ _)⟩)
      dsimp only [Pt.U, Pt.locs, Pt.cells, Pt.slots] at X9 l9 y9 z9 st9 hQ9
      subst l9 y9 z9
      obtain ⟨rfl, N9q, e9⟩ := hQ9
      have N9 := Fr.app N8 N9q
      refine own_go (fun tz kz => st9.trans kz) ?_
      show own_Go p.tables e below _ T9 (mkF m 87 #[.val (.int p1), .val (.int p2), .val (.int p3), .val (.int (Int32.ofNat j)), .val (.ref b), .val (.ref sb)] [(.int (0 : Int32)), (.ref b)])
      obtain ⟨c10, Ar10, Sz10, Ge10⟩ := id (V9)
      refine own_go (fun tz kz => X9.baloadBytes hx (j := (0 : Int32)) (v := (.int p2.toInt8.toInt32)) (by rw [e9]; exact Ar10.1) (State.isArrayOf_alike hZ.alike Ar10.2.1) Ar10.2.2 (own_inb Sz10 (own_nat (i := 0) (by decide)) hj0) (own_at Ge10 (own_nat (i := 0) (by decide)) hj0 hv0) (g := (mkF m 87 #[.val (.int p1), .val (.int p2), .val (.int p3), .val (.int (Int32.ofNat j)), .val (.ref b), .val (.ref sb)] [(.int (0 : Int32)), (.ref b)])) rfl rfl (hb hby at_87) tz kz) ?_
      show own_Go p.tables e below _ T9 (mkF m 88 #[.val (.int p1), .val (.int p2), .val (.int p3), .val (.int (Int32.ofNat j)), .val (.ref b), .val (.ref sb)] [(.int p2.toInt8.toInt32)])
      refine own_go (fun tz kz => XS.iloadN X9.here hx rfl (hb hby at_88) rfl kz) ?_
      show own_Go p.tables e below _ T9 (mkF m 89 #[.val (.int p1), .val (.int p2), .val (.int p3), .val (.int (Int32.ofNat j)), .val (.ref b), .val (.ref sb)] [(.int p2), (.int p2.toInt8.toInt32)])
      refine own_go (fun tz kz => XT.i2b X9.here hx rfl (hb hby at_89) rfl kz) ?_
      show own_Go p.tables e below _ T9 (mkF m 90 #[.val (.int p1), .val (.int p2), .val (.int p3), .val (.int (Int32.ofNat j)), .val (.ref b), .val (.ref sb)] [(.int p2.toInt8.toInt32), (.int p2.toInt8.toInt32)])
      refine own_go (fun tz kz => XS.icmpYes X9.here hx rfl (pc0 := 90) (pc' := 95) rfl (hb hby at_90) rfl (XT.ii_eq_t rfl) (by decide) (by decide) kz) ?_
      show own_Go p.tables e below _ T9 (mkF m 95 #[.val (.int p1), .val (.int p2), .val (.int p3), .val (.int (Int32.ofNat j)), .val (.ref b), .val (.ref sb)] [])
      refine own_go (fun tz kz => XS.iloadN X9.here hx rfl (hb hby at_95) rfl kz) ?_
      show own_Go p.tables e below _ T9 (mkF m 96 #[.val (.int p1), .val (.int p2), .val (.int p3), .val (.int (Int32.ofNat j)), .val (.ref b), .val (.ref sb)] [(.int (Int32.ofNat j))])
      refine own_go (fun tz kz => XS.iconst X9.here hx rfl (hb hby at_96) kz) ?_
      show own_Go p.tables e below _ T9 (mkF m 97 #[.val (.int p1), .val (.int p2), .val (.int p3), .val (.int (Int32.ofNat j)), .val (.ref b), .val (.ref sb)] [(.int (1 : Int32)), (.int (Int32.ofNat j))])
      refine own_go (fun tz kz => XS.icmpNo X9.here hx rfl (hb hby at_97) rfl (XT.ii_le_f h22) kz) ?_
      show own_Go p.tables e below _ T9 (mkF m 100 #[.val (.int p1), .val (.int p2), .val (.int p3), .val (.int (Int32.ofNat j)), .val (.ref b), .val (.ref sb)] [])
      refine own_go (fun tz kz => XS.aload X9.here hx rfl (hb hby at_100) rfl rfl kz) ?_
      show own_Go p.tables e below _ T9 (mkF m 102 #[.val (.int p1), .val (.int p2), .val (.int p3), .val (.int (Int32.ofNat j)), .val (.ref b), .val (.ref sb)] [(.ref sb)])
      obtain ⟨cq11, kq11, q11a, q11b, q11c⟩ := isOf hZ e9 Ex
      obtain ⟨_, _, ⟨T11, L11, k11, n11⟩, -, X11, ⟨Lc11, hQ11, l11, y11, z11⟩, st11⟩ := X9.virtualBack hx (y := (⟨"com/example/scriptwire/scriptwire/script/Slice", "array", "()[B"⟩ : MethodName)) (z := (⟨"com/example/scriptwire/scriptwire/script/Slice", "array", "()[B"⟩ : MethodName)) hown (mvT hZ (hw _ (List.mem_of_getElem? (i := 24) rfl))) (mvT hZ (hw _ (List.mem_of_getElem? (i := 25) rfl))) (notFace_of_selects (args := #[]) (mvT hZ (hw _ (List.mem_of_getElem? (i := 27) rfl)))) (mvT hZ (hw _ (List.mem_of_getElem? (i := 27) rfl))) (mvT hZ (hw _ (List.mem_of_getElem? (i := 26) rfl))) (by decide) (backOf (W := 0) (rm5 l Z a0 hw [] sb b T4.heap n0 (Nat.le_trans (Nat.le_trans (Nat.le_trans (Nat.le_trans Z0 E1.1) (Keep.of_wr W2).1) (Keep.of_wr W3).1) K4.1) Fa) hZ (hw _ (List.mem_of_getElem? (i := 28) rfl)) (hw _ (List.mem_of_getElem? (i := 3) rfl)) (by decide) (by decide)) q11a q11c (g := (mkF m 102 #[.val (.int p1), .val (.int p2), .val (.int p3), .val (.int (Int32.ofNat j)), .val (.ref b), .val (.ref sb)] [(.ref sb)])) rfl (by rw [hml]; rfl) (Steps.refl _) (argsL := []) (rest := []) (lenOf pd_3 rfl) rfl (by show 2 * 0 + _ ≤ _; exact Nat.le_of_eq rfl) (hb hby at_102) (fun _ _ => ⟨rfl, e9, (by decide : 2 + 0 ≤ _), (by decide : 18 + 0 ≤ _)⟩)
      dsimp only [Pt.U, Pt.locs, Pt.cells, Pt.slots] at X11 l11 y11 z11 st11 hQ11
      subst l11 y11 z11
      obtain ⟨rfl, N11q, e11⟩ := hQ11
      have N11 := Fr.app N9 N11q
      refine own_go (fun tz kz => st11.trans kz) ?_
      show own_Go p.tables e below _ T11 (mkF m 105 #[.val (.int p1), .val (.int p2), .val (.int p3), .val (.int (Int32.ofNat j)), .val (.ref b), .val (.ref sb)] [(.ref b)])
      refine own_go (fun tz kz => XS.aload X11.here hx rfl (hb hby at_105) rfl rfl kz) ?_
      show own_Go p.tables e below _ T11 (mkF m 107 #[.val (.int p1), .val (.int p2), .val (.int p3), .val (.int (Int32.ofNat j)), .val (.ref b), .val (.ref sb)] [(.ref sb), (.ref b)])
      obtain ⟨cq12, kq12, q12a, q12b, q12c⟩ := isOf hZ e11 Ex
      obtain ⟨_, _, ⟨T12, L12, k12, n12⟩, -, X12, ⟨Lc12, hQ12, l12, y12, z12⟩, st12⟩ := X11.virtualBack hx (y := (⟨"com/example/scriptwire/scriptwire/script/Slice", "offset", "()I"⟩ : MethodName)) (z := (⟨"com/example/scriptwire/scriptwire/script/Slice", "offset", "()I"⟩ : MethodName)) hown (mvT hZ (hw _ (List.mem_of_getElem? (i := 29) rfl))) (mvT hZ (hw _ (List.mem_of_getElem? (i := 30) rfl))) (notFace_of_selects (args := #[]) (mvT hZ (hw _ (List.mem_of_getElem? (i := 32) rfl)))) (mvT hZ (hw _ (List.mem_of_getElem? (i := 32) rfl))) (mvT hZ (hw _ (List.mem_of_getElem? (i := 31) rfl))) (by decide) (backOf (W := 1) (rm6 l Z a0 hw [] sb (0 : Int32) T4.heap n0 (Nat.le_trans (Nat.le_trans (Nat.le_trans (Nat.le_trans Z0 E1.1) (Keep.of_wr W2).1) (Keep.of_wr W3).1) K4.1) Fo) hZ (hw _ (List.mem_of_getElem? (i := 33) rfl)) (hw _ (List.mem_of_getElem? (i := 3) rfl)) (by decide) (by decide)) q12a q12c (g := (mkF m 107 #[.val (.int p1), .val (.int p2), .val (.int p3), .val (.int (Int32.ofNat j)), .val (.ref b), .val (.ref sb)] [(.ref sb), (.ref b)])) rfl (by rw [hml]; rfl) (Steps.refl _) (argsL := []) (rest := [(.ref b)]) (lenOf pd_4 rfl) rfl (by show 2 * 0 + _ ≤ _; exact Nat.le_of_eq rfl) (hb hby at_107) (fun _ _ => ⟨rfl, e11, (by decide : 2 + 0 ≤ _), (by decide : 18 + 0 ≤ _)⟩)
      dsimp only [Pt.U, Pt.locs, Pt.cells, Pt.slots] at X12 l12 y12 z12 st12 hQ12
      subst l12 y12 z12
      obtain ⟨rfl, N12q, e12⟩ := hQ12
      have N12 := Fr.app N11 N12q
      refine own_go (fun tz kz => st12.trans kz) ?_
      show own_Go p.tables e below _ T12 (mkF m 110 #[.val (.int p1), .val (.int p2), .val (.int p3), .val (.int (Int32.ofNat j)), .val (.ref b), .val (.ref sb)] [(.int (0 : Int32)), (.ref b)])
      refine own_go (fun tz kz => XS.aload X12.here hx rfl (hb hby at_110) rfl rfl kz) ?_
      show own_Go p.tables e below _ T12 (mkF m 112 #[.val (.int p1), .val (.int p2), .val (.int p3), .val (.int (Int32.ofNat j)), .val (.ref b), .val (.ref sb)] [(.ref sb), (.int (0 : Int32)), (.ref b)])
      obtain ⟨cq13, kq13, q13a, q13b, q13c⟩ := isOf hZ e12 Ex
      obtain ⟨_, _, ⟨T13, L13, k13, n13⟩, -, X13, ⟨Lc13, hQ13, l13, y13, z13⟩, st13⟩ := X12.virtualBack hx (y := (⟨"com/example/scriptwire/scriptwire/script/Slice", "length", "()I"⟩ : MethodName)) (z := (⟨"com/example/scriptwire/scriptwire/script/Slice", "length", "()I"⟩ : MethodName)) hown (mvT hZ (hw _ (List.mem_of_getElem? (i := 34) rfl))) (mvT hZ (hw _ (List.mem_of_getElem? (i := 35) rfl))) (notFace_of_selects (args := #[]) (mvT hZ (hw _ (List.mem_of_getElem? (i := 37) rfl)))) (mvT hZ (hw _ (List.mem_of_getElem? (i := 37) rfl))) (mvT hZ (hw _ (List.mem_of_getElem? (i := 36) rfl))) (by decide) (backOf (W := 2) (rm7 l Z a0 hw [] sb (Int32.ofNat j) T4.heap n0 (Nat.le_trans (Nat.le_trans (Nat.le_trans (Nat.le_trans Z0 E1.1) (Keep.of_wr W2).1) (Keep.of_wr W3).1) K4.1) Fl) hZ (hw _ (List.mem_of_getElem? (i := 38) rfl)) (hw _ (List.mem_of_getElem? (i := 3) rfl)) (by decide) (by decide)) q13a q13c (g := (mkF m 112 #[.val (.int p1), .val (.int p2), .val (.int p3), .val (.int (Int32.ofNat j)), .val (.ref b), .val (.ref sb)] [(.ref sb), (.int (0 : Int32)), (.ref b)])) rfl (by rw [hml]; rfl) (Steps.refl _) (argsL := []) (rest := [(.int (0 : Int32)), (.ref b)]) (lenOf pd_4 rfl) rfl (by show 2 * 0 + _ ≤ _; exact Nat.le_of_eq rfl) (hb hby at_112) (fun _ _ => ⟨rfl, e12, (by decide : 2 + 0 ≤ _), (by decide : 18 + 0 ≤ _)⟩)
      dsimp only [Pt.U, Pt.locs, Pt.cells, Pt.slots] at X13 l13 y13 z13 st13 hQ13
      subst l13 y13 z13
      obtain ⟨rfl, N13q, e13⟩ := hQ13
      have N13 := Fr.app N12 N13q
      refine own_go (fun tz kz => st13.trans kz) ?_
      show own_Go p.tables e below _ T13 (mkF m 115 #[.val (.int p1), .val (.int p2), .val (.int p3), .val (.int (Int32.ofNat j)), .val (.ref b), .val (.ref sb)] [(.int (Int32.ofNat j)), (.int (0 : Int32)), (.ref b)])
      refine own_go (fun tz kz => XS.iadd X13.here hx rfl (hb hby at_115) rfl kz) ?_
      show own_Go p.tables e below _ T13 (mkF m 116 #[.val (.int p1), .val (.int p2), .val (.int p3), .val (.int (Int32.ofNat j)), .val (.ref b), .val (.ref sb)] [(.int ((0 : Int32) + (Int32.ofNat j))), (.ref b)])
      refine own_go (fun tz kz => XS.iconst X13.here hx rfl (hb hby at_116) kz) ?_
      show own_Go p.tables e below _ T13 (mkF m 117 #[.val (.int p1), .val (.int p2), .val (.int p3), .val (.int (Int32.ofNat j)), .val (.ref b), .val (.ref sb)] [(.int (1 : Int32)), (.int ((0 : Int32) + (Int32.ofNat j))), (.ref b)])
      refine own_go (fun tz kz => XS.isub X13.here hx rfl (hb hby at_117) rfl kz) ?_
      show own_Go p.tables e below _ T13 (mkF m 118 #[.val (.int p1), .val (.int p2), .val (.int p3), .val (.int (Int32.ofNat j)), .val (.ref b), .val (.ref sb)] [(.int (((0 : Int32) + (Int32.ofNat j)) - (1 : Int32))), (.ref b)])
      rw [show (((0 : Int32) + (Int32.ofNat j)) - (1 : Int32)) = (Int32.ofNat (j - 1)) from (by rw [Int32.zero_add]; exact own_pred hj0 hj')]
      show own_Go p.tables e below _ T13 (mkF m 118 #[.val (.int p1), .val (.int p2), .val (.int p3), .val (.int (Int32.ofNat j)), .val (.ref b), .val (.ref sb)] [(.int (Int32.ofNat (j - 1))), (.ref b)])
      obtain ⟨c14, Ar14, Sz14, Ge14⟩ := id (V9)
      refine own_go (fun tz kz => X13.baloadBytes hx (j := (Int32.ofNat (j - 1))) (v := (.int p3.toInt8.toInt32)) (by rw [e13]; exact Ar14.1) (State.isArrayOf_alike hZ.alike Ar14.2.1) Ar14.2.2 (own_inb Sz14 (own_nat (i := j - 1) (by omega)) (by omega)) (own_at Ge14 (own_nat (i := j - 1) (by omega)) (by omega) hv1) (g := (mkF m 118 #[.val (.int p1), .val (.int p2), .val (.int p3), .val (.int (Int32.ofNat j)), .val (.ref b), .val (.ref sb)] [(.int (Int32.ofNat (j - 1))), (.ref b)])) rfl rfl (hb hby at_118) tz kz) ?_
      show own_Go p.tables e below _ T13 (mkF m 119 #[.val (.int p1), .val (.int p2), .val (.int p3), .val (.int (Int32.ofNat j)), .val (.ref b), .val (.ref sb)] [(.int p3.toInt8.toInt32)])
      refine own_go (fun tz kz => XS.iloadN X13.here hx rfl (hb hby at_119) rfl kz) ?_
      show own_Go p.tables e below _ T13 (mkF m 120 #[.val (.int p1), .val (.int p2), .val (.int p3), .val (.int (Int32.ofNat j)), .val (.ref b), .val (.ref sb)] [(.int p3), (.int p3.toInt8.toInt32)])
      refine own_go (fun tz kz => XT.i2b X13.here hx rfl (hb hby at_120) rfl kz) ?_
      show own_Go p.tables e below _ T13 (mkF m 121 #[.val (.int p1), .val (.int p2), .val (.int p3), .val (.int (Int32.ofNat j)), .val (.ref b), .val (.ref sb)] [(.int p3.toInt8.toInt32), (.int p3.toInt8.toInt32)])
      refine own_go (fun tz kz => XS.icmpYes X13.here hx rfl (pc0 := 121) (pc' := 126) rfl (hb hby at_121) rfl (XT.ii_eq_t rfl) (by decide) (by decide) kz) ?_
      show own_Go p.tables e below _ T13 (mkF m 126 #[.val (.int p1), .val (.int p2), .val (.int p3), .val (.int (Int32.ofNat j)), .val (.ref b), .val (.ref sb)] [])
      refine own_go (fun tz kz => XS.iconst X13.here hx rfl (hb hby at_126) kz) ?_
      show own_Go p.tables e below _ T13 (mkF m 127 #[.val (.int p1), .val (.int p2), .val (.int p3), .val (.int (Int32.ofNat j)), .val (.ref b), .val (.ref sb)] [(.int (1 : Int32))])
      obtain ⟨fs, hr, hrun, hended, hW, hsame⟩ := X13.leave (v := some (.int (1 : Int32))) (fun h => by rw [Bd.returns] at h; cases h)
      refine ⟨_, _, ?_, hrun, hended, _, _, rfl, ?_, ⟨_, rfl⟩, hW, hsame.mono (by decide) (by decide)⟩
      · exact retN X13 hx (t := .boolean) Bd.returns (by simp) (hb hby at_127) hr
      · show Q0 Z p1 p2 p3 h0 n0 _ T13.heap _
        rw [e13]
        exact ⟨rfl, N13⟩
    ·
      refine own_go (fun tz kz => XS.icmpYes X2.here hx rfl (pc0 := 22) (pc' := 33) rfl (hb hby at_22) rfl (XT.ii_le_t h22) (by decide) (by decide) kz) ?_
      show own_Go p.tables e below _ T2 (mkF m 33 #[.val (.int p1), .val (.int p2), .val (.int p3), .val (.int (Int32.ofNat j)), .val (.ref b), .unset] [])
      have hv0 : (fun k => if k = 0 then (Value.int (nar .byte p2.toInt8.toInt32)) else .int 0) 0 = .int p2.toInt8.toInt32 := by show (if 0 = 0 then _ else _) = _; rw [if_pos rfl]; exact congrArg Value.int (own_b8 p2)
      refine own_go (fun tz kz => XS.aload X2.here hx rfl (hb hby at_33) rfl rfl kz) ?_
      show own_Go p.tables e below _ T2 (mkF m 35 #[.val (.int p1), .val (.int p2), .val (.int p3), .val (.int (Int32.ofNat j)), .val (.ref b), .unset] [(.ref b)])
      obtain ⟨sb, eq_sb⟩ : ∃ z, z = (h2).size := ⟨_, rfl⟩
      obtain ⟨_, _, ⟨T15, L15, k15, n15⟩, -, X15, ⟨Lc15, hQ15, l15, y15, z15⟩, st15⟩ := Jvm.LawKit.callS X2 hx (y := (⟨"com/example/scriptwire/scriptwire/script/Slice", "of", "([B)Lcom/example/scriptwire/scriptwire/script/Slice;"⟩ : MethodName)) hown (mvT hZ (hw _ (List.mem_of_getElem? (i := 1) rfl))) (mvT hZ (hw _ (List.mem_of_getElem? (i := 2) rfl))) (mvT hZ (hw _ (List.mem_of_getElem? (i := 3) rfl))) (mvT hZ (hw _ (List.mem_of_getElem? (i := 4) rfl))) (by decide) (backOf (W := 0) (rm1 l Z a0 hw [] b j _ sb h2 n0 (Nat.le_trans (Nat.le_trans Z0 E1.1) (Keep.of_wr W2).1) (V1) eq_sb) hZ (hw _ (List.mem_of_getElem? (i := 4) rfl)) (hw _ (List.mem_of_getElem? (i := 3) rfl)) (by decide) (by decide)) (g := (mkF m 35 #[.val (.int p1), .val (.int p2), .val (.int p3), .val (.int (Int32.ofNat j)), .val (.ref b), .unset] [(.ref b)])) rfl (by rw [hml]; rfl) (argsL := [(.ref b)]) (rest := []) (lenOf pd_2 rfl) rfl (by show 2 * 0 + _ ≤ _; exact Nat.le_of_eq rfl) (hb hby at_35) (fun _ _ => ⟨rfl, e2, (by decide : 1 + 1 ≤ _), (by decide : 15 + 3 ≤ _)⟩)
      dsimp only [Pt.U, Pt.locs, Pt.cells, Pt.slots] at X15 l15 y15 z15 st15 hQ15
      subst l15 y15 z15
      obtain ⟨rfl, N15q, K15, Ex, Fa, Fo, Fl⟩ := hQ15
      have N15 := Fr.app N2 N15q
      refine own_go (fun tz kz => st15 tz kz) ?_
      show own_Go p.tables e below _ T15 (mkF m 38 #[.val (.int p1), .val (.int p2), .val (.int p3), .val (.int (Int32.ofNat j)), .val (.ref b), .unset] [(.ref sb)])
      have V9 := own_Av.keep (V1) K15 (fun q => nomatch q)
      refine own_go (fun tz kz => XS.astore X15.here hx rfl (hb hby at_38) rfl rfl (l' := #[.val (.int p1), .val (.int p2), .val (.int p3), .val (.int (Int32.ofNat j)), .val (.ref b), .val (.ref sb)]) rfl kz) ?_
      show own_Go p.tables e below _ T15 (mkF m 40 #[.val (.int p1), .val (.int p2), .val (.int p3), .val (.int (Int32.ofNat j)), .val (.ref b), .val (.ref sb)] [])
      refine own_go (fun tz kz => XS.aload X15.here hx rfl (hb hby at_40) rfl rfl kz) ?_
      show own_Go p.tables e below _ T15 (mkF m 42 #[.val (.int p1), .val (.int p2), .val (.int p3), .val (.int (Int32.ofNat j)), .val (.ref b), .val (.ref sb)] [(.ref sb)])
      obtain ⟨cq16, kq16, q16a, q16b, q16c⟩ := isOf hZ rfl Ex
      obtain ⟨_, _, ⟨T16, L16, k16, n16⟩, -, X16, ⟨Lc16, hQ16, l16, y16, z16⟩, st16⟩ := X15.virtualBack hx (y := (⟨"com/example/scriptwire/scriptwire/script/Slice", "array", "()[B"⟩ : MethodName)) (z := (⟨"com/example/scriptwire/scriptwire/script/Slice", "array", "()[B"⟩ : MethodName)) hown (mvT hZ (hw _ (List.mem_of_getElem? (i := 24) rfl))) (mvT hZ (hw _ (List.mem_of_getElem? (i := 25) rfl))) (notFace_of_selects (args := #[]) (mvT hZ (hw _ (List.mem_of_getElem? (i := 27) rfl)))) (mvT hZ (hw _ (List.mem_of_getElem? (i := 27) rfl))) (mvT hZ (hw _ (List.mem_of_getElem? (i := 26) rfl))) (by decide) (backOf (W := 0) (rm5 l Z a0 hw [] sb b T15.heap n0 (Nat.le_trans (Nat.le_trans (Nat.le_trans Z0 E1.1) (Keep.of_wr W2).1) K15.1) Fa) hZ (hw _ (List.mem_of_getElem? (i := 28) rfl)) (hw _ (List.mem_of_getElem? (i := 3) rfl)) (by decide) (by decide)) q16a q16c (g := (mkF m 42 #[.val (.int p1), .val (.int p2), .val (.int p3), .val (.int (Int32.ofNat j)), .val (.ref b), .val (.ref sb)] [(.ref sb)])) rfl (by rw [hml]; rfl) (Steps.refl _) (argsL := []) (rest := []) (lenOf pd_3 rfl) rfl (by show 2 * 0 + _ ≤ _; exact Nat.le_of_eq rfl) (hb hby at_42) (fun _ _ => ⟨rfl, rfl, (by decide : 2 + 0 ≤ _), (by decide : 18 + 0 ≤ _)⟩)
      dsimp only [Pt.U, Pt.locs, Pt.cells, Pt.slots] at X16 l16 y16 z16 st16 hQ16
      subst l16 y16 z16
      obtain ⟨rfl, N16q, e16⟩ := hQ16
      have N16 := Fr.app N15 N16q
      refine own_go (fun tz kz => st16.trans kz) ?_
      show own_Go p.tables e below _ T16 (mkF m 45 #[.val (.int p1), .val (.int p2), .val (.int p3), .val (.int (Int32.ofNat j)), .val (.ref b), .val (.ref sb)] [(.ref b)])
      refine own_go (fun tz kz => XS.aload X16.here hx rfl (hb hby at_45) rfl rfl kz) ?_
      show own_Go p.tables e below _ T16 (mkF m 47 #[.val (.int p1), .val (.int p2), .val (.int p3), .val (.int (Int32.ofNat j)), .val (.ref b), .val (.ref sb)] [(.ref b), (.ref b)])
      refine own_go (fun tz kz => XT.acmpYes X16.here hx rfl (pc0 := 47) (pc' := 52) rfl (hb hby at_47) rfl rfl rfl (XT.aa_eq_t rfl) (by decide) (by decide) kz) ?_
      show own_Go p.tables e below _ T16 (mkF m 52 #[.val (.int p1), .val (.int p2), .val (.int p3), .val (.int (Int32.ofNat j)), .val (.ref b), .val (.ref sb)] [])
      refine own_go (fun tz kz => XS.aload X16.here hx rfl (hb hby at_52) rfl rfl kz) ?_
      show own_Go p.tables e below _ T16 (mkF m 54 #[.val (.int p1), .val (.int p2), .val (.int p3), .val (.int (Int32.ofNat j)), .val (.ref b), .val (.ref sb)] [(.ref sb)])
      obtain ⟨cq17, kq17, q17a, q17b, q17c⟩ := isOf hZ e16 Ex
      obtain ⟨_, _, ⟨T17, L17, k17, n17⟩, -, X17, ⟨Lc17, hQ17, l17, y17, z17⟩, st17⟩ := X16.virtualBack hx (y := (⟨"com/example/scriptwire/scriptwire/script/Slice", "offset", "()I"⟩ : MethodName)) (z := (⟨"com/example/scriptwire/scriptwire/script/Slice", "offset", "()I"⟩ : MethodName)) hown (mvT hZ (hw _ (List.mem_of_getElem? (i := 29) rfl))) (mvT hZ (hw _ (List.mem_of_getElem? (i := 30) rfl))) (notFace_of_selects (args := #[]) (mvT hZ (hw _ (List.mem_of_getElem? (i := 32) rfl)))) (mvT hZ (hw _ (List.mem_of_getElem? (i := 32) rfl))) (mvT hZ (hw _ (List.mem_of_getElem? (i := 31) rfl))) (by decide) (backOf (W := 0) (rm6 l Z a0 hw [] sb (0 : Int32) T15.heap n0 (Nat.le_trans (Nat.le_trans (Nat.le_trans Z0 E1.1) (Keep.of_wr W2).1) K15.1) Fo) hZ (hw _ (List.mem_of_getElem? (i := 33) rfl)) (hw _ (List.mem_of_getElem? (i := 3) rfl)) (by decide) (by decide)) q17a q17c (g := (mkF m 54 #[.val (.int p1), .val (.int p2), .val (.int p3), .val (.int (Int32.ofNat j)), .val (.ref b), .val (.ref sb)] [(.ref sb)])) rfl (by rw [hml]; rfl) (Steps.refl _) (argsL := []) (rest := []) (lenOf pd_4 rfl) rfl (by show 2 * 0 + _ ≤ _; exact Nat.le_of_eq rfl) (hb hby at_54) (fun _ _ => ⟨rfl, e16, (by decide : 2 + 0 ≤ _), (by decide : 18 + 0 ≤ _)⟩)
      dsimp only [Pt.U, Pt.locs, Pt.cells, Pt.slots] at X17 l17 y17 z17 st17 hQ17
      subst l17 y17 z17
      obtain ⟨rfl, N17q, e17⟩ := hQ17
      have N17 := Fr.app N16 N17q
      refine own_go (fun tz kz => st17.trans kz) ?_
      show own_Go p.tables e below _ T17 (mkF m 57 #[.val (.int p1), .val (.int p2), .val (.int p3), .val (.int (Int32.ofNat j)), .val (.ref b), .val (.ref sb)] [(.int (0 : Int32))])
      refine own_go (fun tz kz => XS.ifYes X17.here hx rfl (pc0 := 57) (pc' := 62) rfl (hb hby at_57) rfl (XT.i0_eq_t rfl) (by decide) (by decide) kz) ?_
      show own_Go p.tables e below _ T17 (mkF m 62 #[.val (.int p1), .val (.int p2), .val (.int p3), .val (.int (Int32.ofNat j)), .val (.ref b), .val (.ref sb)] [])
      refine own_go (fun tz kz => XS.aload X17.here hx rfl (hb hby at_62) rfl rfl kz) ?_
      show own_Go p.tables e below _ T17 (mkF m 64 #[.val (.int p1), .val (.int p2), .val (.int p3), .val (.int (Int32.ofNat j)), .val (.ref b), .val (.ref sb)] [(.ref sb)])
      obtain ⟨cq18, kq18, q18a, q18b, q18c⟩ := isOf hZ e17 Ex
      obtain ⟨_, _, ⟨T18, L18, k18, n18⟩, -, X18, ⟨Lc18, hQ18, l18, y18, z18⟩, st18⟩ := X17.virtualBack hx (y := (⟨"com/example/scriptwire/scriptwire/script/Slice", "length", "()I"⟩ : MethodName)) (z := (⟨"com/example/scriptwire/scriptwire/script/Slice", "length", "()I"⟩ : MethodName)) hown (mvT hZ (hw _ (List.mem_of_getElem? (i := 34) rfl))) (mvT hZ (hw _ (List.mem_of_getElem? (i := 35) rfl))) (notFace_of_selects (args := #[]) (mvT hZ (hw _ (List.mem_of_getElem? (i := 37) rfl)))) (mvT hZ (hw _ (List.mem_of_getElem? (i := 37) rfl))) (mvT hZ (hw _ (List.mem_of_getElem? (i := 36) rfl))) (by decide) (backOf (W := 0) (rm7 l Z a0 hw [] sb (Int32.ofNat j) T15.heap n0 (Nat.le_trans (Nat.le_trans (Nat.le_trans Z0 E1.1) (Keep.of_wr W2).1) K15.1) Fl) hZ (hw _ (List.mem_of_getElem? (i := 38) rfl)) (hw _ (List.mem_of_getElem? (i := 3) rfl)) (by decide) (by decide)) q18a q18c (g := (mkF m 64 #[.val (.int p1), .val (.int p2), .val (.int p3), .val (.int (Int32.ofNat j)), .val (.ref b), .val (.ref sb)] [(.ref sb)])) rfl (by rw [hml]; rfl) (Steps.refl _) (argsL := []) (rest := []) (lenOf pd_4 rfl) rfl (by show 2 * 0 + _ ≤ _; exact Nat.le_of_eq rfl) (hb hby at_64) (fun _ _ => ⟨rfl, e17, (by decide : 2 + 0 ≤ _), (by decide : 18 + 0 ≤ _)⟩)
      dsimp only [Pt.U, Pt.locs, Pt.cells, Pt.slots] at X18 l18 y18 z18 st18 hQ18
      subst l18 y18 z18
      obtain ⟨rfl, N18q, e18⟩ := hQ18
      have N18 := Fr.app N17 N18q
      refine own_go (fun tz kz => st18.trans kz) ?_
      show own_Go p.tables e below _ T18 (mkF m 67 #[.val (.int p1), .val (.int p2), .val (.int p3), .val (.int (Int32.ofNat j)), .val (.ref b), .val (.ref sb)] [(.int (Int32.ofNat j))])
      refine own_go (fun tz kz => XS.iloadN X18.here hx rfl (hb hby at_67) rfl kz) ?_
      show own_Go p.tables e below _ T18 (mkF m 68 #[.val (.int p1), .val (.int p2), .val (.int p3), .val (.int (Int32.ofNat j)), .val (.ref b), .val (.ref sb)] [(.int (Int32.ofNat j)), (.int (Int32.ofNat j))])
      refine own_go (fun tz kz => XS.icmpYes X18.here hx rfl (pc0 := 68) (pc' := 73) rfl (hb hby at_68) rfl (XT.ii_eq_t rfl) (by decide) (by decide) kz) ?_
      show own_Go p.tables e below _ T18 (mkF m 73 #[.val (.int p1), .val (.int p2), .val (.int p3), .val (.int (Int32.ofNat j)), .val (.ref b), .val (.ref sb)] [])
      refine own_go (fun tz kz => XS.iloadN X18.here hx rfl (hb hby at_73) rfl kz) ?_
      show own_Go p.tables e below _ T18 (mkF m 74 #[.val (.int p1), .val (.int p2), .val (.int p3), .val (.int (Int32.ofNat j)), .val (.ref b), .val (.ref sb)] [(.int (Int32.ofNat j))])
      refine own_go (fun tz kz => XS.ifNo X18.here hx rfl (hb hby at_74) rfl (XT.i0_le_f h11) kz) ?_
      show own_Go p.tables e below _ T18 (mkF m 77 #[.val (.int p1), .val (.int p2), .val (.int p3), .val (.int (Int32.ofNat j)), .val (.ref b), .val (.ref sb)] [])
      refine own_go (fun tz kz => XS.aload X18.here hx rfl (hb hby at_77) rfl rfl kz) ?_
      show own_Go p.tables e below _ T18 (mkF m 79 #[.val (.int p1), .val (.int p2), .val (.int p3), .val (.int (Int32.ofNat j)), .val (.ref b), .val (.ref sb)] [(.ref sb)])
      obtain ⟨cq19, kq19, q19a, q19b, q19c⟩ := isOf hZ e18 Ex
      obtain ⟨_, _, ⟨T19, L19, k19, n19⟩, -, X19, ⟨Lc19, hQ19, l19, y19, z19⟩, st19⟩ := X18.virtualBack hx (y := (⟨"com/example/scriptwire/scriptwire/script/Slice", "array", "()[B"⟩ : MethodName)) (z := (⟨"com/example/scriptwire/scriptwire/script/Slice", "array", "()[B"⟩ : MethodName)) hown (mvT hZ (hw _ (List.mem_of_getElem? (i := 24) rfl))) (mvT hZ (hw _ (List.mem_of_getElem? (i := 25) rfl))) (notFace_of_selects (args := #[]) (mvT hZ (hw _ (List.mem_of_getElem? (i := 27) rfl)))) (mvT hZ (hw _ (List.mem_of_getElem? (i := 27) rfl))) (mvT hZ (hw _ (List.mem_of_getElem? (i := 26) rfl))) (by decide) (backOf (W := 0) (rm5 l Z a0 hw [] sb b T15.heap n0 (Nat.le_trans (Nat.le_trans (Nat.le_trans Z0 E1.1) (Keep.of_wr W2).1) K15.1) Fa) hZ (hw _ (List.mem_of_getElem? (i := 28) rfl)) (hw _ (List.mem_of_getElem? (i := 3) rfl)) (by decide) (by decide)) q19a q19c (g := (mkF m 79 #[.val (.int p1), .val (.int p2), .val (.int p3), .val (.int (Int32.ofNat j)), .val (.ref b), .val (.ref sb)] [(.ref sb)])) rfl (by rw [hml]; rfl) (Steps.refl _) (argsL := []) (rest := []) (lenOf pd_3 rfl) rfl (by show 2 * 0 + _ ≤ _; exact Nat.le_of_eq rfl) (hb hby at_79) (fun _ _ => ⟨rfl, e18, (by decide : 2 + 0 ≤ _), (by decide : 18 + 0 ≤ _)⟩)
      dsimp only [Pt.U, Pt.locs, Pt.cells, Pt.slots] at X19 l19 y19 z19 st19 hQ19
      subst l19 y19 z19
      obtain ⟨rfl, N19q, e19⟩ := hQ19
      have N19 := Fr.app N18 N19q
      refine own_go (fun tz kz => st19.trans kz) ?_
      show own_Go p.tables e below _ T19 (mkF m 82 #[.val (.int p1), .val (.int p2), .val (.int p3), .val (.int (Int32.ofNat j)), .val (.ref b), .val (.ref sb)] [(.ref b)])
      refine own_go (fun tz kz => XS.aload X19.here hx rfl (hb hby at_82) rfl rfl kz) ?_
      show own_Go p.tables e below _ T19 (mkF m 84 #[.val (.int p1), .val (.int p2), .val (.int p3), .val (.int (Int32.ofNat j)), .val (.ref b), .val (.ref sb)] [(.ref sb), (.ref b)])
      obtain ⟨cq20, kq20, q20a, q20b, q20c⟩ := isOf hZ e19 Ex
      obtain ⟨_, _, ⟨T20, L20, k20, n20⟩, -, X20, ⟨Lc20, hQ20, l20, y20, z20⟩, st20⟩ := X19.virtualBack hx (y := (⟨"com/example/scriptwire/scriptwire/script/Slice", "offset", "()I"⟩ : MethodName)) (z := (⟨"com/example/scriptwire/scriptwire/script/Slice", "offset", "()I"⟩ : MethodName)) hown (mvT hZ (hw _ (List.mem_of_getElem? (i := 29) rfl))) (mvT hZ (hw _ (List.mem_of_getElem? (i := 30) rfl))) (notFace_of_selects (args := #[]) (mvT hZ (hw _ (List.mem_of_getElem? (i := 32) rfl)))) (mvT hZ (hw _ (List.mem_of_getElem? (i := 32) rfl))) (mvT hZ (hw _ (List.mem_of_getElem? (i := 31) rfl))) (by decide) (backOf (W := 1) (rm6 l Z a0 hw [] sb (0 : Int32) T15.heap n0 (Nat.le_trans (Nat.le_trans (Nat.le_trans Z0 E1.1) (Keep.of_wr W2).1) K15.1) Fo) hZ (hw _ (List.mem_of_getElem? (i := 33) rfl)) (hw _ (List.mem_of_getElem? (i := 3) rfl)) (by decide) (by decide)) q20a q20c (g := (mkF m 84 #[.val (.int p1), .val (.int p2), .val (.int p3), .val (.int (Int32.ofNat j)), .val (.ref b), .val (.ref sb)] [(.ref sb), (.ref b)])) rfl (by rw [hml]; rfl) (Steps.refl _) (argsL := []) (rest := [(.ref b)]) (lenOf pd_4 rfl) rfl (by show 2 * 0 + _ ≤ _; exact Nat.le_of_eq rfl) (hb hby at_84) (fun _ _ => ⟨rfl, e19, (by decide : 2 + 0 ≤ _), (by decide : 18 + 0 ≤ _)⟩)
      dsimp only [Pt.U, Pt.locs, Pt.cells, Pt.slots] at X20 l20 y20 z20 st20 hQ20
      subst l20 y20 z20
      obtain ⟨rfl, N20q, e20⟩ := hQ20
      have N20 := Fr.app N19 N20q
      refine own_go (fun tz kz => st20.trans kz) ?_
      show own_Go p.tables e below _ T20 (mkF m 87 #[.val (.int p1), .val (.int p2), .val (.int p3), .val (.int (Int32.ofNat j)), .val (.ref b), .val (.ref sb)] [(.int (0 : Int32)), (.ref b)])
      obtain ⟨c21, Ar21, Sz21, Ge21⟩ := id (V9)
      refine own_go (fun tz kz => X20.baloadBytes hx (j := (0 : Int32)) (v := (.int p2.toInt8.toInt32)) (by rw [e20]; exact Ar21.1) (State.isArrayOf_alike hZ.alike Ar21.2.1) Ar21.2.2 (own_inb Sz21 (own_nat (i := 0) (by decide)) hj0) (own_at Ge21 (own_nat (i := 0) (by decide)) hj0 hv0) (g := (mkF m 87 #[.val (.int p1), .val (.int p2), .val (.int p3), .val (.int (Int32.ofNat j)), .val (.ref b), .val (.ref sb)] [(.int (0 : Int32)), (.ref b)])) rfl rfl (hb hby at_87) tz kz) ?_
      show own_Go p.tables e below _ T20 (mkF m 88 #[.val (.int p1), .val (.int p2), .val (.int p3), .val (.int (Int32.ofNat j)), .val (.ref b), .val (.ref sb)] [(.int p2.toInt8.toInt32)])
      refine own_go (fun tz kz => XS.iloadN X20.here hx rfl (hb hby at_88) rfl kz) ?_
      show own_Go p.tables e below _ T20 (mkF m 89 #[.val (.int p1), .val (.int p2), .val (.int p3), .val (.int (Int32.ofNat j)), .val (.ref b), .val (.ref sb)] [(.int p2), (.int p2.toInt8.toInt32)])
      refine own_go (fun tz kz => XT.i2b X20.here hx rfl (hb hby at_89) rfl kz) ?_
      show own_Go p.tables e below _ T20 (mkF m 90 #[.val (.int p1), .val (.int p2), .val (.int p3), .val (.int (Int32.ofNat j)), .val (.ref b), .val (.ref sb)] [(.int p2.toInt8.toInt32), (.int p2.toInt8.toInt32)])
      refine own_go (fun tz kz => XS.icmpYes X20.here hx rfl (pc0 := 90) (pc' := 95) rfl (hb hby at_90) rfl (XT.ii_eq_t rfl) (by decide) (by decide) kz) ?_
      show own_Go p.tables e below _ T20 (mkF m 95 #[.val (.int p1), .val (.int p2), .val (.int p3), .val (.int (Int32.ofNat j)), .val (.ref b), .val (.ref sb)] [])
      refine own_go (fun tz kz => XS.iloadN X20.here hx rfl (hb hby at_95) rfl kz) ?_
      show own_Go p.tables e below _ T20 (mkF m 96 #[.val (.int p1), .val (.int p2), .val (.int p3), .val (.int (Int32.ofNat j)), .val (.ref b), .val (.ref sb)] [(.int (Int32.ofNat j))])
      refine own_go (fun tz kz => XS.iconst X20.here hx rfl (hb hby at_96) kz) ?_
      show own_Go p.tables e below _ T20 (mkF m 97 #[.val (.int p1), .val (.int p2), .val (.int p3), .val (.int (Int32.ofNat j)), .val (.ref b), .val (.ref sb)] [(.int (1 : Int32)), (.int (Int32.ofNat j))])
      refine own_go (fun tz kz => XS.icmpYes X20.here hx rfl (pc0 := 97) (pc' := 126) rfl (hb hby at_97) rfl (XT.ii_le_t h22) (by decide) (by decide) kz) ?_
      show own_Go p.tables e below _ T20 (mkF m 126 #[.val (.int p1), .val (.int p2), .val (.int p3), .val (.int (Int32.ofNat j)), .val (.ref b), .val (.ref sb)] [])
      refine own_go (fun tz kz => XS.iconst X20.here hx rfl (hb hby at_126) kz) ?_
      show own_Go p.tables e below _ T20 (mkF m 127 #[.val (.int p1), .val (.int p2), .val (.int p3), .val (.int (Int32.ofNat j)), .val (.ref b), .val (.ref sb)] [(.int (1 : Int32))])
      obtain ⟨fs, hr, hrun, hended, hW, hsame⟩ := X20.leave (v := some (.int (1 : Int32))) (fun h => by rw [Bd.returns] at h; cases h)
      refine ⟨_, _, ?_, hrun, hended, _, _, rfl, ?_, ⟨_, rfl⟩, hW, hsame.mono (by decide) (by decide)⟩
      · exact retN X20 hx (t := .boolean) Bd.returns (by simp) (hb hby at_127) hr
      · show Q0 Z p1 p2 p3 h0 n0 _ T20.heap _
        rw [e20]
        exact ⟨rfl, N20⟩
  ·
    refine own_go (fun tz kz => XS.ifYes X1.here hx rfl (pc0 := 11) (pc' := 20) rfl (hb hby at_11) rfl (XT.i0_le_t h11) (by decide) (by decide) kz) ?_
    show own_Go p.tables e below _ T1 (mkF m 20 #[.val (.int p1), .val (.int p2), .val (.int p3), .val (.int (Int32.ofNat j)), .val (.ref b), .unset] [])
    refine own_go (fun tz kz => XS.iloadN X1.here hx rfl (hb hby at_20) rfl kz) ?_
    show own_Go p.tables e below _ T1 (mkF m 21 #[.val (.int p1), .val (.int p2), .val (.int p3), .val (.int (Int32.ofNat j)), .val (.ref b), .unset] [(.int (Int32.ofNat j))])
    refine own_go (fun tz kz => XS.iconst X1.here hx rfl (hb hby at_21) kz) ?_
    show own_Go p.tables e below _ T1 (mkF m 22 #[.val (.int p1), .val (.int p2), .val (.int p3), .val (.int (Int32.ofNat j)), .val (.ref b), .unset] [(.int (1 : Int32)), (.int (Int32.ofNat j))])
    have h22 : ¬ (1 : Int32) < (Int32.ofNat j) := fun q => h11 ((own_ltn (i := 0) (by decide) hj').mpr (Nat.lt_trans Nat.zero_lt_one ((own_ltn (i := 1) (by decide) hj').mp q)))
    refine own_go (fun tz kz => XS.icmpYes X1.here hx rfl (pc0 := 22) (pc' := 33) rfl (hb hby at_22) rfl (XT.ii_le_t h22) (by decide) (by decide) kz) ?_
    show own_Go p.tables e below _ T1 (mkF m 33 #[.val (.int p1), .val (.int p2), .val (.int p3), .val (.int (Int32.ofNat j)), .val (.ref b), .unset] [])
    refine own_go (fun tz kz => XS.aload X1.here hx rfl (hb hby at_33) rfl rfl kz) ?_
    show own_Go p.tables e below _ T1 (mkF m 35 #[.val (.int p1), .val (.int p2), .val (.int p3), .val (.int (Int32.ofNat j)), .val (.ref b), .unset] [(.ref b)])
    obtain ⟨sb, eq_sb⟩ : ∃ z, z = (h1).size := ⟨_, rfl⟩
    obtain ⟨_, _, ⟨T22, L22, k22, n22⟩, -, X22, ⟨Lc22, hQ22, l22, y22, z22⟩, st22⟩ := Jvm.LawKit.callS X1 hx (y := (⟨"com/example/scriptwire/scriptwire/script/Slice", "of", "([B)Lcom/example/scriptwire/scriptwire/script/Slice;"⟩ : MethodName)) hown (mvT hZ (hw _ (List.mem_of_getElem? (i := 1) rfl))) (mvT hZ (hw _ (List.mem_of_getElem? (i := 2) rfl))) (mvT hZ (hw _ (List.mem_of_getElem? (i := 3) rfl))) (mvT hZ (hw _ (List.mem_of_getElem? (i := 4) rfl))) (by decide) (backOf (W := 0) (rm1 l Z a0 hw [] b j _ sb h1 n0 (Nat.le_trans Z0 E1.1) (V_b) eq_sb) hZ (hw _ (List.mem_of_getElem? (i := 4) rfl)) (hw _ (List.mem_of_getElem? (i := 3) rfl)) (by decide) (by decide)) (g := (mkF m 35 #[.val (.int p1), .val (.int p2), .val (.int p3), .val (.int (Int32.ofNat j)), .val (.ref b), .unset] [(.ref b)])) rfl (by rw [hml]; rfl) (argsL := [(.ref b)]) (rest := []) (lenOf pd_2 rfl) rfl (by show 2 * 0 + _ ≤ _; exact Nat.le_of_eq rfl) (hb hby at_35) (fun _ _ => ⟨rfl, e1, (by decide : 1 + 1 ≤ _), (by decide : 15 + 3 ≤ _)⟩)
    dsimp only [Pt.U, Pt.locs, Pt.cells, Pt.slots] at X22 l22 y22 z22 st22 hQ22
    subst l22 y22 z22
    obtain ⟨rfl, N22q, K22, Ex, Fa, Fo, Fl⟩ := hQ22
    have N22 := Fr.app N0 N22q
    refine own_go (fun tz kz => st22 tz kz) ?_
    show own_Go p.tables e below _ T22 (mkF m 38 #[.val (.int p1), .val (.int p2), .val (.int p3), .val (.int (Int32.ofNat j)), .val (.ref b), .unset] [(.ref sb)])
    have V9 := own_Av.keep (V_b) K22 (fun q => nomatch q)
    refine own_go (fun tz kz => XS.astore X22.here hx rfl (hb hby at_38) rfl rfl (l' := #[.val (.int p1), .val (.int p2), .val (.int p3), .val (.int (Int32.ofNat j)), .val (.ref b), .val (.ref sb)]) rfl kz) ?_
    show own_Go p.tables e below _ T22 (mkF m 40 #[.val (.int p1), .val (.int p2), .val (.int p3), .val (.int (Int32.ofNat j)), .val (.ref b), .val (.ref sb)] [])
    refine own_go (fun tz kz => XS.aload X22.here hx rfl (hb hby at_40) rfl rfl kz) ?_
    show own_Go p.tables e below _ T22 (mkF m 42 #[.val (.int p1), .val (.int p2), .val (.int p3), .val (.int (Int32.ofNat j)), .val (.ref b), .val (.ref sb)] [(.ref sb)])
    obtain ⟨cq23, kq23, q23a, q23b, q23c⟩ := isOf hZ rfl Ex
    obtain ⟨_, _, ⟨T23, L23, k23, n23⟩, -, X23, ⟨Lc23, hQ23, l23, y23, z23⟩, st23⟩ := X22.virtualBack hx (y := (⟨"com/example/scriptwire/scriptwire/script/Slice", "array", "()[B"⟩ : MethodName)) (z := (⟨"com/example/scriptwire/scriptwire/script/Slice", "array", "()[B"⟩ : MethodName)) hown (mvT hZ (hw _ (List.mem_of_getElem? (i := 24) rfl))) (mvT hZ (hw _ (List.mem_of_getElem? (i := 25) rfl))) (notFace_of_selects (args := #[]) (mvT hZ (hw _ (List.mem_of_getElem? (i := 27) rfl)))) (mvT hZ (hw _ (List.mem_of_getElem? (i := 27) rfl))) (mvT hZ (hw _ (List.mem_of_getElem? (i := 26) rfl))) (by decide) (backOf (W := 0) (rm5 l Z a0 hw [] sb b T22.heap n0 (Nat.le_trans (Nat.le_trans Z0 E1.1) K22.1) Fa) hZ (hw _ (List.mem_of_getElem? (i := 28) rfl)) (hw _ (List.mem_of_getElem? (i := 3) rfl)) (by decide) (by decide)) q23a q23c (g := (mkF m 42 #[.val (.int p1), .val (.int p2), .val (.int p3), .val (.int (Int32.ofNat j)), .val (.ref b), .val (.ref sb)] [(.ref sb)])) rfl (by rw [hml]; rfl) (Steps.refl _) (argsL := []) (rest := []) (lenOf pd_3 rfl) rfl (by show 2 * 0 + _ ≤ _; exact Nat.le_of_eq rfl) (hb hby at_42) (fun _ _ => ⟨rfl, rfl, (by decide : 2 + 0 ≤ _), (by decide : 18 + 0 ≤ _)⟩)
    dsimp only [Pt.U, Pt.locs, Pt.cells, Pt.slots] at X23 l23 y23 z23 st23 hQ23
    subst l23 y23 z23
    obtain ⟨rfl, N23q, e23⟩ := hQ23
    have N23 := Fr.app N22 N23q
    refine own_go (fun tz kz => st23.trans kz) ?_
    show own_Go p.tables e below _ T23 (mkF m 45 #[.val (.int p1), .val (.int p2), .val (.int p3), .val (.int (Int32.ofNat j)), .val (.ref b), .val (.ref sb)] [(.ref b)])
    refine own_go (fun tz kz => XS.aload X23.here hx rfl (hb hby at_45) rfl rfl kz) ?_
    show own_Go p.tables e below _ T23 (mkF m 47 #[.val (.int p1), .val (.int p2), .val (.int p3), .val (.int (Int32.ofNat j)), .val (.ref b), .val (.ref sb)] [(.ref b), (.ref b)])
    refine own_go (fun tz kz => XT.acmpYes X23.here hx rfl (pc0 := 47) (pc' := 52) rfl (hb hby at_47) rfl rfl rfl (XT.aa_eq_t rfl) (by decide) (by decide) kz) ?_
    show own_Go p.tables e below _ T23 (mkF m 52 #[.val (.int p1), .val (.int p2), .val (.int p3), .val (.int (Int32.ofNat j)), .val (.ref b), .val (.ref sb)] [])
    refine own_go (fun tz kz => XS.aload X23.here hx rfl (hb hby at_52) rfl rfl kz) ?_
    show own_Go p.tables e below _ T23 (mkF m 54 #[.val (.int p1), .val (.int p2), .val (.int p3), .val (.int (Int32.ofNat j)), .val (.ref b), .val (.ref sb)] [(.ref sb)])
    obtain ⟨cq24, kq24, q24a, q24b, q24c⟩ := isOf hZ e23 Ex
    obtain ⟨_, _, ⟨T24, L24, k24, n24⟩, -, X24, ⟨Lc24, hQ24, l24, y24, z24⟩, st24⟩ := X23.virtualBack hx (y := (⟨"com/example/scriptwire/scriptwire/script/Slice", "offset", "()I"⟩ : MethodName)) (z := (⟨"com/example/scriptwire/scriptwire/script/Slice", "offset", "()I"⟩ : MethodName)) hown (mvT hZ (hw _ (List.mem_of_getElem? (i := 29) rfl))) (mvT hZ (hw _ (List.mem_of_getElem? (i := 30) rfl))) (notFace_of_selects (args := #[]) (mvT hZ (hw _ (List.mem_of_getElem? (i := 32) rfl)))) (mvT hZ (hw _ (List.mem_of_getElem? (i := 32) rfl))) (mvT hZ (hw _ (List.mem_of_getElem? (i := 31) rfl))) (by decide) (backOf (W := 0) (rm6 l Z a0 hw [] sb (0 : Int32) T22.heap n0 (Nat.le_trans (Nat.le_trans Z0 E1.1) K22.1) Fo) hZ (hw _ (List.mem_of_getElem? (i := 33) rfl)) (hw _ (List.mem_of_getElem? (i := 3) rfl)) (by decide) (by decide)) q24a q24c (g := (mkF m 54 #[.val (.int p1), .val (.int p2), .val (.int p3), .val (.int (Int32.ofNat j)), .val (.ref b), .val (.ref sb)] [(.ref sb)])) rfl (by rw [hml]; rfl) (Steps.refl _) (argsL := []) (rest := []) (lenOf pd_4 rfl) rfl (by show 2 * 0 + _ ≤ _; exact Nat.le_of_eq rfl) (hb hby at_54) (fun _ _ => ⟨rfl, e23, (by decide : 2 + 0 ≤ _), (by decide : 18 + 0 ≤ _)⟩)
    dsimp only [Pt.U, Pt.locs, Pt.cells, Pt.slots] at X24 l24 y24 z24 st24 hQ24
    subst l24 y24 z24
    obtain ⟨rfl, N24q, e24⟩ := hQ24
    have N24 := Fr.app N23 N24q
    refine own_go (fun tz kz => st24.trans kz) ?_
    show own_Go p.tables e below _ T24 (mkF m 57 #[.val (.int p1), .val (.int p2), .val (.int p3), .val (.int (Int32.ofNat j)), .val (.ref b), .val (.ref sb)] [(.int (0 : Int32))])
    refine own_go (fun tz kz => XS.ifYes X24.here hx rfl (pc0 := 57) (pc' := 62) rfl (hb hby at_57) rfl (XT.i0_eq_t rfl) (by decide) (by decide) kz) ?_
    show own_Go p.tables e below _ T24 (mkF m 62 #[.val (.int p1), .val (.int p2), .val (.int p3), .val (.int (Int32.ofNat j)), .val (.ref b), .val (.ref sb)] [])
    refine own_go (fun tz kz => XS.aload X24.here hx rfl (hb hby at_62) rfl rfl kz) ?_
    show own_Go p.tables e below _ T24 (mkF m 64 #[.val (.int p1), .val (.int p2), .val (.int p3), .val (.int (Int32.ofNat j)), .val (.ref b), .val (.ref sb)] [(.ref sb)])
    obtain ⟨cq25, kq25, q25a, q25b, q25c⟩ := isOf hZ e24 Ex
    obtain ⟨_, _, ⟨T25, L25, k25, n25⟩, -, X25, ⟨Lc25, hQ25, l25, y25, z25⟩, st25⟩ := X24.virtualBack hx (y := (⟨"com/example/scriptwire/scriptwire/script/Slice", "length", "()I"⟩ : MethodName)) (z := (⟨"com/example/scriptwire/scriptwire/script/Slice", "length", "()I"⟩ : MethodName)) hown (mvT hZ (hw _ (List.mem_of_getElem? (i := 34) rfl))) (mvT hZ (hw _ (List.mem_of_getElem? (i := 35) rfl))) (notFace_of_selects (args := #[]) (mvT hZ (hw _ (List.mem_of_getElem? (i := 37) rfl)))) (mvT hZ (hw _ (List.mem_of_getElem? (i := 37) rfl))) (mvT hZ (hw _ (List.mem_of_getElem? (i := 36) rfl))) (by decide) (backOf (W := 0) (rm7 l Z a0 hw [] sb (Int32.ofNat j) T22.heap n0 (Nat.le_trans (Nat.le_trans Z0 E1.1) K22.1) Fl) hZ (hw _ (List.mem_of_getElem? (i := 38) rfl)) (hw _ (List.mem_of_getElem? (i := 3) rfl)) (by decide) (by decide)) q25a q25c (g := (mkF m 64 #[.val (.int p1), .val (.int p2), .val (.int p3), .val (.int (Int32.ofNat j)), .val (.ref b), .val (.ref sb)] [(.ref sb)])) rfl (by rw [hml]; rfl) (Steps.refl _) (argsL := []) (rest := []) (lenOf pd_4 rfl) rfl (by show 2 * 0 + _ ≤ _; exact Nat.le_of_eq rfl) (hb hby at_64) (fun _ _ => ⟨rfl, e24, (by decide : 2 + 0 ≤ _), (by decide : 18 + 0 ≤ _)⟩)
    dsimp only [Pt.U, Pt.locs, Pt.cells, Pt.slots] at X25 l25 y25 z25 st25 hQ25
    subst l25 y25 z25
    obtain ⟨rfl, N25q, e25⟩ := hQ25
    have N25 := Fr.app N24 N25q
    refine own_go (fun tz kz => st25.trans kz) ?_
    show own_Go p.tables e below _ T25 (mkF m 67 #[.val (.int p1), .val (.int p2), .val (.int p3), .val (.int (Int32.ofNat j)), .val (.ref b), .val (.ref sb)] [(.int (Int32.ofNat j))])
    refine own_go (fun tz kz => XS.iloadN X25.here hx rfl (hb hby at_67) rfl kz) ?_
    show own_Go p.tables e below _ T25 (mkF m 68 #[.val (.int p1), .val (.int p2), .val (.int p3), .val (.int (Int32.ofNat j)), .val (.ref b), .val (.ref sb)] [(.int (Int32.ofNat j)), (.int (Int32.ofNat j))])
    refine own_go (fun tz kz => XS.icmpYes X25.here hx rfl (pc0 := 68) (pc' := 73) rfl (hb hby at_68) rfl (XT.ii_eq_t rfl) (by decide) (by decide) kz) ?_
    show own_Go p.tables e below _ T25 (mkF m 73 #[.val (.int p1), .val (.int p2), .val (.int p3), .val (.int (Int32.ofNat j)), .val (.ref b), .val (.ref sb)] [])
    refine own_go (fun tz kz => XS.iloadN X25.here hx rfl (hb hby at_73) rfl kz) ?_
    show own_Go p.tables e below _ T25 (mkF m 74 #[.val (.int p1), .val (.int p2), .val (.int p3), .val (.int (Int32.ofNat j)), .val (.ref b), .val (.ref sb)] [(.int (Int32.ofNat j))])
    refine own_go (fun tz kz => XS.ifYes X25.here hx rfl (pc0 := 74) (pc' := 95) rfl (hb hby at_74) rfl (XT.i0_le_t h11) (by decide) (by decide) kz) ?_
    show own_Go p.tables e below _ T25 (mkF m 95 #[.val (.int p1), .val (.int p2), .val (.int p3), .val (.int (Int32.ofNat j)), .val (.ref b), .val (.ref sb)] [])
    refine own_go (fun tz kz => XS.iloadN X25.here hx rfl (hb hby at_95) rfl kz) ?_
    show own_Go p.tables e below _ T25 (mkF m 96 #[.val (.int p1), .val (.int p2), .val (.int p3), .val (.int (Int32.ofNat j)), .val (.ref b), .val (.ref sb)] [(.int (Int32.ofNat j))])
    refine own_go (fun tz kz => XS.iconst X25.here hx rfl (hb hby at_96) kz) ?_
    show own_Go p.tables e below _ T25 (mkF m 97 #[.val (.int p1), .val (.int p2), .val (.int p3), .val (.int (Int32.ofNat j)), .val (.ref b), .val (.ref sb)] [(.int (1 : Int32)), (.int (Int32.ofNat j))])
    refine own_go (fun tz kz => XS.icmpYes X25.here hx rfl (pc0 := 97) (pc' := 126) rfl (hb hby at_97) rfl (XT.ii_le_t h22) (by decide) (by decide) kz) ?_
    show own_Go p.tables e below _ T25 (mkF m 126 #[.val (.int p1), .val (.int p2), .val (.int p3), .val (.int (Int32.ofNat j)), .val (.ref b), .val (.ref sb)] [])
    refine own_go (fun tz kz => XS.iconst X25.here hx rfl (hb hby at_126) kz) ?_
    show own_Go p.tables e below _ T25 (mkF m 127 #[.val (.int p1), .val (.int p2), .val (.int p3), .val (.int (Int32.ofNat j)), .val (.ref b), .val (.ref sb)] [(.int (1 : Int32))])
    obtain ⟨fs, hr, hrun, hended, hW, hsame⟩ := X25.leave (v := some (.int (1 : Int32))) (fun h => by rw [Bd.returns] at h; cases h)
    refine ⟨_, _, ?_, hrun, hended, _, _, rfl, ?_, ⟨_, rfl⟩, hW, hsame.mono (by decide) (by decide)⟩
    · exact retN X25 hx (t := .boolean) Bd.returns (by simp) (hb hby at_127) hr
    · show Q0 Z p1 p2 p3 h0 n0 _ T25.heap _
      rw [e25]
      exact ⟨rfl, N25⟩
set_option maxRecDepth 65536 in
set_option maxHeartbeats 40000000 in
theorem comes_1 {Post : Tables → Env → Array Value → State → Outcome → State → Prop} (hpost : ∀ tb e args s v u, (limb_1_1.after args s (.returned v) u = true ∧ limb_1_2.after args s (.returned v) u = true ∧ True) → FrameEnd s (.returned v) u (Jvm.fieldLocs frame_1_writes args s ++ Jvm.arrayLocs frame_1_arrays args s ++ Jvm.staticLocs frame_1_statics s) 16 128 → Post tb e args s (.returned v) u) :
    ArmFor flags0 classFile x code maxLocals ret World_1 tables_1 room_1 Calls_1 rest_1 Pre_1 Post := by
  intro l hfl _ _ p e ha hc hk s m args below hf hA hF happ hP
  obtain ⟨hcalls, hrest, hpre⟩ := hP
  obtain ⟨-, -, -, hnamed, -, -, -, hat⟩ := (Spec.applies_iff hf).mp happ
  obtain ⟨hg, hn⟩ := and_e (Cond.before_iff.mp (show (Jvm.Cond.and given_1 narrow_1).before args s = true from hpre))
  obtain ⟨gc, ga0⟩ := and_e hg
  obtain ⟨gv0, ga1⟩ := and_e ga0
  obtain ⟨gv1, ga2⟩ := and_e ga1
  have gv2 := ga2
  obtain ⟨w0, w1, w2, rfl⟩ : ∃ w0 w1 w2 : Value, args = #[w0, w1, w2] := by
    have hs : args.size = 3 := by simpa [Cond.value, given_1] using gc
    obtain ⟨L⟩ := args
    match L, hs with
    | [w0, w1, w2], _ => exact ⟨w0, w1, w2, rfl⟩
  have hw := fun d (hd : d ∈ tables_1) => atoms_spec (ws := Jvm.Cond.code x code maxLocals ret :: tables_1) hat d (List.mem_cons_of_mem _ hd)
  have hfit : Fit s := fun {y c} hc i hi => by
    obtain ⟨ha, rfl⟩ := Array.getElem?_eq_some_iff.mp hc
    have q := List.all_eq_true.mp ((Array.all_eq_true_iff_forall_mem.mp hF) _ (Array.getElem_mem ha)) i (List.mem_range.mpr hi)
    simpa [Array.getElem?_eq_getElem hi] using q
  obtain ⟨i0, ei0⟩ := is_v gv0
  obtain rfl : w0 = (.int i0) := Option.some.inj ei0
  obtain ⟨i1, ei1⟩ := is_v gv1
  obtain rfl : w1 = (.int i1) := Option.some.inj ei1
  obtain ⟨i2, ei2⟩ := is_v gv2
  obtain rfl : w2 = (.int i2) := Option.some.inj ei2
  obtain ⟨n, o, h1, h2, h3, _, L, rfl, ⟨rfl, N⟩, hq⟩ := rm0 l s _ hw tables_1 i0 i1 i2  s.heap s.heap.size (Nat.le_refl _)  p e ha hc hk s m _ below hf ((Spec.applies_iff_loose hf).mp happ).1 ⟨rfl, State.Warmed39.refl s, rfl⟩ trivial
  exact ⟨n, _, h1, h2, h3, hpost _ _ _ _ _ _ ⟨Cond.after_iff.mpr rfl, Cond.after_iff.mpr (eq_i res_at (Term.int_eval (1)) rfl), trivial⟩ ⟨hq.1, hq.2.1, (hq.2.2.sift fun y hy => Or.inr (N y hy)).mono (by decide) (by decide)⟩⟩
theorem main_1_1 : Claimed_1_1 := comes_1 fun _ _ _ _ _ _ h hF => ⟨h.1, hF⟩
theorem main_1_2 : Claimed_1_2 := comes_1 fun _ _ _ _ _ _ h hF => ⟨h.2.1, hF⟩
end Jvm.Pilot.@@N@@
namespace Jvm.Pilot.@@N@@
open Jvm Jvm.ClassFile Sem Op Lib Jvm.Free Jvm.Stand Jvm.Pilot.@@N@@.Jvm.D
/-! MADE BY PROGRAM (witnessworld.py) out of the Statement's table words and the real class files: 10 classes; the members and pool entries that the words name. The judged class is class 1, her method 1. -/
namespace start1
open Jvm.ClassFile
def u (s : String) : CpInfo := .utf8 (stringToUtf16 s)
/-- a pool by its gaps: so many unusable entries, then the entry; so many at the end -/
def gap : Nat → List CpInfo → List CpInfo
  | 0, r => r
  | n + 1, r => .unusable :: gap n r
def poolList (es : List (Nat × CpInfo)) (last : Nat) : List CpInfo := es.foldr (fun e r => gap e.1 (e.2 :: r)) (gap last [])
def pool (es : List (Nat × CpInfo)) (last : Nat) : Array CpInfo := ⟨poolList es last⟩
def fileOf (pool : Array CpInfo) (this : Nat) (attrs : Array Attribute := #[]) (ms : Array MethodInfo := #[]) (fl : Nat := 33) (sup : Nat := 0) (ifs : Array Nat := #[]) (fds : Array FieldInfo := #[]) : ClassFile where
  minorVersion := 0
  majorVersion := 65
  constantPool := pool
  accessFlags := fl
  thisClass := this
  superClass := sup
  interfaces := ifs
  fields := fds
  methods := ms
  attributes := attrs
def plain (name : String) (sup : Option ClassId) : Class where
  name := name
  kind := .ordinary
  loader := none
  accessFlags := 33
  super := sup
  interfaces := #[]
  cf := none
  fields := #[]
  methods := #[]
  instanceTypes := #[]
  staticTypes := #[]
  resolved := #[]
  callSites := []
  init := .initialized
  statics := none
  mirror := none

def pool0 : Array CpInfo := pool [(5, u "<init>"), (0, u "()V"), (1, .class_ 10), (1, u "java/lang/Object")] 113

def k0c0 : Code := { maxStack := 0, maxLocals := 1, code := object_method_1_code, exceptionTable := #[], attributes := #[] }
def k0m0 : Method := { name := "<init>", desc := "()V", sig := { parameters := [], returnType := none }, accessFlags := 1, code := some k0c0 }
/-- java/lang/Object -/
def k0 : Class := { plain "java/lang/Object" none with
  accessFlags := 33
  interfaces := #[]
  cf := some (fileOf pool0 8 #[] #[{ accessFlags := 1, nameIndex := 5, descriptorIndex := 6, attributes := #[] }] 33 0 #[] #[])
  fields := #[]
  methods := #[k0m0]
  instanceTypes := #[]
  staticTypes := #[]
  resolved := Array.replicate 124 none
  statics := none }

def pool1 : Array CpInfo := pool [(2, .class_ 4), (1, u "java/lang/Object"), (0, u "<init>"), (0, u "()V"), (0, .methodref 8 9), (0, .class_ 10), (0, .nameAndType 11 12), (0, u "com/example/scriptwire/scriptwire/script/Slice"), (0, u "of"), (0, u "([B)Lcom/example/scriptwire/scriptwire/script/Slice;"), (0, .methodref 8 14), (0, .nameAndType 15 16), (0, u "array"), (0, u "()[B"), (0, .methodref 8 18), (0, .nameAndType 19 20), (0, u "offset"), (0, u "()I"), (0, .methodref 8 22), (0, .nameAndType 23 20), (0, u "length"), (0, .class_ 25), (0, u "com/example/scriptwire/scriptwire/script/SliceOfPinLaw"), (2, u "law"), (0, u "(III)Z")] 5

def k1m0 : Method := { name := "<init>", desc := "()V", sig := { parameters := [], returnType := none }, accessFlags := 1, code := none }
def k1c1 : Code := { maxStack := 3, maxLocals := 6, code := code, exceptionTable := #[], attributes := #[] }
def k1m1 : Method := { name := "law", desc := "(III)Z", sig := { parameters := [.int, .int, .int], returnType := some .boolean }, accessFlags := 9, code := some k1c1 }
/-- com/example/scriptwire/scriptwire/script/SliceOfPinLaw -/
def k1 : Class := { plain "com/example/scriptwire/scriptwire/script/SliceOfPinLaw" (some 0) with
  accessFlags := 49
  interfaces := #[]
  cf := some (fileOf pool1 24 #[] #[{ accessFlags := 1, nameIndex := 5, descriptorIndex := 6, attributes := #[] }, { accessFlags := 9, nameIndex := 28, descriptorIndex := 29, attributes := #[] }] 49 2 #[] #[])
  fields := #[]
  methods := #[k1m0, k1m1]
  instanceTypes := #[]
  staticTypes := #[]
  resolved := Array.replicate 35 none
  statics := none }

def pool2 : Array CpInfo := pool [(1, .methodref 2 3), (0, .class_ 4), (0, .nameAndType 5 6), (0, u "java/lang/Object"), (0, u "<init>"), (0, u "()V"), (0, .class_ 8), (0, u "java/lang/Record")] 13

def k2c0 : Code := { maxStack := 1, maxLocals := 1, code := jdk_30_method_1_code, exceptionTable := #[], attributes := #[] }
def k2m0 : Method := { name := "<init>", desc := "()V", sig := { parameters := [], returnType := none }, accessFlags := 4, code := some k2c0 }
/-- java/lang/Record -/
def k2 : Class := { plain "java/lang/Record" (some 0) with
  accessFlags := 1057
  interfaces := #[]
  cf := some (fileOf pool2 7 #[] #[{ accessFlags := 4, nameIndex := 5, descriptorIndex := 6, attributes := #[] }] 1057 2 #[] #[])
  fields := #[]
  methods := #[k2m0]
  instanceTypes := #[]
  staticTypes := #[]
  resolved := Array.replicate 22 none
  statics := none }

def pool3 : Array CpInfo := pool [(1, .methodref 2 3), (0, .class_ 4), (0, .nameAndType 5 6), (0, u "java/lang/Record"), (0, u "<init>"), (0, u "()V"), (0, .fieldref 8 9), (0, .class_ 10), (0, .nameAndType 11 12), (0, u "com/example/scriptwire/scriptwire/script/Slice"), (0, u "array"), (0, u "[B"), (0, .fieldref 8 14), (0, .nameAndType 15 16), (0, u "offset"), (0, u "I"), (0, .fieldref 8 18), (0, .nameAndType 19 16), (0, u "length"), (0, .methodref 8 21), (0, .nameAndType 5 22), (0, u "([BII)V"), (15, u "of"), (0, u "([B)Lcom/example/scriptwire/scriptwire/script/Slice;"), (1, u "()I"), (1, u "()[B")] 22

def k3c0 : Code := { maxStack := 2, maxLocals := 4, code := prog_74_method_1_code, exceptionTable := #[], attributes := #[] }
def k3m0 : Method := { name := "<init>", desc := "([BII)V", sig := { parameters := [(.array .byte), .int, .int], returnType := none }, accessFlags := 0, code := some k3c0 }
def k3c1 : Code := { maxStack := 5, maxLocals := 1, code := prog_74_method_2_code, exceptionTable := #[], attributes := #[] }
def k3m1 : Method := { name := "of", desc := "([B)Lcom/example/scriptwire/scriptwire/script/Slice;", sig := { parameters := [(.array .byte)], returnType := some (.object "com/example/scriptwire/scriptwire/script/Slice") }, accessFlags := 8, code := some k3c1 }
def k3c2 : Code := { maxStack := 1, maxLocals := 1, code := prog_74_method_6_code, exceptionTable := #[], attributes := #[] }
def k3m2 : Method := { name := "array", desc := "()[B", sig := { parameters := [], returnType := some (.array .byte) }, accessFlags := 1, code := some k3c2 }
def k3c3 : Code := { maxStack := 1, maxLocals := 1, code := prog_74_method_7_code, exceptionTable := #[], attributes := #[] }
def k3m3 : Method := { name := "offset", desc := "()I", sig := { parameters := [], returnType := some .int }, accessFlags := 1, code := some k3c3 }
def k3c4 : Code := { maxStack := 1, maxLocals := 1, code := prog_74_method_8_code, exceptionTable := #[], attributes := #[] }
def k3m4 : Method := { name := "length", desc := "()I", sig := { parameters := [], returnType := some .int }, accessFlags := 1, code := some k3c4 }
/-- com/example/scriptwire/scriptwire/script/Slice -/
def k3 : Class := { plain "com/example/scriptwire/scriptwire/script/Slice" (some 2) with
  accessFlags := 48
  interfaces := #[]
  cf := some (fileOf pool3 8 #[] #[{ accessFlags := 0, nameIndex := 5, descriptorIndex := 22, attributes := #[] }, { accessFlags := 8, nameIndex := 38, descriptorIndex := 39, attributes := #[] }, { accessFlags := 1, nameIndex := 11, descriptorIndex := 43, attributes := #[] }, { accessFlags := 1, nameIndex := 15, descriptorIndex := 41, attributes := #[] }, { accessFlags := 1, nameIndex := 19, descriptorIndex := 41, attributes := #[] }] 48 2 #[] #[{ accessFlags := 18, nameIndex := 11, descriptorIndex := 12, attributes := #[] }, { accessFlags := 18, nameIndex := 15, descriptorIndex := 16, attributes := #[] }, { accessFlags := 18, nameIndex := 19, descriptorIndex := 16, attributes := #[] }])
  fields := #[{ name := "array", type := (.array .byte), accessFlags := 18, slot := 0, constantValue := 0 }, { name := "offset", type := .int, accessFlags := 18, slot := 1, constantValue := 0 }, { name := "length", type := .int, accessFlags := 18, slot := 2, constantValue := 0 }]
  methods := #[k3m0, k3m1, k3m2, k3m3, k3m4]
  instanceTypes := #[(.array .byte), .int, .int]
  staticTypes := #[]
  resolved := Array.replicate 66 none
  statics := none }

def pool4 : Array CpInfo := pool [(1, u "java/lang/Cloneable"), (0, .class_ 1), (0, u "java/lang/Object"), (0, .class_ 3)] 3

/-- java/lang/Cloneable -/
def k4 : Class := { plain "java/lang/Cloneable" (some 0) with
  accessFlags := 1537
  interfaces := #[]
  cf := some (fileOf pool4 2 #[] #[] 1537 4 #[] #[])
  fields := #[]
  methods := #[]
  instanceTypes := #[]
  staticTypes := #[]
  resolved := Array.replicate 8 none
  statics := none }

def pool5 : Array CpInfo := pool [(1, u "java/io/Serializable"), (0, .class_ 1), (0, u "java/lang/Object"), (0, .class_ 3)] 3

/-- java/io/Serializable -/
def k5 : Class := { plain "java/io/Serializable" (some 0) with
  accessFlags := 1537
  interfaces := #[]
  cf := some (fileOf pool5 2 #[] #[] 1537 4 #[] #[])
  fields := #[]
  methods := #[]
  instanceTypes := #[]
  staticTypes := #[]
  resolved := Array.replicate 8 none
  statics := none }

/-- the primitive byte -/
def k6 : Class := { plain "byte" none with kind := .primitive 'B', accessFlags := 0x411 }
/-- [B -/
def k7 : Class := { plain "[B" (some 0) with kind := .array 6 .byte, interfaces := #[4, 5], accessFlags := 1041 }

/-- the primitive int -/
def k8 : Class := { plain "int" none with kind := .primitive 'I', accessFlags := 0x411 }
/-- [I -/
def k9 : Class := { plain "[I" (some 0) with kind := .array 8 .int, interfaces := #[4, 5], accessFlags := 1041 }

def heap : Heap := #[]
def classes : Array Class := #[k0, k1, k2, k3, k4, k5, k6, k7, k8, k9]
def interned : List (Array UInt16 × Addr) := []
def slotsUsed : Nat := 0
def theMethod : MethodId := ⟨1, 1⟩
def args0 : Array Value := #[.int 5, .int 300, .int 7]
def aboutOver (below : List Frame) : State where
  vm := { classes := classes, interned := interned.toArray }
  heap := heap
  slotsUsed := slotsUsed
  threads := #[{ frames := .invoking theMethod args0 :: below }]
def below0 : List Frame := [.native { method := ⟨0, 0⟩, args := #[] }]
def about1 : State := aboutOver below0
def p0 : Program := .bare "" "" ""
def e0 : Env := launch0.env 0 0 0
theorem w_frames : about1.frames = Frame.invoking theMethod args0 :: below0 := rfl
set_option maxRecDepth 65536 in
theorem w_args : argsFit about1.vm theMethod args0 = true := by decide +kernel
set_option maxRecDepth 65536 in
theorem w_heap : heapFits about1 = true := by decide +kernel
set_option maxRecDepth 65536 in
theorem w_runnable : about1.curStatus? = some .runnable := by decide +kernel
set_option maxRecDepth 65536 in
theorem w_alone : about1.alone = true := by decide +kernel
set_option maxRecDepth 65536 in
theorem w_named : about1.methodNamed? x = some theMethod := by decide +kernel
set_option maxRecDepth 65536 in
theorem w_hears : about1.hears theMethod below0 = true := by decide +kernel
set_option maxRecDepth 65536 in
theorem w_ripe : about1.ripe theMethod args0 below0 = true := by decide +kernel
theorem w_running : about1.status = .running := rfl
set_option maxRecDepth 65536 in
theorem w_room : about1.hasRoom e0.platform room_1 = true :=
  launch0.hasRoom_least _ room_1 (by decide +kernel) (by decide +kernel) (by decide +kernel) (by decide +kernel) (by decide +kernel) (by decide +kernel)
theorem allAtoms_all (ts : List Jvm.Cond) (a : Array Jvm.Value) (st : Jvm.State) : (allAtoms ts).before a st = ts.all (fun c => c.before a st) := by
  induction ts with
  | nil => rfl
  | cons c t ih =>
    show (Jvm.Cond.and c (allAtoms t)).before a st = _
    rw [Jvm.Cond.before_and, ih, List.all_cons]
def words1 : List Jvm.Cond := Jvm.Cond.code x code maxLocals ret :: tables_1
/-- a 'code' word, met by the world's own term for the bytes: nothing is compared byte by byte -/
theorem code_word {y : MethodName} {bytes : ByteArray} {mx : Nat} {rt : Option FieldType} {a : Array Value} {s : State} {m : MethodId} {meth : Method} {c : Code} (h1 : s.methodNamed? y = some m) (h2 : s.vm.method? m = some meth) (h3 : meth.code = some c) (h4 : c.code = bytes)
    (h5 : (c.maxLocals == mx && c.exceptionTable.isEmpty && decide (c.maxStack ≤ mostOperands) && decide (meth.sig.returnType = rt) && !meth.locks && decide (parseMethodDescriptor y.desc = some meth.sig)) = true) : (Jvm.Cond.code y bytes mx rt).before a s = true := by
  simp only [Bool.and_eq_true, beq_iff_eq, Bool.not_eq_true', decide_eq_true_eq] at h5
  obtain ⟨⟨⟨⟨⟨g1, g2⟩, g3⟩, g4⟩, g5⟩, g6⟩ := h5
  simp [Cond.before, Cond.holds, Cond.value, h1, h2, h3, h4, g1, g2, g3, g4, g5, g6]
def isCode : Jvm.Cond → Bool
  | .code _ _ _ _ => true
  | _ => false
theorem all_split {L : List Jvm.Cond} {P : Jvm.Cond → Bool} (h1 : L.all (fun c => isCode c || P c) = true) (h2 : ∀ c ∈ L.filter isCode, P c = true) : L.all P = true := by
  refine List.all_eq_true.mpr fun c hc => ?_
  have h := List.all_eq_true.mp h1 c hc
  rcases Bool.eq_false_or_eq_true (isCode c) with hi | hi
  · exact h2 c (List.mem_filter.mpr ⟨hc, hi⟩)
  · simpa [hi] using h
set_option maxRecDepth 65536 in
theorem w_c0 : (Jvm.Cond.code x code maxLocals ret).before args0 about1 = true := code_word (m := ⟨1, 1⟩) (meth := k1m1) (c := k1c1) (by decide +kernel) rfl rfl rfl (by decide +kernel)
set_option maxRecDepth 65536 in
theorem w_c1 : (Jvm.Cond.code ({ cls := "com/example/scriptwire/scriptwire/script/Slice", name := "of", desc := "([B)Lcom/example/scriptwire/scriptwire/script/Slice;" } : Jvm.MethodName) prog_74_method_2_code (1 : Nat) (Option.some (Jvm.ClassFile.FieldType.object "com/example/scriptwire/scriptwire/script/Slice"))).before args0 about1 = true := code_word (m := ⟨3, 1⟩) (meth := k3m1) (c := k3c1) (by decide +kernel) rfl rfl rfl (by decide +kernel)
set_option maxRecDepth 65536 in
theorem w_c2 : (Jvm.Cond.code ({ cls := "com/example/scriptwire/scriptwire/script/Slice", name := "<init>", desc := "([BII)V" } : Jvm.MethodName) prog_74_method_1_code (4 : Nat) (Option.none : Option Jvm.ClassFile.FieldType)).before args0 about1 = true := code_word (m := ⟨3, 0⟩) (meth := k3m0) (c := k3c0) (by decide +kernel) rfl rfl rfl (by decide +kernel)
set_option maxRecDepth 65536 in
theorem w_c3 : (Jvm.Cond.code ({ cls := "java/lang/Record", name := "<init>", desc := "()V" } : Jvm.MethodName) jdk_30_method_1_code (1 : Nat) (Option.none : Option Jvm.ClassFile.FieldType)).before args0 about1 = true := code_word (m := ⟨2, 0⟩) (meth := k2m0) (c := k2c0) (by decide +kernel) rfl rfl rfl (by decide +kernel)
set_option maxRecDepth 65536 in
theorem w_c4 : (Jvm.Cond.code ({ cls := "java/lang/Object", name := "<init>", desc := "()V" } : Jvm.MethodName) object_method_1_code (1 : Nat) (Option.none : Option Jvm.ClassFile.FieldType)).before args0 about1 = true := code_word (m := ⟨0, 0⟩) (meth := k0m0) (c := k0c0) (by decide +kernel) rfl rfl rfl (by decide +kernel)
set_option maxRecDepth 65536 in
theorem w_c5 : (Jvm.Cond.code ({ cls := "com/example/scriptwire/scriptwire/script/Slice", name := "array", desc := "()[B" } : Jvm.MethodName) prog_74_method_6_code (1 : Nat) (Option.some (Jvm.ClassFile.FieldType.array Jvm.ClassFile.FieldType.byte))).before args0 about1 = true := code_word (m := ⟨3, 2⟩) (meth := k3m2) (c := k3c2) (by decide +kernel) rfl rfl rfl (by decide +kernel)
set_option maxRecDepth 65536 in
theorem w_c6 : (Jvm.Cond.code ({ cls := "com/example/scriptwire/scriptwire/script/Slice", name := "offset", desc := "()I" } : Jvm.MethodName) prog_74_method_7_code (1 : Nat) (Option.some Jvm.ClassFile.FieldType.int)).before args0 about1 = true := code_word (m := ⟨3, 3⟩) (meth := k3m3) (c := k3c3) (by decide +kernel) rfl rfl rfl (by decide +kernel)
set_option maxRecDepth 65536 in
theorem w_c7 : (Jvm.Cond.code ({ cls := "com/example/scriptwire/scriptwire/script/Slice", name := "length", desc := "()I" } : Jvm.MethodName) prog_74_method_8_code (1 : Nat) (Option.some Jvm.ClassFile.FieldType.int)).before args0 about1 = true := code_word (m := ⟨3, 4⟩) (meth := k3m4) (c := k3c4) (by decide +kernel) rfl rfl rfl (by decide +kernel)
def codes1 : List Jvm.Cond := [Jvm.Cond.code x code maxLocals ret, Jvm.Cond.code ({ cls := "com/example/scriptwire/scriptwire/script/Slice", name := "of", desc := "([B)Lcom/example/scriptwire/scriptwire/script/Slice;" } : Jvm.MethodName) prog_74_method_2_code (1 : Nat) (Option.some (Jvm.ClassFile.FieldType.object "com/example/scriptwire/scriptwire/script/Slice")), Jvm.Cond.code ({ cls := "com/example/scriptwire/scriptwire/script/Slice", name := "<init>", desc := "([BII)V" } : Jvm.MethodName) prog_74_method_1_code (4 : Nat) (Option.none : Option Jvm.ClassFile.FieldType), Jvm.Cond.code ({ cls := "java/lang/Record", name := "<init>", desc := "()V" } : Jvm.MethodName) jdk_30_method_1_code (1 : Nat) (Option.none : Option Jvm.ClassFile.FieldType), Jvm.Cond.code ({ cls := "java/lang/Object", name := "<init>", desc := "()V" } : Jvm.MethodName) object_method_1_code (1 : Nat) (Option.none : Option Jvm.ClassFile.FieldType), Jvm.Cond.code ({ cls := "com/example/scriptwire/scriptwire/script/Slice", name := "array", desc := "()[B" } : Jvm.MethodName) prog_74_method_6_code (1 : Nat) (Option.some (Jvm.ClassFile.FieldType.array Jvm.ClassFile.FieldType.byte)), Jvm.Cond.code ({ cls := "com/example/scriptwire/scriptwire/script/Slice", name := "offset", desc := "()I" } : Jvm.MethodName) prog_74_method_7_code (1 : Nat) (Option.some Jvm.ClassFile.FieldType.int), Jvm.Cond.code ({ cls := "com/example/scriptwire/scriptwire/script/Slice", name := "length", desc := "()I" } : Jvm.MethodName) prog_74_method_8_code (1 : Nat) (Option.some Jvm.ClassFile.FieldType.int)]
set_option maxRecDepth 65536 in
theorem codes_eq : words1.filter isCode = codes1 := rfl
theorem w_codes : ∀ c ∈ words1.filter isCode, c.before args0 about1 = true := by
  rw [codes_eq]
  intro c hc
  simp only [codes1, List.mem_cons, List.not_mem_nil, or_false] at hc
  rcases hc with rfl | rfl | rfl | rfl | rfl | rfl | rfl | rfl
  · exact w_c0
  · exact w_c1
  · exact w_c2
  · exact w_c3
  · exact w_c4
  · exact w_c5
  · exact w_c6
  · exact w_c7
set_option maxRecDepth 65536 in
theorem w_t1 : (words1.take 24).all (fun c => isCode c || c.before args0 about1) = true := by decide +kernel
set_option maxRecDepth 65536 in
theorem w_t2 : (words1.drop 24).all (fun c => isCode c || c.before args0 about1) = true := by decide +kernel
theorem w_tables : (allAtoms (Jvm.Cond.code x code maxLocals ret :: tables_1)).before args0 about1 = true := by
  rw [allAtoms_all]
  show words1.all (fun c => c.before args0 about1) = true
  refine all_split ?_ w_codes
  rw [← List.take_append_drop 24 words1, List.all_append, w_t1, w_t2]
  rfl
set_option maxRecDepth 65536 in
theorem w_case : (Jvm.Cond.and given_1 narrow_1).before args0 about1 = true := by decide +kernel
theorem w_applies : (headSpec (Jvm.Cond.code x code maxLocals ret :: tables_1) room_1).applies x e0.platform about1 = true :=
  (Spec.applies_iff w_frames).mpr ⟨w_running, w_runnable, w_alone, w_named, w_hears, w_ripe, w_room, w_tables⟩
theorem atStart : AtStart classFile x code maxLocals ret World_1 tables_1 room_1 Calls_1 rest_1 Pre_1 launch0 p0 e0 about1 theMethod args0 below0 :=
  ⟨lists_1, trivial, launch0.admits_env _ _ _, launch0.least_env, fairChoices_fair.cas, fairChoices_fair.clock, w_frames, w_args, w_heap, w_applies, trivial, trivial, w_case⟩
end start1
theorem witness_1 : WitnessClaimed_1 := ⟨start1.p0, start1.e0, start1.about1, start1.theMethod, start1.args0, start1.below0, start1.atStart⟩
end Jvm.Pilot.@@N@@
